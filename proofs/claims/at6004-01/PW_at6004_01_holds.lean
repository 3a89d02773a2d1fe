import PyProof.Rows.All
import Wide.All
import OpenK.AllK
import Wide.FinOn
import KE.KTryMore
import PyProof.ListRange
import OpenK.KEqL
import KE.KLam
import KE.KItemsList
import KE.KSortTup
import KE.KStateDown
import PySem.Challenge.RW_at6004_01
open PySem PySem.W PyProof.Rows PySem.Spec PySem.Calls
set_option Elab.async false
set_option linter.all false
set_option maxRecDepth 100000
set_option maxHeartbeats 8000000
open_top hd for PySem.Challenge.rw_at6004_01
namespace Mine
section
set_option linter.all false

structure Cfg where
  prog : Program
  w : World
  gens : Array GenState
  drawn : Drawn
  os : OsState

abbrev Cfg.sh (C : Cfg) (h : Heap) (k : Nat) : Shared := ⟨h, C.gens, C.drawn, k, C.os⟩
abbrev Cfg.M (C : Cfg) : Model := model C.prog C.w
def Po (C : Cfg) {α : Type} (Q : α → Heap → Prop) : α → Shared → Prop := fun a s => ∃ h k, s = C.sh h k ∧ Q a h
def W (C : Cfg) (A : Around) {α : Type} (t : Sem α) (Q : α → Heap → Prop) (E : Value → Heap → Prop) (h : Heap) : Prop :=
  ∀ k, wpAny C.M A t (Po C Q) (Po C E) (C.sh h k)
def CW (C : Cfg) (A : Around) (c : Code) (R : Result → Heap → Prop) (h : Heap) : Prop :=
  ∀ k, codeAny C.M A c (Po C R) (C.sh h k)

section
variable {C : Cfg} {A : Around} {α β : Type} {E : Value → Heap → Prop} {h : Heap}

theorem po {Q : α → Heap → Prop} {a : α} {h : Heap} {k : Nat} (q : Q a h) : Po C Q a (C.sh h k) := ⟨h, k, rfl, q⟩

theorem W_mono {t : Sem α} {Q Q' : α → Heap → Prop} {E' : Value → Heap → Prop} (x : W C A t Q E h) (hQ : ∀ a h, Q a h → Q' a h) (hE : ∀ e h, E e h → E' e h) : W C A t Q' E' h :=
  fun k => wpAny_mono (x k) (fun a _ ⟨h', k', e, q⟩ => ⟨h', k', e, hQ a h' q⟩) fun a _ ⟨h', k', e, q⟩ => ⟨h', k', e, hE a h' q⟩
theorem W_pure {a : α} {Q : α → Heap → Prop} (q : Q a h) : W C A (pure a : Sem α) Q E h := fun _ => wpAny_pure (po q)
theorem W_bind {m : Sem α} {f : α → Sem β} {Q : β → Heap → Prop} (x : W C A m (fun a h' => W C A (f a) Q E h') E h) : W C A (m >>= f) Q E h :=
  fun k => wpAny_bind (wpAny_mono (x k) (fun _ _ ⟨_, k', e, q⟩ => e ▸ q k') fun _ _ y => y)
theorem W_map {m : Sem α} {f : α → β} {Q : β → Heap → Prop} (x : W C A m (fun a h' => Q (f a) h') E h) : W C A (f <$> m) Q E h :=
  fun k => wpAny_map (wpAny_mono (x k) (fun _ _ ⟨h', k', e, q⟩ => ⟨h', k', e, q⟩) fun _ _ y => y)
theorem W_tryCatch {m : Sem α} {f : Value → Sem α} {Q : α → Heap → Prop} (x : W C A m Q (fun e h' => W C A (f e) Q E h') h) : W C A (tryCatch m f) Q E h :=
  fun k => wpAny_tryCatch (wpAny_mono (x k) (fun _ _ y => y) fun _ _ ⟨_, k', e, q⟩ => e ▸ q k')
theorem W_onRaise {m : Sem α} {f : Value → Sem Unit} {Q : α → Heap → Prop} (x : W C A m Q (fun e h' => W C A (f e) (fun _ h'' => E e h'') E h') h) : W C A (m.onRaise f) Q E h :=
  fun k => wpAny_onRaise (wpAny_mono (x k) (fun _ _ y => y) fun e _ ⟨_, k', e', q⟩ => e' ▸ wpAny_mono (q k') (fun _ _ ⟨h2, k2, e2, q2⟩ => ⟨h2, k2, e2, q2⟩) fun _ _ y => y)
theorem W_attempt {m : Sem α} {Q : Except Value α → Heap → Prop} (x : W C A m (fun a => Q (.ok a)) (fun e => Q (.error e)) h) : W C A m.attempt Q E h :=
  fun k => wpAny_attempt (wpAny_mono (x k) (fun _ _ ⟨h', k', e, q⟩ => ⟨h', k', e, q⟩) fun _ _ ⟨h', k', e, q⟩ => ⟨h', k', e, q⟩)
theorem W_holding {vs : List Value} {m : Sem α} {Q : α → Heap → Prop} (x : W C A m Q E h) : W C A (holding vs m) Q E h := fun k => wpAny_holding (x k)
theorem W_keep {vs : List Value} {m : Sem α} {Q : α → Heap → Prop} (x : W C A m Q E h) : W C A (m.keep vs) Q E h := fun k => Calls.wpAny_keep (x k)
theorem W_rule {tag : String} {Q : Unit → Heap → Prop} (q : Q () h) : W C A (rule tag) Q E h := fun _ => wpAny_rule (po q)
theorem W_standAt {pos : Pos} {Q : Unit → Heap → Prop} (q : Q () h) : W C A (standAt pos) Q E h := fun _ => wpAny_standAt (po q)
theorem W_point {Q : Unit → Heap → Prop} (q : Q () h) : W C A point Q E h := fun _ => wpAny_point (po q)
theorem W_load {a : Addr} {o : Obj} {Q : Obj → Heap → Prop} (ho : h.get? a = some o) (q : Q o h) : W C A (load a) Q E h := fun _ => wpAny_load ho (po q)
theorem W_loadPart {a : Addr} {pt : Option Value} {o : Obj} {Q : Obj → Heap → Prop} (ho : h.get? a = some o) (q : Q o h) : W C A (loadPart a pt) Q E h := fun _ => wpAny_loadPart ho (po q)
theorem W_mkInt {i : Int} {Q : Value → Heap → Prop} (q : ∀ t, Q (.int i t) h) : W C A (mkInt i) Q E h := fun _ => wpAny_mkInt (po (q _))
theorem W_mkText {x : Str} {Q : Value → Heap → Prop} (q : ∀ t, Q (.str x t) h) : W C A (mkText x) Q E h := fun _ => wpAny_mkText (po (q _))
theorem W_mkStr {x : Str} {Q : Value → Heap → Prop} (hx : x.length ≤ sizeLine) (q : ∀ t, Q (.str x t) h) : W C A (mkStr x) Q E h := fun _ => wpAny_mkStr (po (q _)) hx
theorem W_throw {e : Value} {Q : α → Heap → Prop} (q : E e h) : W C A (throw e : Sem α) Q E h := fun _ => wpAny_throw (po q)
theorem W_units_le {t : Sem α} {Q : α → Heap → Prop} {u : Nat} (x : W C A t Q E h) (hu : u ≤ A.units) : W C { A with units := u } t Q E h := fun k => wpAny_units_le (x k) hu
theorem W_of_in1 {t : Sem α} {Q : α → Heap → Prop} (x : W C A.in1 t Q E h) : W C A t Q E h := fun k => wpAny_of_in1 (x k)

theorem CW_mono {c : Code} {R R' : Result → Heap → Prop} (x : CW C A c R h) (hR : ∀ r h, R r h → R' r h) : CW C A c R' h :=
  fun k => codeAny_mono (x k) fun r _ ⟨h', k', e, q⟩ => ⟨h', k', e, hR r h' q⟩

def Rv (Q : Value → Heap → Prop) (E : Value → Heap → Prop) : Result → Heap → Prop
  | .ok (.ret v), h => Q v h
  | .ok _, _ => False
  | .error e, h => E e h
theorem W_call {f : Value} {pos : List Value} {kw : List (Str × Value)} {Q : Value → Heap → Prop} (x : CW C A (.call f ⟨pos, kw⟩) (Rv Q E) h) : W C A (call f pos kw) Q E h :=
  fun k => wpAny_call (codeAny_mono (x k) fun r s' ⟨h', k', e, q⟩ => by
    subst e
    cases r with
    | ok f => cases f <;> first | exact ⟨h', k', rfl, q⟩ | exact q.elim
    | error e => exact ⟨h', k', rfl, q⟩)
theorem W_runValue {c : Code} {Q : Value → Heap → Prop} (x : CW C A c (Rv Q E) h) : W C A (runValue c) Q E h :=
  fun k => wpAny_runValue (codeAny_mono (x k) fun r s' ⟨h', k', e, q⟩ => by
    subst e
    cases r with
    | ok f => cases f <;> first | exact ⟨h', k', rfl, q⟩ | exact q.elim
    | error e => exact ⟨h', k', rfl, q⟩)
end

def Lo (xs : List Str) (vs : List (Option Value)) (m : Str → Option Value) : Prop := xs.length = vs.length ∧ ∀ (i : Nat) (x : Str) (v : Option Value), xs[i]? = some x → vs[i]? = some v → m x = v
abbrev tabOb (ps : Array Value) : Obj := { cls := .none, data := .fields ps }
inductive Ents (P : Params) : List Str → List Value → List DictEntry → Prop
  | nil : Ents P [] [] []
  | cons {k t v ks vs es} : Ents P ks vs es → Ents P (k :: ks) (v :: vs) (⟨PyData.keyHash P k, .str k t, v⟩ :: es)

inductive Sp where
  | obj (o : Obj)
  | frm (xs : List Str) (vs : List (Option Value))
  | cell (v : Option Value)
  | lst (vs : List Value)
  | sd (ks : List Str) (vs : List Value)
  | tab (q : Pos → Str)
  | any (p : Obj → Prop)

def Sat (P : Params) (g h : Heap) (a : Addr) : Sp → Prop
  | .obj o => h.get? a = some o
  | .frm xs vs => ∃ m, h.Ns a m ∧ Lo xs vs m
  | .cell v => h.IsCell a v
  | .lst vs => ∃ n, h.get? a = some { cls := .type "list", data := .seq vs.toArray n }
  | .sd ks vs => ∃ es n, h.get? a = some { cls := .type "dict", data := .dict es.toArray n } ∧ Ents P ks vs es ∧ (a == sysModules) = false
  | .tab q => ∃ ps, h.get? a = some (tabOb ps) ∧ TriplesOk ps.toList ∧ ∀ pos c, codeAmong pos ps.toList = some c → g.CodeRec c (q pos)
  | .any p => ∃ o, h.get? a = some o ∧ p o

abbrev Led := List (Addr × Sp)
def Le (g g' : Heap) : Prop := ∀ b o, g.get? b = some o → g'.get? b = some o
theorem Le.refl (g : Heap) : Le g g := fun _ _ e => e
theorem Le.trans {g g' g'' : Heap} (x : Le g g') (y : Le g' g'') : Le g g'' := fun b o e => y b o (x b o e)

structure Hp (P : Params) (g : Heap) (V : Led) (h : Heap) : Prop where
  le : Le g h
  sat : ∀ p ∈ V, Sat P g h p.1 p.2
  out : ∀ p ∈ V, g.get? p.1 = none
  nd : (V.map (·.1)).Nodup

theorem Sat.ex {P : Params} {g h : Heap} {a : Addr} {s : Sp} (x : Sat P g h a s) : ∃ o, h.get? a = some o := by
  cases s with
  | obj o => exact ⟨_, x⟩
  | frm => obtain ⟨_, ⟨o, _, _, e, _⟩, _⟩ := x; exact ⟨_, e⟩
  | cell => obtain ⟨_, e, _⟩ := x; exact ⟨_, e⟩
  | lst => obtain ⟨_, e⟩ := x; exact ⟨_, e⟩
  | sd => obtain ⟨_, _, e, _⟩ := x; exact ⟨_, e⟩
  | tab => obtain ⟨_, e, _⟩ := x; exact ⟨_, e⟩
  | any => obtain ⟨_, e, _⟩ := x; exact ⟨_, e⟩
theorem Sat.of_get {P : Params} {g h h' : Heap} {a : Addr} {s : Sp} (x : Sat P g h a s) (e : ∀ o, h.get? a = some o → h'.get? a = some o) : Sat P g h' a s := by
  cases s with
  | obj o => exact e _ x
  | frm => obtain ⟨m, ⟨o, es, n, y, r⟩, l⟩ := x; exact ⟨m, ⟨o, es, n, e _ y, r⟩, l⟩
  | cell => obtain ⟨sl, y, z⟩ := x; exact ⟨sl, e _ y, z⟩
  | lst => obtain ⟨n, y⟩ := x; exact ⟨n, e _ y⟩
  | sd => obtain ⟨es, n, y, r⟩ := x; exact ⟨es, n, e _ y, r⟩
  | tab => obtain ⟨ps, y, r⟩ := x; exact ⟨ps, e _ y, r⟩
  | any => obtain ⟨o, y, r⟩ := x; exact ⟨o, e _ y, r⟩
theorem Sat.up {P : Params} {g g' h : Heap} {a : Addr} {s : Sp} (x : Sat P g h a s) (le : Le g g') : Sat P g' h a s := by
  cases s with
  | tab q => obtain ⟨ps, y, z, r⟩ := x; exact ⟨ps, y, z, fun pos c e => (r pos c e).keeps le⟩
  | _ => exact x

end
section
set_option linter.all false

inductive Lk : List Str → List (Option Value) → Str → Value → Prop
  | head {x xs v vs} : Lk (x :: xs) (some v :: vs) x v
  | tail {x xs o vs y v} : Lk xs vs y v → Lk (x :: xs) (o :: vs) y v
inductive St : List Str → List (Option Value) → Str → Value → List (Option Value) → Prop
  | head {x xs v o vs} : St (x :: xs) (o :: vs) x v (some v :: vs)
  | tail {x xs o vs y v vs'} : St xs vs y v vs' → St (x :: xs) (o :: vs) y v (o :: vs')
inductive Up (a : Addr) (s s' : Sp) : Led → Led → Prop
  | head {r} : Up a s s' ((a, s) :: r) ((a, s') :: r)
  | tail {p r r'} : Up a s s' r r' → Up a s s' (p :: r) (p :: r')

theorem Lk.at {xs vs x v} (l : Lk xs vs x v) : ∃ i : Nat, xs[i]? = some x ∧ vs[i]? = some (some v) := by
  induction l with
  | head => exact ⟨0, rfl, rfl⟩
  | tail _ ih => obtain ⟨i, a, b⟩ := ih; exact ⟨i + 1, by simpa using a, by simpa using b⟩
theorem St.at {xs vs x v vs'} (l : St xs vs x v vs') : ∃ i : Nat, xs[i]? = some x ∧ i < vs.length ∧ vs' = vs.set i (some v) := by
  induction l with
  | head => exact ⟨0, rfl, by simp, rfl⟩
  | tail _ ih => obtain ⟨i, a, b, c⟩ := ih; exact ⟨i + 1, by simpa using a, by simpa using b, by simp [c]⟩
theorem Lo.lk {xs vs m x v} (l : Lo xs vs m) (k : Lk xs vs x v) : m x = some v := by
  obtain ⟨i, a, b⟩ := k.at
  exact l.2 i x _ a b
theorem Lo.st {xs vs m x v vs'} (nd : xs.Nodup) (l : Lo xs vs m) (k : St xs vs x v vs') : Lo xs vs' (fun y => if y = x then some v else m y) := by
  obtain ⟨i, a, b, rfl⟩ := k.at
  refine ⟨by simpa using l.1, fun j y u ha hu => ?_⟩
  by_cases hij : i = j
  · subst hij
    rw [a] at ha; cases ha
    rw [List.getElem?_set_self b] at hu
    cases hu; simp
  · rw [List.getElem?_set_ne hij] at hu
    have hne : y ≠ x := fun q => by
      subst q
      have hi := (List.getElem?_eq_some_iff.mp a).1
      have hj := (List.getElem?_eq_some_iff.mp ha).1
      exact hij ((List.getElem?_inj hi nd).mp (a.trans ha.symm))
    simp only [if_neg hne]
    exact l.2 j y u ha hu

section
variable {P : Params} {g g' h h' : Heap} {V V' : Led} {a : Addr} {s s' : Sp} {o : Obj}

theorem Up.mem (u : Up a s s' V V') : (a, s) ∈ V := by
  induction u with
  | head => exact .head _
  | tail _ ih => exact .tail _ ih
theorem Up.keys (u : Up a s s' V V') : V'.map (·.1) = V.map (·.1) := by
  induction u with
  | head => rfl
  | tail _ ih => simp [ih]
theorem Up.new (u : Up a s s' V V') : ∀ p ∈ V', p = (a, s') ∨ (p ∈ V) := by
  induction u with
  | head => intro p hp; cases hp with
    | head => exact .inl rfl
    | tail _ hp => exact .inr (.tail _ hp)
  | tail _ ih => intro p hp; cases hp with
    | head => exact .inr (.head _)
    | tail _ hp => exact (ih p hp).imp id (.tail _)
theorem Up.new' (u : Up a s s' V V') (nd : (V.map (·.1)).Nodup) : ∀ p ∈ V', p = (a, s') ∨ (p ∈ V ∧ p.1 ≠ a) := by
  induction u with
  | @head r => intro p hp; cases hp with
    | head => exact .inl rfl
    | tail _ hp =>
      refine .inr ⟨.tail _ hp, fun q => ?_⟩
      rw [List.map_cons, List.nodup_cons] at nd
      exact nd.1 (by rw [← q]; exact List.mem_map_of_mem (f := (·.1)) hp)
  | @tail p0 r r' u ih =>
    rw [List.map_cons, List.nodup_cons] at nd
    intro p hp; cases hp with
    | head =>
      refine .inr ⟨.head _, fun q => nd.1 ?_⟩
      rw [q]; exact List.mem_map_of_mem u.mem
    | tail _ hp => exact (ih nd.2 p hp).imp id fun x => ⟨.tail _ x.1, x.2⟩

theorem Hp.at (H : Hp P g V h) (m : (a, s) ∈ V) : Sat P g h a s := H.sat _ m
theorem Hp.get (H : Hp P g V h) (e : g.get? a = some o) : h.get? a = some o := H.le _ _ e
theorem Hp.junk (H : Hp P g V h) (o : Obj) : Hp P g V (h.push o) :=
  ⟨fun b x e => Heap.get?_push_of_some _ (H.le b x e), fun p hp => (H.sat p hp).of_get fun _ e => Heap.get?_push_of_some _ e, H.out, H.nd⟩
theorem Hp.fresh (H : Hp P g V h) : g.get? h.objs.size = none ∧ h.objs.size ∉ V.map (·.1) := by
  refine ⟨?_, fun m => ?_⟩
  · cases q : g.get? h.objs.size with
    | none => rfl
    | some x => exact absurd (Heap.lt_size (H.le _ _ q)) (Nat.lt_irrefl _)
  · obtain ⟨p, hp, e⟩ := List.mem_map.mp m
    obtain ⟨x, hx⟩ := (H.sat p hp).ex
    exact absurd (Heap.lt_size hx) (by rw [e]; exact Nat.lt_irrefl _)
theorem Hp.own (H : Hp P g V h) (hs : Sat P g (h.push o) h.objs.size s) : Hp P g ((h.objs.size, s) :: V) (h.push o) := by
  obtain ⟨f1, f2⟩ := H.fresh
  refine ⟨(H.junk o).le, fun p hp => ?_, fun p hp => ?_, ?_⟩
  · cases hp with
    | head => exact hs
    | tail _ hp => exact (H.junk o).sat p hp
  · cases hp with
    | head => exact f1
    | tail _ hp => exact H.out p hp
  · rw [List.map_cons]; exact List.nodup_cons.mpr ⟨f2, H.nd⟩
theorem Hp.upd (H : Hp P g V h) (u : Up a s s' V V') (hs : Sat P g h' a s') (ot : ∀ b x, b ≠ a → h.get? b = some x → h'.get? b = some x) : Hp P g V' h' := by
  have oa := H.out _ u.mem
  refine ⟨fun b x e => ot b x (fun q => by rw [q, oa] at e; cases e) (H.le b x e), fun p hp => ?_, fun p hp => ?_, by rw [u.keys]; exact H.nd⟩
  · rcases u.new' H.nd p hp with rfl | ⟨hp, hn⟩
    · exact hs
    · exact (H.sat p hp).of_get fun x e => ot _ x hn e
  · rcases u.new p hp with rfl | hp
    · exact oa
    · exact H.out p hp
theorem upd_other (h : Heap) (a : Addr) (f : Obj → Obj) : ∀ b x, b ≠ a → h.get? b = some x → (h.update a f).get? b = some x :=
  fun _ _ hb e => (Heap.get?_update_other h f (Ne.symm hb)).trans e
theorem Hp.drop (H : Hp P g ((a, s) :: V) h) : Hp P g V h :=
  ⟨H.le, fun p hp => H.sat p (.tail _ hp), fun p hp => H.out p (.tail _ hp), (List.nodup_cons.mp H.nd).2⟩
theorem Hp.drop2 {p : Addr × Sp} (H : Hp P g (p :: (a, s) :: V) h) : Hp P g (p :: V) h := by
  have n := H.nd
  simp only [List.map_cons, List.nodup_cons, List.mem_cons, not_or] at n
  refine ⟨H.le, fun q hq => ?_, fun q hq => ?_, ?_⟩
  · cases hq with
    | head => exact H.sat _ (.head _)
    | tail _ hq => exact H.sat _ (.tail _ (.tail _ hq))
  · cases hq with
    | head => exact H.out _ (.head _)
    | tail _ hq => exact H.out _ (.tail _ (.tail _ hq))
  · simp only [List.map_cons, List.nodup_cons]; exact ⟨n.1.2, n.2.2⟩
theorem Hp.gup (H : Hp P g V h) (le : Le g g') (le' : Le g' h) (out : ∀ p ∈ V, g'.get? p.1 = none) : Hp P g' V h :=
  ⟨le', fun p hp => (H.sat p hp).up le, out, H.nd⟩
def frz (V : Led) (h : Heap) : Heap := hideAll h (V.map (·.1))
theorem frz_get {V : Led} (e : h.get? a = some o) (n : a ∉ V.map (·.1)) : (frz V h).get? a = some o := hideAll_get _ e n
theorem Hp.frz (H : Hp P g V h) : Le g (frz V h) ∧ Hp P (frz V h) V h := by
  have l1 : Le g (Mine.frz V h) := fun b x e => hideAll_get _ (H.le b x e) fun m => by
    obtain ⟨p, hp, q⟩ := List.mem_map.mp m
    have := H.out p hp
    rw [q, e] at this; cases this
  exact ⟨l1, H.gup l1 (fun _ _ e => of_hideAll _ e) fun p hp => hideAll_none _ (List.mem_map_of_mem hp)⟩
theorem Hp.keep (H : Hp P g V h) (hf : o.isFreed = false) : ∃ g', Le g g' ∧ g'.get? h.objs.size = some o ∧ Hp P g' V (h.push o) := by
  obtain ⟨l, H'⟩ := (H.junk o).frz
  exact ⟨_, l, frz_get (Heap.get?_push_size _ hf) H.fresh.2, H'⟩
theorem Hp.give {p : Addr × Sp} (H : Hp P g (p :: (a, s) :: V) h) : ∃ g', Le g g' ∧ Sat P g' g' a s ∧ Hp P g' (p :: V) h := by
  have n := H.nd
  simp only [List.map_cons, List.nodup_cons, List.mem_cons, not_or] at n
  obtain ⟨l, H'⟩ := H.drop2.frz
  refine ⟨_, l, ((H.sat _ (.tail _ (.head _))).of_get fun o e => frz_get e ?_).up l, H'⟩
  simp only [List.map_cons, List.mem_cons, not_or]
  exact ⟨fun q => n.1.1 q.symm, n.2.1⟩
end

section
variable {C : Cfg} {A : Around} {E : Value → Heap → Prop} {h g : Heap} {V V' : Led}

theorem W_alloc {o : Obj} {Q : Addr → Heap → Prop} (q : Q h.objs.size (h.push o)) : W C A (alloc o) Q E h := fun _ => wpAny_alloc (po q)
theorem W_update {a : Addr} {f : Obj → Obj} {o : Obj} {Q : Unit → Heap → Prop} (ho : h.get? a = some o) (q : Q () (h.update a f)) : W C A (update a f) Q E h := fun _ => wpAny_update ho (po q)

structure Fe (en : Env) (L : Addr) (ns : List (Str × NameKind)) (xs : List Str) (cl : List (Str × Addr)) : Prop where
  kind : en.scope.kind = .function
  names : en.scope.names = ns
  loc : en.locals = L
  glob : en.globals = mainGlobals
  bi : en.builtins = builtinsNs
  cells : en.cells = cl
  lcl : ∀ x ∈ xs, ns.lookup x = some .local ∧ (x == ("__debug__" : Str)) = false
  ndx : xs.Nodup

variable {en : Env} {L : Addr} {ns : List (Str × NameKind)} {xs : List Str} {cl : List (Str × Addr)} {vs vs' : List (Option Value)} {x : Str} {v : Value}
theorem Lk.mem (l : Lk xs vs x v) : x ∈ xs := by
  obtain ⟨i, a, _⟩ := l.at
  exact List.mem_of_getElem? a
theorem St.mem (l : St xs vs x v vs') : x ∈ xs := by
  obtain ⟨i, a, _⟩ := l.at
  exact List.mem_of_getElem? a
theorem Fe.kof (F : Fe en L ns xs cl) {x : Str} {k : NameKind} (e : ns.lookup x = some k) : en.kindOf x = some k := by
  unfold Env.kindOf; rw [F.names]; exact e

theorem W_loadL {Q : Value → Heap → Prop} (F : Fe en L ns xs cl) (H : Hp C.w.params g ((L, .frm xs vs) :: V) h) (l : Lk xs vs x v) (q : Q v h) : W C A (loadName en x) Q E h := fun _ => by
  obtain ⟨m, hn, lo⟩ := H.at (.head _)
  exact wpAny_loadName_local F.kind (F.kof (F.lcl _ l.mem).1) (F.loc ▸ hn) (lo.lk l) (po q)
theorem W_Nl {Q : Value → Heap → Prop} {pos : Pos} (F : Fe en L ns xs cl) (H : Hp C.w.params g ((L, .frm xs vs) :: V) h) (l : Lk xs vs x v) (q : Q v h) : W C A (eval (.Name x pos) en) Q E h :=
  fun k => wpAny_Name (W_loadL F H l q k) (F.lcl _ l.mem).2
theorem W_storeL {Q : Unit → Heap → Prop} (F : Fe en L ns xs cl) (H : Hp C.w.params g ((L, .frm xs vs) :: V) h) (l : St xs vs x v vs') (q : ∀ h', Hp C.w.params g ((L, .frm xs vs') :: V) h' → Q () h') :
    W C A (storeName en x v) Q E h := fun _ => by
  obtain ⟨m, hn, lo⟩ := H.at (.head _)
  refine wpAny_storeName_local (F.kof (F.lcl _ l.mem).1) (F.loc ▸ hn) (fun h' hn' hs => po (q h' ?_)) (by rw [F.kind]; rfl)
  rw [F.loc] at hn' hs
  exact H.upd .head ⟨_, hn', lo.st F.ndx l⟩ fun b o hb e => (hs.2 b hb).trans e
theorem W_bindL {Q : Unit → Heap → Prop} (F : Fe en L ns xs cl) (H : Hp C.w.params g ((L, .frm xs vs) :: V) h) (l : St xs vs x v vs') (q : ∀ h', Hp C.w.params g ((L, .frm xs vs') :: V) h' → Q () h') :
    W C A (bindName en x v) Q E h := by
  unfold bindName
  exact W_bind (W_holding (W_point (W_bind (W_storeL F H l fun h' H' => W_point (q h' H')))))
end

end
section
set_option linter.all false
section
variable {C : Cfg} {A : Around} {E : Value → Heap → Prop} {h : Heap} {en : Env}

theorem W_execs_nil {Q : Flow → Heap → Prop} (q : Q .next h) : W C A (execs [] en) Q E h := W_pure q
def Fl (Q : Flow → Heap → Prop) (k : Heap → Prop) : Flow → Heap → Prop
  | .next, h => k h
  | f, h => Q f h
theorem W_execs {s : Stmt} {rest : List Stmt} {Q : Flow → Heap → Prop} (x : W C A (exec s en) (Fl Q fun h' => W C A (execs rest en) Q E h') E h) : W C A (execs (s :: rest) en) Q E h := by
  show W C A (do match ← exec s en with | .next => execs rest en | f => pure f) Q E h
  refine W_bind (W_mono x (fun f h' y => ?_) fun _ _ y => y)
  cases f <;> first | exact y | exact W_pure y
theorem W_Pass {Q : Flow → Heap → Prop} {pos : Pos} (q : Q .next h) : W C A (exec (.Pass pos) en) Q E h := W_bind (W_standAt (W_pure q))
theorem W_Continue {Q : Flow → Heap → Prop} {pos : Pos} (q : Q .cont h) : W C A (exec (.Continue pos) en) Q E h := W_bind (W_standAt (W_pure q))
theorem W_Return {e : PySem.Expr} {pos : Pos} {Q : Flow → Heap → Prop} (x : W C A (eval e en) (fun v h' => Q (.ret v) h') E h) : W C A (exec (.Return (some e) pos) en) Q E h :=
  W_bind (W_standAt (W_bind (W_mono x (fun _ _ y => W_pure y) fun _ _ y => y)))
theorem W_Return0 {pos : Pos} {Q : Flow → Heap → Prop} (q : Q (.ret .none) h) : W C A (exec (.Return none pos) en) Q E h :=
  W_bind (W_standAt (W_pure q))
theorem W_If {t : PySem.Expr} {b o : List Stmt} {pos : Pos} {Q : Flow → Heap → Prop}
    (x : W C A (isTrue t en (eval t en)) (fun r h' => (r = true → W C A (execs b en) Q E h') ∧ (r = false → W C A (execs o en) Q E h')) E h) : W C A (exec (.If t b o pos) en) Q E h := by
  show W C A (do standAt pos; if ← isTrue t en (eval t en) then execs b en else execs o en) Q E h
  refine W_bind (W_standAt (W_bind (W_mono x (fun r h' y => ?_) fun _ _ y => y)))
  cases r
  · exact y.2 rfl
  · exact y.1 rfl
theorem W_Expr {e : PySem.Expr} {pos : Pos} {Q : Flow → Heap → Prop} (x : W C A (eval e en) (fun _ h' => Q .next h') E h)
    (hi : interactive en = false) (hs : swapsWith e none pos.line en = pure false) : W C A (exec (.Expr e pos) en) Q E h := by
  show W C A (do
    standAt pos
    if interactive en then printExpr (eval e en)
    else if ← swapsWith e none pos.line en then do evalThenUse e en fun _ => point; pure .next
    else do dropValue e pos (← eval e en)) Q E h
  refine W_bind (W_standAt ?_)
  rw [hi, if_neg Bool.false_ne_true, hs]
  refine W_bind (W_pure ?_)
  rw [if_neg Bool.false_ne_true]
  exact W_bind (W_mono x (fun v h' y => fun k => wpAny_dropValue (po y)) fun _ _ y => y)

theorem W_CInt {i : Int} {n : Nat} {pos : Pos} {Q : Value → Heap → Prop} (q : ∀ t, Q (.int i t) h) : W C A (eval (.Constant (.int i) n pos) en) Q E h := W_mkInt q
theorem W_CStr {x : Str} {n : Nat} {pos : Pos} {Q : Value → Heap → Prop} (q : ∀ t, Q (.str x t) h) : W C A (eval (.Constant (.str x) n pos) en) Q E h := W_mkText q
theorem W_CNone {n : Nat} {pos : Pos} {Q : Value → Heap → Prop} (q : Q .none h) : W C A (eval (.Constant .none n pos) en) Q E h := W_pure q
theorem W_CBool {b : Bool} {n : Nat} {pos : Pos} {Q : Value → Heap → Prop} (q : Q (.bool b) h) : W C A (eval (.Constant (.bool b) n pos) en) Q E h := W_pure q
theorem W_release {vs ks : List Value} {Q : Unit → Heap → Prop} (q : Q () h) : W C A (release vs ks) Q E h := by
  unfold release
  generalize vs.filter _ = l
  induction l with
  | nil => exact W_pure q
  | cons a r ih =>
    cases r with
    | nil => exact W_pure q
    | cons b r => exact W_bind (W_holding (W_point ih))
theorem W_operate {vs : List Value} {m : Sem Value} {Q : Value → Heap → Prop} (x : W C A m Q E h) : W C A (operate vs m) Q E h := by
  unfold operate
  exact W_bind (W_holding (W_mono x (fun r h' y => W_bind (W_release (W_pure y))) fun _ _ y => y))
theorem W_BinOp {l r : PySem.Expr} {op : Operator} {pos : Pos} {Q : Value → Heap → Prop}
    (x : W C A (eval l en) (fun a h1 => W C A (eval r en) (fun b h2 => W C A (binaryOp op a b) Q E h2) E h1) E h) : W C A (eval (.BinOp l op r pos) en) Q E h :=
  W_bind (W_mono x (fun _ _ y => W_bind (W_holding (W_mono y (fun _ _ z => W_bind (W_standAt (W_operate z))) fun _ _ z => z))) fun _ _ y => y)
theorem W_UnaryOp {e : PySem.Expr} {op : UnaryOp} {pos : Pos} {Q : Value → Heap → Prop}
    (x : W C A (eval e en) (fun a h1 => W C A (unaryOp op a) Q E h1) E h) : W C A (eval (.UnaryOp op e pos) en) Q E h :=
  W_bind (W_mono x (fun _ _ y => W_bind (W_standAt (W_holding y))) fun _ _ y => y)
theorem W_IfExp {t b o : PySem.Expr} {pos : Pos} {Q : Value → Heap → Prop}
    (x : W C A (isTrue t en (eval t en)) (fun r h' => (r = true → W C A (eval b en) Q E h') ∧ (r = false → W C A (eval o en) Q E h')) E h) : W C A (eval (.IfExp t b o pos) en) Q E h := by
  show W C A (do if ← isTrue t en (eval t en) then eval b en else eval o en) Q E h
  refine W_bind (W_mono x (fun r h' y => ?_) fun _ _ y => y)
  cases r
  · exact y.2 rfl
  · exact y.1 rfl

theorem W_T_not {e : PySem.Expr} {pos : Pos} {m : Sem Value} {Q : Bool → Heap → Prop} (x : W C A (isTrue e en (eval e en)) (fun r h' => Q (!r) h') E h) : W C A (isTrue (.UnaryOp .Not e pos) en m) Q E h :=
  W_bind (W_mono x (fun _ _ y => W_pure y) fun _ _ y => y)
theorem W_T_bool {op : BoolOp} {es : List PySem.Expr} {pos : Pos} {m : Sem Value} {Q : Bool → Heap → Prop} (x : W C A (allTrue op es en) Q E h) : W C A (isTrue (.BoolOp op es pos) en m) Q E h := x
theorem W_and_nil {Q : Bool → Heap → Prop} (q : Q true h) : W C A (allTrue .And [] en) Q E h := W_pure q
theorem W_or_nil {Q : Bool → Heap → Prop} (q : Q false h) : W C A (allTrue .Or [] en) Q E h := W_pure q
theorem W_and {e : PySem.Expr} {es : List PySem.Expr} {Q : Bool → Heap → Prop}
    (x : W C A (isTrue e en (eval e en)) (fun r h' => (r = true → W C A (allTrue .And es en) Q E h') ∧ (r = false → Q false h')) E h) : W C A (allTrue .And (e :: es) en) Q E h := by
  show W C A (do match BoolOp.And, ← isTrue e en (eval e en) with | .And, false => pure false | .Or, true => pure true | _, _ => allTrue .And es en) Q E h
  refine W_bind (W_mono x (fun r h' y => ?_) fun _ _ y => y)
  cases r
  · exact W_pure (y.2 rfl)
  · exact y.1 rfl
theorem W_or {e : PySem.Expr} {es : List PySem.Expr} {Q : Bool → Heap → Prop}
    (x : W C A (isTrue e en (eval e en)) (fun r h' => (r = true → Q true h') ∧ (r = false → W C A (allTrue .Or es en) Q E h')) E h) : W C A (allTrue .Or (e :: es) en) Q E h := by
  show W C A (do match BoolOp.Or, ← isTrue e en (eval e en) with | .And, false => pure false | .Or, true => pure true | _, _ => allTrue .Or es en) Q E h
  refine W_bind (W_mono x (fun r h' y => ?_) fun _ _ y => y)
  cases r
  · exact y.2 rfl
  · exact W_pure (y.1 rfl)
theorem W_T_cmp {l r : PySem.Expr} {op : CmpOp} {pos : Pos} {m : Sem Value} {Q : Bool → Heap → Prop}
    (x : W C A (eval l en) (fun a h1 => W C A (markedBehindIn op r (eval r en)) (fun b h2 => W C A (compareOp op a b) (fun c h3 => W C A (truthy c) Q E h3) E h2) E h1) E h) : W C A (isTrue (.Compare l [op] [r] pos) en m) Q E h :=
  W_bind (W_mono x (fun _ _ y => by
    unfold evalEach markedEach testChain
    exact W_bind (W_holding (W_mono y (fun _ _ z => W_bind (W_standAt (W_bind (W_operate (W_mono z (fun _ _ u => W_holding u) fun _ _ u => u))))) fun _ _ z => z))) fun _ _ y => y)
theorem W_cmp {l r : PySem.Expr} {op : CmpOp} {pos : Pos} {Q : Value → Heap → Prop}
    (x : W C A (eval l en) (fun a h1 => W C A (markedBehindIn op r (eval r en)) (fun b h2 => W C A (compareOp op a b) Q E h2) E h1) E h) : W C A (eval (.Compare l [op] [r] pos) en) Q E h :=
  W_bind (W_mono x (fun _ _ y => by
    unfold evalEach markedEach compareChain
    exact W_bind (W_holding (W_mono y (fun _ _ z => W_bind (W_standAt (W_operate z))) fun _ _ z => z))) fun _ _ y => y)
theorem W_marked {op : CmpOp} {e : PySem.Expr} {Q : Value → Heap → Prop} (hm : behindInMarks op e = false) (x : W C A (eval e en) Q E h) : W C A (markedBehindIn op e (eval e en)) Q E h := by
  unfold markedBehindIn; rw [hm]; exact x
theorem W_T_plain {e : PySem.Expr} {Q : Bool → Heap → Prop} (he : ∀ m : Sem Value, isTrue e en m = (do let v ← m; standAt e.pos; holding [v] (truthy v)))
    (x : W C A (eval e en) (fun v h' => W C A (truthy v) Q E h') E h) : W C A (isTrue e en (eval e en)) Q E h := by
  rw [he]
  exact W_bind (W_mono x (fun _ _ y => W_bind (W_standAt (W_holding y))) fun _ _ y => y)
theorem W_truthy_bool {b : Bool} {Q : Bool → Heap → Prop} (q : Q b h) : W C A (truthy (.bool b)) Q E h := fun _ => wpAny_truthy_bool (po q)
theorem W_truthy_none {Q : Bool → Heap → Prop} (q : Q false h) : W C A (truthy .none) Q E h := W_pure q
end

end
section
set_option linter.all false
section
variable {C : Cfg} {A : Around} {E : Value → Heap → Prop} {g h : Heap} {en : Env}

theorem W_looks {α : Type} {t : Sem α} {r : α} {Q : α → Heap → Prop} (l : Looks C.M g t r) (le : Le g h) (q : Q r h) : W C A t Q E h := fun _ => l A _ _ _ le (po q)

theorem W_Assign {t e : PySem.Expr} {pos : Pos} {Q : Flow → Heap → Prop}
    (x : W C A (eval e en) (fun v h1 => W C A (assign t en v) (fun _ h2 => Q .next h2) E h1) E h)
    (hs : swapsWith e (some t) pos.line en = pure false) (ha : (assignEach [t] en).map (·.2) = [assign t en]) (hw : swappedStores [t] e en = pure none) :
    W C A (exec (.Assign [t] e pos) en) Q E h := by
  show W C A (do
    standAt pos
    if ← swapsWith e (some t) pos.line en then do
      evalThenUse e en fun v => assignAll v ((assignEach [t] en).map (·.2))
      pure .next
    else do
      let v ← eval e en
      assignStores en v (← swappedStores [t] e en) ((assignEach [t] en).map (·.2))) Q E h
  rw [hs, hw, ha]
  refine W_bind (W_standAt (W_bind (W_pure ?_)))
  rw [if_neg Bool.false_ne_true]
  exact W_bind (W_mono x (fun _ _ y => W_bind (W_pure (W_bind (W_mono y (fun _ _ z => W_pure z) fun _ _ z => z)))) fun _ _ y => y)
theorem W_as_Name {x : Str} {p : Pos} {v : Value} {Q : Unit → Heap → Prop} (y : W C A (bindName en x v) Q E h) : W C A (assign (.Name x p) en v) Q E h := W_bind (W_standAt y)
theorem W_as_Attr {o : PySem.Expr} {x : Str} {p : Pos} {v : Value} {Q : Unit → Heap → Prop} (y : W C A (eval o en) (fun ov h1 => W C A (setAttr ov x v) Q E h1) E h) : W C A (assign (.Attribute o x p) en v) Q E h :=
  W_bind (W_holding (W_mono y (fun _ _ z => W_bind (W_standAt (W_bind (W_holding (W_mono z (fun _ _ u => W_release u) fun _ _ u => u))))) fun _ _ z => z))
theorem W_as_Sub {o i : PySem.Expr} {p : Pos} {v : Value} {Q : Unit → Heap → Prop} (y : W C A (eval o en) (fun ov h1 => W C A (eval i en) (fun iv h2 => W C A (setItem ov iv v) Q E h2) E h1) E h) : W C A (assign (.Subscript o i p) en v) Q E h :=
  W_bind (W_holding (W_mono y (fun _ _ z => W_bind (W_holding (W_mono z (fun _ _ u => W_bind (W_standAt (W_bind (W_holding (W_mono u (fun _ _ t => W_release t) fun _ _ t => t))))) fun _ _ u => u))) fun _ _ z => z))
theorem W_as_Tup {es : List PySem.Expr} {n : Nat} {p : Pos} {v : Value} {Q : Unit → Heap → Prop} (y : W C A (unpack v (assignEach es en)) Q E h) : W C A (assign (.Tuple es n p) en v) Q E h := W_bind (W_standAt y)
theorem W_unpack {v : Value} {ts : List (Bool × (Value → Sem Unit))} {Q : Unit → Heap → Prop} (y : W C A (unpackItems v ts.length (ts.findIdx? (·.1))) (fun vs h1 => W C A (assignInOrder (ts.map (·.2)) vs) Q E h1) E h) : W C A (unpack v ts) Q E h :=
  W_bind (W_holding y)
theorem W_ord_nil {vs : List Value} {Q : Unit → Heap → Prop} (q : Q () h) : W C A (assignInOrder [] vs) Q E h := by unfold assignInOrder; exact W_pure q
theorem W_ord_cons {t : Value → Sem Unit} {ts : List (Value → Sem Unit)} {v : Value} {vs : List Value} {Q : Unit → Heap → Prop} (x : W C A (t v) (fun _ h1 => W C A (assignInOrder ts vs) Q E h1) E h) : W C A (assignInOrder (t :: ts) (v :: vs)) Q E h := by
  rw [assignInOrder.eq_1]
  exact W_bind (W_holding x)
theorem W_AssignSw {t e : PySem.Expr} {pos : Pos} {ns : List Str} {Q : Flow → Heap → Prop}
    (hw : swappedStores [t] e en = pure (some ns)) (hs : swapsWith e (some t) pos.line en = pure false)
    (x : W C A (eval e en) (fun v h1 => W C A (unpackItems v ns.length none) (fun vs h2 => W C A (assignInOrder (ns.reverse.map fun n => bindName en n) vs.reverse) (fun _ h3 => Q .next h3) E h2) E h1) E h) :
    W C A (exec (.Assign [t] e pos) en) Q E h := by
  show W C A (do
    standAt pos
    if ← swapsWith e (some t) pos.line en then do
      evalThenUse e en fun v => assignAll v ((assignEach [t] en).map (·.2))
      pure .next
    else do
      let v ← eval e en
      assignStores en v (← swappedStores [t] e en) ((assignEach [t] en).map (·.2))) Q E h
  rw [hs, hw]
  refine W_bind (W_standAt (W_bind (W_pure ?_)))
  rw [if_neg Bool.false_ne_true]
  refine W_bind (W_mono x (fun v h1 y => W_bind (W_pure ?_)) fun _ _ y => y)
  exact W_bind (W_rule (W_bind (W_mono y (fun vs h2 z => W_bind (W_mono z (fun _ _ u => W_pure u) fun _ _ u => u)) fun _ _ z => z)))

theorem W_spl_nil {Q : List Value → Heap → Prop} (q : Q [] h) : W C A (spliced []) Q E h := W_pure q
theorem W_spl_cons {x : Sem Value} {rest : List (Bool × Sem Value)} {Q : List Value → Heap → Prop} (y : W C A x (fun v h1 => W C A (spliced rest) (fun vs h2 => Q (v :: vs) h2) E h1) E h) : W C A (spliced ((false, x) :: rest)) Q E h := by
  unfold spliced
  exact W_bind (W_mono y (fun _ _ z => W_bind (W_pure (W_bind (W_holding (W_mono z (fun _ _ u => W_pure u) fun _ _ u => u))))) fun _ _ z => z)
theorem W_all_nil {Q : List Value → Heap → Prop} (q : Q [] h) : W C A (evalAll []) Q E h := W_pure q
theorem W_all_cons {x : Sem Value} {rest : List (Sem Value)} {Q : List Value → Heap → Prop} (y : W C A x (fun v h1 => W C A (evalAll rest) (fun vs h2 => Q (v :: vs) h2) E h1) E h) : W C A (evalAll (x :: rest)) Q E h := by
  rw [evalAll]
  exact W_bind (W_mono y (fun _ _ z => W_bind (W_holding (W_mono z (fun _ _ u => W_pure u) fun _ _ u => u))) fun _ _ z => z)
theorem W_back_nil {pos : Pos} {Q : List Value → Heap → Prop} (q : Q [] h) : W C A (spliced (backTo pos (starEach [] en))) Q E h := W_pure q
theorem W_args {f : Value} {args : List (Bool × Sem Value)} {kws : List (Option Str × Sem Value)} {Q : Args → Heap → Prop} (hl : (match args with | [(true, _)] => true | _ => false) = false) (hk : kws.all (·.1.isSome) = true)
    (y : W C A (spliced args) (fun vs h1 => W C A (evalAll (kws.map (·.2))) (fun ks h2 => Q ⟨vs, (kws.filterMap (·.1)).zip ks⟩ h2) E h1) E h) : W C A (evalArgs f true args kws) Q E h := by
  unfold evalArgs
  match args, hl with
  | [], _ | [(false, _)], _ | (true, _) :: _ :: _, _ | (false, _) :: _ :: _, _ =>
    refine W_bind (W_mono y (fun vs h1 z => W_bind (W_pure (W_holding ?_))) fun _ _ z => z)
    rw [if_pos hk]
    exact W_bind (W_mono z (fun ks h2 u => W_bind (W_pure (W_pure u))) fun _ _ u => u)
def Kpr (C : Cfg) (f : Value) (h : Heap) : Prop := ∃ g kp, Le g h ∧ Looks C.M g (keeperOf f) kp
theorem Kpr.bi {i : String} : Kpr C (.builtin i) h := ⟨h, _, Le.refl _, Looks.now⟩
theorem Kpr.ty {i : String} : Kpr C (.type i) h := ⟨h, _, Le.refl _, Looks.now⟩
theorem Kpr.fn {a : Addr} {o : Obj} {fd : FuncData} (e : h.get? a = some o) (d : o.data = .func fd) : Kpr C (.ref a) h := ⟨h, .frame, Le.refl _, by
  unfold keeperOf
  refine (Looks.ld (part := none) e).andThen ?_
  rw [d]; exact .now⟩
theorem Kpr.inst {a : Addr} {o : Obj} (e : h.get? a = some o) (d : o.data = .plain) : Kpr C (.ref a) h := ⟨h, .caller, Le.refl _, by
  unfold keeperOf
  refine (Looks.ld (part := none) e).andThen ?_
  rw [d]; exact .now⟩
theorem Kpr.peek {K : Frag} {f : Value} {kp : Keeper} (X : K.In g) (le : Le g h) (e : peek K ⟨C.M.prog, C.M.w.params⟩ (keeperOf f) = some kp) : Kpr C f h := ⟨g, _, le, Looks.of_peek X e⟩
theorem W_callWith {pos : Pos} {f : Value} {first : List Value} {args : List (Bool × Sem Value)} {kws : List (Option Str × Sem Value)} {Q : Value → Heap → Prop}
    (y : W C A (evalArgs f true args kws) (fun a h1 => Kpr C f h1 ∧ W C A (call f (first ++ a.pos) a.kw) Q E h1) E h) : W C A (callWith pos f first args kws) Q E h := by
  unfold callWith
  refine W_bind (W_holding (W_mono y (fun a h1 z => W_bind (W_standAt ?_)) fun _ _ z => z))
  obtain ⟨⟨g, kp, le, lk⟩, z⟩ := z
  have tail : ∀ {t : Sem Value}, W C A t Q E h1 → W C A (t >>= fun r => holding [r] point >>= fun _ => pure r) Q E h1 :=
    fun u => W_bind (W_mono u (fun _ _ t => W_bind (W_holding (W_point (W_pure t)))) fun _ _ t => t)
  cases hs : (args.any (·.1) || kws.any (·.1.isNone)) <;>
    refine W_bind (W_looks lk le ?_) <;> cases kp <;> first
      | exact tail z
      | exact tail (W_operate z)
      | exact tail (by unfold callMarked; exact W_keep z)
      | (dsimp only; split <;> first | exact tail z | exact tail (by unfold callMarked; exact W_keep z))
theorem W_CallN {f : Str} {p pos : Pos} {args : List PySem.Expr} {kws : List Keyword} {Q : Value → Heap → Prop}
    (y : W C A (eval (.Name f p) en) (fun fv h1 => W C A (callWith pos fv [] (backTo pos (starEach args en)) (backToKw pos (keywordEach kws en))) Q E h1) E h) : W C A (eval (.Call (.Name f p) args kws pos) en) Q E h :=
  W_bind y
def isStar : PySem.Expr → Bool
  | .Starred .. => true
  | _ => false
theorem star_cons {pos : Pos} {e : PySem.Expr} {rest : List PySem.Expr} (hs : isStar e = false) : backTo pos (starEach (e :: rest) en) = (false, eval e en) :: backTo pos (starEach rest en) := by
  cases e <;> first | rfl | cases hs
theorem W_sp_nil {pos : Pos} {Q : List Value → Heap → Prop} (q : Q [] h) : W C A (spliced (backTo pos (starEach [] en))) Q E h := W_pure q
theorem W_sp_cons {pos : Pos} {e : PySem.Expr} {rest : List PySem.Expr} {Q : List Value → Heap → Prop} (hs : isStar e = false)
    (y : W C A (eval e en) (fun v h1 => W C A (spliced (backTo pos (starEach rest en))) (fun vs h2 => Q (v :: vs) h2) E h1) E h) : W C A (spliced (backTo pos (starEach (e :: rest) en))) Q E h := by
  rw [star_cons hs]; exact W_spl_cons y
theorem W_kw_nil {pos : Pos} {Q : List Value → Heap → Prop} (q : Q [] h) : W C A (evalAll ((backToKw pos (keywordEach [] en)).map (·.2))) Q E h := W_pure q
theorem W_kw_cons {pos p : Pos} {n : Option Str} {e : PySem.Expr} {rest : List Keyword} {Q : List Value → Heap → Prop}
    (y : W C A (eval e en) (fun v h1 => W C A (evalAll ((backToKw pos (keywordEach rest en)).map (·.2))) (fun vs h2 => Q (v :: vs) h2) E h1) E h) : W C A (evalAll ((backToKw pos (keywordEach (⟨n, e, p⟩ :: rest) en)).map (·.2))) Q E h := by
  refine W_all_cons (W_bind (W_mono y (fun v h1 z => W_bind (W_standAt (W_pure z))) fun _ _ z => z))
def noStar : List PySem.Expr → Bool
  | [e] => !isStar e
  | _ => true
def namesOf : List Keyword → List Str
  | [] => []
  | k :: r => k.arg.toList ++ namesOf r
theorem kw_names {pos : Pos} : ∀ kws : List Keyword, (backToKw pos (keywordEach kws en)).filterMap (·.1) = namesOf kws
  | [] => rfl
  | ⟨n, e, p⟩ :: r => by
    have ih := kw_names (pos := pos) r
    cases n with
    | none => exact ih
    | some n => exact congrArg (n :: ·) ih
theorem kw_some {pos : Pos} : ∀ kws : List Keyword, kws.all (·.arg.isSome) = true → (backToKw pos (keywordEach kws en)).all (·.1.isSome) = true
  | [], _ => rfl
  | ⟨n, e, p⟩ :: r, x => by
    rw [List.all_cons, Bool.and_eq_true] at x
    show (n.isSome && ((backToKw pos (keywordEach r en)).all (·.1.isSome))) = true
    rw [x.1, kw_some r x.2]; rfl
theorem W_argsA {f : Value} {pos : Pos} {args : List PySem.Expr} {kws : List Keyword} {Q : Args → Heap → Prop} (hl : noStar args = true) (hk : kws.all (·.arg.isSome) = true)
    (y : W C A (spliced (backTo pos (starEach args en))) (fun vs h1 => W C A (evalAll ((backToKw pos (keywordEach kws en)).map (·.2))) (fun ks h2 => Q ⟨vs, (namesOf kws).zip ks⟩ h2) E h1) E h) :
    W C A (evalArgs f true (backTo pos (starEach args en)) (backToKw pos (keywordEach kws en))) Q E h := by
  refine W_args ?_ (kw_some kws hk) (by rw [kw_names]; exact y)
  match args, hl with
  | [], _ => rfl
  | [e], hl => rw [star_cons (by simpa [noStar] using hl)]
  | a :: b :: r, _ => cases a <;> cases b <;> rfl
end

end
section
set_option linter.all false

inductive Kk : List Str → List Value → Str → Value → Prop
  | head {x xs v vs} : Kk (x :: xs) (v :: vs) x v
  | tail {x xs o vs y v} : Kk xs vs y v → Kk (x :: xs) (o :: vs) y v
inductive Ks : List Str → List Value → Str → Value → List Value → Prop
  | head {x xs v o vs} : Ks (x :: xs) (o :: vs) x v (v :: vs)
  | tail {x xs o vs y v vs'} : Ks xs vs y v vs' → Ks (x :: xs) (o :: vs) y v (o :: vs')
theorem Kk.mem {xs vs x v} (l : Kk xs vs x v) : x ∈ xs := by
  induction l with
  | head => exact .head _
  | tail _ ih => exact .tail _ ih
theorem Ks.mem {xs vs x v vs'} (l : Ks xs vs x v vs') : x ∈ xs := by
  induction l with
  | head => exact .head _
  | tail _ ih => exact .tail _ ih
section
variable {P : Params} {ks : List Str} {vs vs' : List Value} {es : List DictEntry} {x : Str} {v : Value}
theorem isStr_str (y x : Str) (t : Tok) : (Value.str y t).isStr x = (y == x) := rfl
theorem Ents.noref (e : Ents P ks vs es) : es.any (·.refKey) = false := by
  induction e with
  | nil => rfl
  | cons _ ih => rw [List.any_cons, ih]; rfl
theorem Ents.len (e : Ents P ks vs es) : es.length = ks.length ∧ vs.length = ks.length := by
  induction e with
  | nil => exact ⟨rfl, rfl⟩
  | cons _ ih => simp [ih.1, ih.2]
theorem Ents.find (nd : ks.Nodup) (e : Ents P ks vs es) (k : Kk ks vs x v) : ∃ en, es.find? (·.key.isStr x) = some en ∧ en.val = v := by
  induction e with
  | nil => cases k
  | @cons k' t v' ks vs es e ih =>
    cases k with
    | head => exact ⟨_, by rw [List.find?_cons_of_pos]; simp [isStr_str], rfl⟩
    | tail k =>
      obtain ⟨n1, n2⟩ := List.nodup_cons.mp nd
      obtain ⟨en, h1, h2⟩ := ih n2 k
      have : k' ≠ x := fun q => n1 (q ▸ k.mem)
      exact ⟨en, by rw [List.find?_cons_of_neg (by simp [isStr_str, this])]; exact h1, h2⟩
theorem Ents.find_none (e : Ents P ks vs es) (k : x ∉ ks) : es.find? (·.key.isStr x) = none := by
  induction e with
  | nil => rfl
  | cons e ih =>
    simp only [List.mem_cons, not_or] at k
    rw [List.find?_cons_of_neg (by simp [isStr_str, Ne.symm k.1])]; exact ih k.2
theorem Ents.getL (nd : ks.Nodup) (e : Ents P ks vs es) (k : Kk ks vs x v) : getL x es = some (some v) := by
  obtain ⟨en, h1, h2⟩ := e.find nd k
  unfold PySem.W.getL; rw [h1, ← h2]
theorem Ents.getL_none (e : Ents P ks vs es) (k : x ∉ ks) : PySem.W.getL x es = some none := by
  unfold PySem.W.getL; rw [e.find_none k, e.noref]; rfl
theorem Ents.snoc (e : Ents P ks vs es) (t : Tok) : Ents P (ks ++ [x]) (vs ++ [v]) (es ++ [⟨PyData.keyHash P x, .str x t, v⟩]) := by
  induction e with
  | nil => exact .cons .nil
  | cons e ih => exact .cons ih
theorem putL_new (e : Ents P ks vs es) (k : x ∉ ks) (hsh : Int) (key : Value) : putL x hsh key v es = es ++ [⟨hsh, key, v⟩] := by
  induction e with
  | nil => rfl
  | @cons k' t v' ks vs es e ih =>
    simp only [List.mem_cons, not_or] at k
    unfold putL
    rw [if_neg (by simp [isStr_str, Ne.symm k.1]), ih k.2]; rfl
theorem putL_old (nd : ks.Nodup) (e : Ents P ks vs es) (k : Ks ks vs x v vs') (hsh : Int) (key : Value) : Ents P ks vs' (putL x hsh key v es) := by
  induction e generalizing vs' with
  | nil => cases k
  | @cons k' t v' ks vs es e ih =>
    cases k with
    | head => unfold putL; rw [if_pos (by simp [isStr_str])]; exact .cons e
    | tail k =>
      obtain ⟨n1, n2⟩ := List.nodup_cons.mp nd
      have : k' ≠ x := fun q => n1 (q ▸ k.mem)
      unfold putL; rw [if_neg (by simp [isStr_str, this])]
      exact .cons (ih n2 k)
theorem putL_len (x : Str) (hsh : Int) (key v : Value) : ∀ es : List DictEntry, (putL x hsh key v es).length ≤ es.length + 1
  | [] => by simp [putL]
  | e :: r => by
    unfold putL
    split
    · simp
    · have := putL_len x hsh key v r; simp only [List.length_cons]; omega
end

inductive Pu (x : Str) (v : Value) : List Str → List Value → List Str → List Value → Prop
  | new {ks : List Str} {vs : List Value} : x ∉ ks → Pu x v ks vs (ks ++ [x]) (vs ++ [v])
  | old {ks : List Str} {vs vs' : List Value} : ks.Nodup → Ks ks vs x v vs' → Pu x v ks vs ks vs'
section
variable {C : Cfg} {A : Around} {E : Value → Heap → Prop} {h g : Heap} {V V' : Led} {d : Addr} {ks ks' : List Str} {vs vs' : List Value} {x : Str} {v : Value}
def Sd (P : Params) (h : Heap) (d : Addr) (ks : List Str) (vs : List Value) : Prop := ∃ es n, h.get? d = some (dictOf es n) ∧ Ents P ks vs es ∧ (d == sysModules) = false
theorem Sd.up {P : Params} {h h' : Heap} (s : Sd P h d ks vs) (le : Le h h') : Sd P h' d ks vs := let ⟨es, n, e, r⟩ := s; ⟨es, n, le _ _ e, r⟩

theorem Pu.ents {P : Params} {es : List DictEntry} (p : Pu x v ks vs ks' vs') (e : Ents P ks vs es) (t : Tok) : Ents P ks' vs' (putL x (PyData.keyHash P x) (.str x t) v es) := by
  cases p with
  | new k => rw [putL_new e k]; exact e.snoc t
  | old nd k => exact putL_old nd e k _ _

theorem W_nsSet {Q : Unit → Heap → Prop} (H : Hp C.w.params g V h) (U : Up d (.sd ks vs) (.sd ks' vs') V V') (p : Pu x v ks vs ks' vs') (hz : ks.length ≤ 1000)
    (q : ∀ h', Hp C.w.params g V' h' → Q () h') : W C A (nsSet d x v) Q E h := fun k => by
  obtain ⟨es, n, ho, e, e1⟩ := H.at U.mem
  have ho : h.get? d = some (dictOf es n) := ho
  unfold nsSet
  refine wpAny_bind (wpAny_bind (wpAny_askSetting (wpAny_pure (wpAny_bind (wpAny_mkText (wpAny_bind (wpAny_loadPart ho ?_)))))))
  have hr := e.noref
  have c : (!(es.toArray).any (·.key.isStr x) && (es.toArray).any (·.refKey)) = false := by
    rw [List.any_toArray, List.any_toArray, hr, Bool.and_false]
  dsimp only
  rw [aRefKeyMayBeTheName_at, c]
  have ep : Obj.putName x (PyData.keyHash C.w.params x) (.str x k) v (dictOf es n) = dictOf (putL x (PyData.keyHash C.w.params x) (.str x k) v es) (putN x es n) := putName_dict ..
  have ho' : (h.update d (Obj.putName x (PyData.keyHash C.w.params x) (.str x k) v)).get? d = some (dictOf (putL x (PyData.keyHash C.w.params x) (.str x k) v es) (putN x es n)) := by
    rw [← ep]; exact Heap.get?_update_self _ ho (by rw [ep]; rfl)
  refine wpAny_updatePart ho ?_
  exact po (q _ (H.upd U ⟨_, _, ho', p.ents e _, e1⟩ (upd_other h d _)))
theorem Pu.len (p : Pu x v ks vs ks' vs') : ks'.length ≤ ks.length + 1 := by
  cases p with
  | new _ => simp
  | old _ _ => omega
theorem Up.mem' {s s' : Sp} (u : Up d s s' V V') : (d, s') ∈ V' := by
  induction u with
  | head => exact .head _
  | tail _ ih => exact .tail _ ih
theorem W_lookBehind {Q : Unit → Heap → Prop} {pt : Option Value} (s : Sd C.w.params h d ks vs) (hz : ks.length ≤ 1001) (q : Q () h) : W C A (lookBehind d pt) Q E h := fun _ => by
  obtain ⟨es, n, ho, e, e1⟩ := s
  exact wpAny_lookBehind ho (pastItsLine_dict (by rw [List.size_toArray, sizeLine_eq]; have := e.len.1; omega)) (po q)

noncomputable abbrev KF (P : Params) : Frag := hd.heap_39 P
structure Cl (P : Params) (c : Addr) : Prop where
  ga : findIn (KF P) (.ref c) "__getattribute__" = some (some (.builtin "object.__getattribute__"))
  gt : findIn (KF P) (.ref c) "__getattr__" = some none
  sa : findIn (KF P) (.ref c) "__setattr__" = some (some (.builtin "object.__setattr__"))
  pl : plainOver (KF P) c = true
  hd : hasDictIn (KF P) c = true
def Na (P : Params) (c : Addr) (x : Str) : Prop := findIn (KF P) (.ref c) x = some none
def Inst (P : Params) (h : Heap) (x c : Addr) (ks : List Str) (vs : List Value) : Prop := ∃ dx, h.get? x = some (instObj c dx) ∧ Sd P h dx ks vs
theorem Inst.up {P : Params} {h h' : Heap} {x c : Addr} (i : Inst P h x c ks vs) (le : Le h h') : Inst P h' x c ks vs := let ⟨dx, e, s⟩ := i; ⟨dx, le _ _ e, s.up le⟩
theorem Inst.at {P : Params} {h : Heap} {x c : Addr} (i : Inst P h x c ks vs) : ∃ dx es n, Ents P ks vs es ∧ InstAt h x (instObj c dx) c (some (dictOf es n)) :=
  let ⟨dx, e, es, n, ed, r, _⟩ := i; ⟨dx, es, n, r, ⟨e, rfl, rfl, ed⟩⟩
variable {c a : Addr} {kx : Bool} {y : Str}
theorem W_getI {Q : Value → Heap → Prop} (X : (KF C.w.params).In h) (K : Cl C.w.params c) (n : Na C.w.params c y) (I : Inst C.w.params h a c ks vs) (nd : ks.Nodup) (k : Kk ks vs y v) (hv : handedIn v = true) (q : Q v h) :
    W C A (getAttr (.ref a) y kx) Q E h := fun _ => by
  obtain ⟨dx, es, m, e, I⟩ := I.at
  exact get_value (s := C.sh h _) X I K.ga (findObj_own K.hd n rfl (by rw [lookIn_dict]; exact e.getL nd k)) hv (po q)
theorem Hp.inst {P : Params} {x c dx : Addr} (H : Hp P g V h) (m1 : (x, .obj (instObj c dx)) ∈ V) (m2 : (dx, .sd ks vs) ∈ V) : Inst P h x c ks vs := ⟨dx, H.at m1, H.at m2⟩

theorem W_setI {Q : Unit → Heap → Prop} {dx : Addr} (X : (KF C.w.params).In g) (K : Cl C.w.params c) (n : takerIn (KF C.w.params) c y = some none) (H : Hp C.w.params g V h) (ho : h.get? a = some (instObj c dx))
    (U : Up dx (.sd ks vs) (.sd ks' vs') V V') (p : Pu y v ks vs ks' vs') (hz : ks.length ≤ 1000) (q : ∀ h', Hp C.w.params g V' h' → Q () h') : W C A (setAttr (.ref a) y v) Q E h := fun k => by
  obtain ⟨es, m, hod, e, e1⟩ := H.at U.mem
  have hod : h.get? dx = some (dictOf es m) := hod
  have I : InstAt h a (instObj c dx) c (some (dictOf es m)) := ⟨ho, rfl, rfl, hod⟩
  have X' : (KF C.w.params).In h := X.keeps H.le
  refine set_plain (s := C.sh h k) X' I K.sa (osa_open (s := C.sh h (k + 1)) X' I K.pl n fun b => ?_)
  obtain ⟨cd, hc, hd'⟩ := any_some K.hd
  refine wpAny_bind (wpAny_pure (wpAny_bind (wpAny_bind (wpAny_loadPart ho (wpAny_bind ((looks_clsIn X' hc).here ?_))))))
  rw [hd']
  refine wpAny_pure (a := some dx) (wpAny_bind (wpAny_pure (wpAny_bind ?_)))
  refine wpAny_mono (W_nsSet (C := C) (A := A.in1) (E := fun _ _ => False) (Q := fun _ h' => Sd C.w.params h' dx ks' vs' ∧ Q () h') H U p hz (fun h' H' => ⟨H'.at U.mem', q h' H'⟩) (k + 1)) (fun _ s' z => ?_) (fun _ s' z => ?_)
  · obtain ⟨h', k', rfl, s, z⟩ := z
    refine wpAny_bind (wpAny_mono (W_lookBehind (C := C) (A := A.in1) (E := fun _ _ => False) (Q := fun _ h' => Q () h') s (Nat.le_trans p.len (by omega)) z k') (fun _ s' z => ?_) (fun _ s' z => ?_))
    · exact wpAny_pure z
    · obtain ⟨h', k', rfl, z⟩ := z
      exact z.elim
  · obtain ⟨h', k', rfl, z⟩ := z
    exact z.elim
end

end
section
set_option linter.all false
abbrev codesT : List (Addr × Addr) := [(573, 569), (580, 576), (501, 497), (280, 276), (609, 607)]
structure Wld (C : Cfg) (g : Heap) : Prop where
  K : (KF C.w.params).In g
  T : ∃ mg mb, g.Ns mainGlobals mg ∧ g.Ns builtinsNs mb ∧ g.NoLimit ∧ ∀ x : Str, x ≠ ("__name__" : Str) → mb x = bootBuiltins x
  B : ∃ mg, g.Ns mainGlobals mg ∧ ∃ bm ob, mg "__builtins__" = some (.ref bm) ∧ bm ≠ builtinsNs ∧ g.get? bm = some ob ∧ ob.cls = .type "module" ∧ ob.dict = some builtinsNs ∧ ob.data = .plain
  D : ∀ q ∈ codesT, CodeHd g q.1 q.2
theorem Wld.up {C : Cfg} {g g' : Heap} (w : Wld C g) (le : Le g g') : Wld C g' :=
  ⟨w.K.keeps le, let ⟨mg, mb, a, b, c, d⟩ := w.T; ⟨mg, mb, a.keeps le, b.keeps le, c.keeps le, d⟩, let ⟨mg, a, bm, ob, b1, b2, b3, b4⟩ := w.B; ⟨mg, a.keeps le, bm, ob, b1, b2, le _ _ b3, b4⟩, fun q hq => (w.D q hq).keeps le⟩
theorem Wld.lim {C : Cfg} {g : Heap} (w : Wld C g) : g.NoLimit := let ⟨_, _, _, _, c, _⟩ := w.T; c

section
variable {C : Cfg} {A : Around} {E : Value → Heap → Prop} {h g : Heap} {V : Led} {en : Env} {L : Addr} {ns : List (Str × NameKind)} {xs : List Str} {cl : List (Str × Addr)} {x : Str} {v : Value} {pos : Pos}
theorem W_Ng {Q : Value → Heap → Prop} (F : Fe en L ns xs cl) (H : Hp C.w.params g V h) (Wd : Wld C g) (hx : ns.lookup x = some .globalImplicit) (hg : nsIn (KF C.w.params) mainGlobals x = some (some v)) (hd : (x == ("__debug__" : Str)) = false) (q : Q v h) :
    W C A (eval (.Name x pos) en) Q E h := fun _ => by
  obtain ⟨mg, mb, a, b, c, d⟩ := Wd.T
  exact Name_function_global F.kind (F.kof hx) (loadGlobal_global (F.glob ▸ a.keeps H.le) (mg_of Wd.K a hg) (po q)) hd
theorem W_Nb {Q : Value → Heap → Prop} (F : Fe en L ns xs cl) (H : Hp C.w.params g V h) (Wd : Wld C g) (hx : ns.lookup x = some .globalImplicit) (hg : nsIn (KF C.w.params) mainGlobals x = some none) (hb : bootBuiltins x = some v)
    (hn : (x == ("__name__" : Str)) = false) (hd : (x == ("__debug__" : Str)) = false) (q : Q v h) :
    W C A (eval (.Name x pos) en) Q E h := fun _ => by
  obtain ⟨mg, mb, a, b, c, d⟩ := Wd.T
  exact Name_function_global F.kind (F.kof hx) (loadGlobal_builtin (F.glob ▸ a.keeps H.le) (mg_none_of Wd.K a hg) (F.bi ▸ b.keeps H.le) ((d x (by simpa using hn)).trans hb) (po q)) hd
end

abbrev gtab0 : List (String × Value) := [("ge_operator", .builtin "_operator.ge"), ("le_operator", .builtin "_operator.le"), ("_run_validators", .bool true), ("AttrsAttributeNotFoundError", .ref 42), ("NOTHING", .ref 101), ("attrib", .ref 109), ("_collect_base_attrs_broken", .ref 123),
  ("_transform_attrs", .ref 128), ("evolve", .ref 135), ("Kind", .ref 173), ("_linear", .ref 182), ("_handed", .ref 187), ("Made", .ref 244), ("kind_of", .ref 255), ("_keyed", .ref 262), ("_determine_attrs_eq_order", .ref 274), ("_determine_attrib_eq_order", .ref 281), ("fields", .ref 288),
  ("_default_init_alias_for", .ref 295), ("Attribute", .ref 344), ("_CountingAttr", .ref 379), ("Factory", .ref 401), ("Converter", .ref 430), ("make_class", .ref 441), ("_AndValidator", .ref 465), ("and_", .ref 476), ("called", .ref 490), ("assoc", .ref 495), ("pipe_setters", .ref 502), ("validate", .ref 509),
  ("convert", .ref 516), ("_NumberValidator", .ref 540), ("le_validators", .ref 551), ("ge_validators", .ref 558), ("_law_names", .ref 559), ("_law_short", .ref 560), ("_law_draw", .ref 567), ("_law_check", .ref 574), ("_law_round", .ref 581), ("_law_right", .ref 586), ("_law_holds", .ref 591),
  ("_law_passes", .ref 598), ("_law_changed", .ref 605)]
def gtab : List (Str × Value) := gtab0.map fun (p : String × Value) => (Str.ofString p.1, p.2)
abbrev btab0 : List (String × Value) := [("len", .builtin "len"), ("range", .type "range"), ("sorted", .builtin "sorted"), ("zip", .type "zip"), ("isinstance", .builtin "isinstance"), ("callable", .builtin "callable"), ("repr", .builtin "repr"), ("list", .type "list"), ("tuple", .type "tuple"), ("dict", .type "dict"),
  ("any", .builtin "any"), ("ValueError", .type "ValueError"), ("TypeError", .type "TypeError"), ("NotImplemented", .notImplemented)]
def btab : List (Str × Value) := btab0.map fun (p : String × Value) => (Str.ofString p.1, p.2)
theorem gtab_ok (P : Params) : (gtab.all fun p => nsIn (KF P) mainGlobals p.1 == some (some p.2)) = true := by kernel_rfl
theorem btab_ok (P : Params) : (btab.all fun p => nsIn (KF P) mainGlobals p.1 == some none && bootBuiltins p.1 == some p.2 && !(p.1 == ("__name__" : Str))) = true := by kernel_rfl
theorem cl_ok (P : Params) : ([173, 244, 344, 379, 430, 465, 540].all fun c => findIn (KF P) (.ref c) "__getattribute__" == some (some (.builtin "object.__getattribute__")) && (findIn (KF P) (.ref c) "__getattr__" == some none && (findIn (KF P) (.ref c) "__setattr__" == some (some (.builtin "object.__setattr__")) &&
  (plainOver (KF P) c && hasDictIn (KF P) c)))) = true := by kernel_rfl
theorem cl_of {P : Params} {c : Addr} (m : c ∈ [173, 244, 344, 379, 430, 465, 540]) : Cl P c := by
  have e := List.all_eq_true.mp (cl_ok P) c m
  simp only [Bool.and_eq_true, beq_iff_eq] at e
  exact ⟨e.1, e.2.1, e.2.2.1, e.2.2.2.1, e.2.2.2.2⟩
abbrev atab0 : List (Addr × String) := [(173, "name"), (173, "mro"), (173, "attrs"), (173, "eq_attrs"), (173, "order_attrs"), (244, "kind"), (244, "held"), (344, "name"), (344, "default"), (344, "validator"), (344, "eq"), (344, "eq_key"), (344, "order"), (344, "order_key"), (344, "init"), (344, "converter"),
  (344, "kw_only"), (344, "inherited"), (344, "on_setattr"), (344, "alias"), (344, "alias_is_default"), (379, "_default"), (379, "_validator"), (379, "converter"), (379, "eq"), (379, "eq_key"), (379, "order"), (379, "order_key"), (379, "init"), (379, "kw_only"), (379, "on_setattr"), (379, "alias"),
  (430, "converter"), (430, "takes_self"), (430, "takes_field"), (465, "_validators"), (540, "bound"), (540, "compare_op"), (540, "compare_func")]
def atab : List (Addr × Str) := atab0.map fun (p : Addr × String) => (p.1, Str.ofString p.2)
theorem atab_ok (P : Params) : (atab.all fun p => findIn (KF P) (.ref p.1) p.2 == some none) = true := by kernel_rfl
theorem na_of {P : Params} {c : Addr} {x : Str} (m : (c, x) ∈ atab) : Na P c x := by
  have e := List.all_eq_true.mp (atab_ok P) _ m
  exact beq_iff_eq.mp e
theorem Na.taker {P : Params} {c : Addr} {x : Str} (n : Na P c x) : takerIn (KF P) c x = some none := by
  unfold takerIn; rw [n]; rfl
theorem gl_of {P : Params} {x : Str} {v : Value} (m : (x, v) ∈ gtab) : nsIn (KF P) mainGlobals x = some (some v) := beq_iff_eq.mp (List.all_eq_true.mp (gtab_ok P) _ m)
theorem bl_of {P : Params} {x : Str} {v : Value} (m : (x, v) ∈ btab) : nsIn (KF P) mainGlobals x = some none ∧ bootBuiltins x = some v ∧ (x == ("__name__" : Str)) = false := by
  have e := List.all_eq_true.mp (btab_ok P) _ m
  simp only [Bool.and_eq_true, beq_iff_eq, Bool.not_eq_true'] at e
  exact ⟨e.1.1, e.1.2, e.2⟩
theorem gl_of' {P : Params} {x : String} {v : Value} (m : (x, v) ∈ gtab0) : nsIn (KF P) mainGlobals (Str.ofString x) = some (some v) := gl_of (List.mem_map_of_mem (f := fun (p : String × Value) => (Str.ofString p.1, p.2)) m)
theorem bl_of' {P : Params} {x : String} {v : Value} (m : (x, v) ∈ btab0) : nsIn (KF P) mainGlobals (Str.ofString x) = some none ∧ bootBuiltins (Str.ofString x) = some v ∧ (Str.ofString x == ("__name__" : Str)) = false := bl_of (List.mem_map_of_mem (f := fun (p : String × Value) => (Str.ofString p.1, p.2)) m)
theorem na_of' {P : Params} {c : Addr} {x : String} (m : (c, x) ∈ atab0) : Na P c (Str.ofString x) := na_of (List.mem_map_of_mem (f := fun (p : Addr × String) => (p.1, Str.ofString p.2)) m)
section
variable {C : Cfg} {A : Around} {E : Value → Heap → Prop} {h g : Heap} {V : Led} {en : Env} {L : Addr} {ns : List (Str × NameKind)} {xs : List Str} {cl : List (Str × Addr)} {x : Str} {v : Value} {pos : Pos}
theorem W_Nb' {Q : Value → Heap → Prop} (F : Fe en L ns xs cl) (H : Hp C.w.params g V h) (Wd : Wld C g) (hx : ns.lookup x = some .globalImplicit) (hg : nsIn (KF C.w.params) mainGlobals x = some none ∧ bootBuiltins x = some v ∧ (x == ("__name__" : Str)) = false)
    (hd : (x == ("__debug__" : Str)) = false) (q : Q v h) : W C A (eval (.Name x pos) en) Q E h := W_Nb F H Wd hx hg.1 hg.2.1 hg.2.2 hd q
end
abbrev fnT : List Addr := [109, 123, 128, 135, 182, 187, 255, 262, 274, 281, 288, 295, 441, 476, 490, 495, 502, 509, 516, 551, 558, 567, 574, 581, 586, 591, 598, 605, 156, 331, 170, 427, 462, 537]
abbrev clT : List Addr := [173, 244, 344, 379, 401, 430, 465, 540]
def isFrameK : Option Keeper → Bool
  | some .frame => true
  | _ => false
def isMachineK : Option Keeper → Bool
  | some .machine => true
  | _ => false
theorem fnT_ok (P : Params) (q : Program) : (fnT.all fun a => isFrameK (peek (KF P) ⟨q, P⟩ (keeperOf (.ref a)))) = true := by kernel_rfl
theorem clT_ok (P : Params) (q : Program) : (clT.all fun a => isMachineK (peek (KF P) ⟨q, P⟩ (keeperOf (.ref a)))) = true := by kernel_rfl
theorem Kpr.fnT {C : Cfg} {g h : Heap} {a : Addr} (Wd : Wld C g) (le : Le g h) (m : a ∈ fnT) : Kpr C (.ref a) h := by
  have e := List.all_eq_true.mp (fnT_ok C.w.params C.prog) a m
  unfold isFrameK at e
  split at e
  · rename_i q; exact Kpr.peek Wd.K le q
  · cases e
theorem Kpr.clT {C : Cfg} {g h : Heap} {a : Addr} (Wd : Wld C g) (le : Le g h) (m : a ∈ clT) : Kpr C (.ref a) h := by
  have e := List.all_eq_true.mp (clT_ok C.w.params C.prog) a m
  unfold isMachineK at e
  split at e
  · rename_i q; exact Kpr.peek Wd.K le q
  · cases e

end
section
set_option linter.all false
section
variable {C : Cfg} {A : Around} {E : Value → Heap → Prop} {h g : Heap} {V : Led}

def Stk (A : Around) (V : Led) : Prop := ∃ envs, A.frames = some envs ∧ ∀ en ∈ envs, en.scope.kind ≠ .module ∧ ∃ L xs vs, en.frame = some L ∧ (L, Sp.frm xs vs) ∈ V
theorem Stk.more {p : Addr × Sp} (s : Stk A V) : Stk A (p :: V) := let ⟨envs, e, k⟩ := s; ⟨envs, e, fun en hen => let ⟨a, L, xs, vs, b, c⟩ := k en hen; ⟨a, L, xs, vs, b, .tail _ c⟩⟩
def Sb (A : Around) (en : Env) (L : Addr) (V : Led) : Prop := ∃ envs, A.frames = some (en :: envs) ∧ en.scope.kind ≠ .module ∧ en.frame = some L ∧ ∀ e ∈ envs, e.scope.kind ≠ .module ∧ ∃ L xs vs, e.frame = some L ∧ (L, Sp.frm xs vs) ∈ V
theorem Sb.stk {en : Env} {L : Addr} {V' : Led} {xs : List Str} {vs : List (Option Value)} (s : Sb A en L V) (m : (L, Sp.frm xs vs) ∈ V') (sub : ∀ p ∈ V, p ∈ V') : Stk A V' := by
  obtain ⟨envs, e, k, f, r⟩ := s
  refine ⟨_, e, fun x hx => ?_⟩
  cases hx with
  | head => exact ⟨k, _, _, _, f, m⟩
  | tail _ hx => obtain ⟨a, L, xs, vs, b, c⟩ := r x hx; exact ⟨a, L, xs, vs, b, sub _ c⟩
structure Rm (A : Around) (n : Nat) : Prop where
  d : A.depth + 4 * n ≤ 900
  u : A.units + 12 * n ≤ 2000
  hd : A.handled = none
  gd : A.guards = some []
theorem Rm.le {A : Around} {n m : Nat} (r : Rm A n) (l : m ≤ n) : Rm A m := ⟨by have := r.d; omega, by have := r.u; omega, r.hd, r.gd⟩
theorem Rm.lim {A : Around} {n : Nat} (r : Rm A n) : A.depth < recursionLimit := by have := r.d; unfold recursionLimit; omega
theorem Rm.deeper {A : Around} {n : Nat} {en : Env} (r : Rm A (n + 1)) : Rm (A.deeper en) n := ⟨by have := r.d; show A.depth + 1 + 4 * n ≤ 900; omega, by have := r.u; show A.units + 3 + 12 * n ≤ 2000; omega, r.hd, r.gd⟩

theorem CW_func {body : List Stmt} {en : Env} {R : Result → Heap → Prop}
    (x : W C (A.deeper en) (execs body en) (fun f h' => R (.ok (.ret (match f with | .ret v => v | _ => .none))) h')
      (fun e h' => W C (A.deeper en) (leaving en e) (fun _ h'' => R (.error e) h'') (fun e' h'' => R (.error e') h'') h') h) : CW C A (.func body en) R h :=
  fun k => codeAny_func (wpAny_mono (x k) (fun _ _ y => y) fun _ _ ⟨_, k', e, y⟩ => e ▸ wpAny_mono (y k') (fun _ _ ⟨h2, k2, e2, y2⟩ => ⟨h2, k2, e2, y2⟩) fun _ _ ⟨h2, k2, e2, y2⟩ => ⟨h2, k2, e2, y2⟩)

def Bq (R : Result → Heap → Prop) : Flow → Heap → Prop := fun f h' => R (.ok (.ret (match f with | .ret v => v | _ => .none))) h'
def Be (C : Cfg) (A : Around) (en : Env) (R : Result → Heap → Prop) : Value → Heap → Prop := fun e h' => W C A (leaving en e) (fun _ h'' => R (.error e) h'') (fun e' h'' => R (.error e') h'') h'

theorem CW_fn {f : Addr} {o : Obj} {fd : FuncData} {body : List Stmt} {args : Args} {binds : List (Str × Value)} {R : Result → Heap → Prop} {ns : List (Str × NameKind)} {xs : List Str} {vs : List (Option Value)} {n : Nat}
    (H : Hp C.w.params g V h) (Wd : Wld C g) (S : Stk A V) (r : Rm A (n + 1)) (ho : g.get? f = some o) (hd : o.data = .func fd) (hcd : g.CodeRec fd.code fd.qualname) (hbody : fd.body = .stmts body)
    (hbind : Looks C.M g (bindArgs fd args) binds) (hns : fd.scope.names = ns) (hgl : fd.globals = mainGlobals ∧ fd.builtins = builtinsNs)
    (hco : (fd.scope.isCoroutine = false ∧ fd.scope.isGenerator = false) ∧ fd.scope.kind = .function)
    (hcell : (ns.all fun x => x.2 != .cell) = true) (hloc : (binds.all fun y => ns.lookup y.1 == some .local) = true)
    (hxs : (xs.all fun x => ns.lookup x == some .local && !(x == ("__debug__" : Str))) = true) (hnd : xs.Nodup) (hvs : xs.map (fun x => binds.reverse.lookup x) = vs)
    (x : ∀ L en A' h', Hp C.w.params g ((L, .frm xs vs) :: V) h' → Fe en L ns xs fd.closure → en.func = some f ∧ en.qual = fd.qualname ++ ".<locals>." ∧ en.code = fd.code → en.scope = fd.scope → Sb A' en L V → Rm A' n → W C A' (execs body en) (Bq R) (Be C A' en R) h') :
    CW C A (.call (.ref f) args) R h := fun k => by
  refine codeAny_call_function (s := C.sh h k) r.lim (H.le _ _ ho) hd hco.1.1 hco.1.2 hbody (hcd.keeps H.le) ?_
  refine hbind _ _ _ _ H.le (wpAny_newFunctionEnv (fun x hx q => ?_) (fun y hy => ?_) (fun h' hn hs => ⟨?_, ?_⟩) hco.2)
  · rw [hns] at hx
    have := List.all_eq_true.mp hcell x hx
    rw [q] at this; cases this
  · rw [hns]; exact beq_iff_eq.mp (List.all_eq_true.mp hloc y hy)
  · exact (Wd.lim.keeps H.le).fresh _ hs
  · have F : Fe (newEnv fd.scope h.objs.size fd.globals fd.closure (fd.qualname ++ ".<locals>.") (some f) fd.code none fd.builtins) h.objs.size ns xs fd.closure := by
      refine ⟨hco.2, hns, rfl, hgl.1, hgl.2, rfl, fun y hy => ?_, hnd⟩
      have := List.all_eq_true.mp hxs y hy
      simp only [Bool.and_eq_true, beq_iff_eq, Bool.not_eq_true'] at this
      exact this
    have ot : ∀ b x, b ≠ h.objs.size → (h.push { cls := .type "frame", data := .dict #[] }).get? b = some x → h'.get? b = some x := fun b x hb e => (hs.2 b hb).trans e
    have H' : Hp C.w.params g ((h.objs.size, .frm xs vs) :: V) h' := by
      have H1 := H.own (s := .frm [] []) (o := { cls := .type "frame", data := .dict #[] }) ⟨_, Heap.Ns.new _ _, rfl, fun i x v e _ => by simp at e⟩
      refine H1.upd .head ⟨_, hn, ?_⟩ ot
      rw [← hvs]
      refine ⟨by simp, fun i y v a b => ?_⟩
      rw [List.getElem?_map, a] at b
      exact Option.some.inj b
    have S' : Sb (A.deeper (newEnv fd.scope h.objs.size fd.globals fd.closure (fd.qualname ++ ".<locals>.") (some f) fd.code none fd.builtins)) (newEnv fd.scope h.objs.size fd.globals fd.closure (fd.qualname ++ ".<locals>.") (some f) fd.code none fd.builtins) h.objs.size V := by
      obtain ⟨envs, e, s⟩ := S
      exact ⟨_, Around.frames_deeper e, by rw [F.kind]; decide, rfl, s⟩
    exact CW_func (x _ _ _ _ H' F ⟨rfl, rfl, rfl⟩ rfl S' r.deeper) _
end

end
section
set_option linter.all false
def Lst (h : Heap) (a : Addr) (vs : List Value) : Prop := ∃ n, h.get? a = some { cls := .type "list", data := .seq vs.toArray n }
def Tp (h : Heap) (a : Addr) (vs : List Value) : Prop := ∃ n, h.get? a = some { cls := .type "tuple", data := .seq vs.toArray n }
theorem Lst.up {h h' : Heap} {a vs} (l : Lst h a vs) (le : Le h h') : Lst h' a vs := let ⟨n, e⟩ := l; ⟨n, le _ _ e⟩
theorem Tp.up {h h' : Heap} {a vs} (l : Tp h a vs) (le : Le h h') : Tp h' a vs := let ⟨n, e⟩ := l; ⟨n, le _ _ e⟩
theorem Lst.is {h : Heap} {a vs} (l : Lst h a vs) : h.IsList a vs.toArray := let ⟨n, e⟩ := l; ⟨_, e, rfl, n, rfl⟩
theorem Tp.is {h : Heap} {a vs} (l : Tp h a vs) : IsTup h a vs.toArray := let ⟨n, e⟩ := l; ⟨_, e, rfl, n, rfl⟩
theorem Hp.lst {P : Params} {g h : Heap} {V : Led} {a : Addr} {vs : List Value} (H : Hp P g V h) (m : (a, .lst vs) ∈ V) : Lst h a vs := H.at m

section
variable {C : Cfg} {A : Around} {E : Value → Heap → Prop} {h g : Heap} {en : Env} {a b : Int} {t u : Tok} {Q : Value → Heap → Prop}
theorem W_add (q : ∀ k, Q (.int (a + b) k) h) : W C A (binaryOp .Add (.int a t) (.int b u)) Q E h := fun _ => add_int (po (q _))
theorem W_sub (q : ∀ k, Q (.int (a - b) k) h) : W C A (binaryOp .Sub (.int a t) (.int b u)) Q E h := fun _ => sub_int (po (q _))
theorem W_mul (hm : IntMulOk a b) (q : ∀ k, Q (.int (a * b) k) h) : W C A (binaryOp .Mult (.int a t) (.int b u)) Q E h := fun _ => PyProof.Rows.mul_int (po (q _)) hm
theorem W_mod (hb : b ≠ 0) (q : ∀ k, Q (.int (a.fmod b) k) h) : W C A (binaryOp .Mod (.int a t) (.int b u)) Q E h := fun _ => mod_int' hb (po (q _))
theorem W_fdiv (hb : b ≠ 0) (hs : Builtin.divisionGoesByPylong a b = false) (q : ∀ k, Q (.int (a.fdiv b) k) h) : W C A (binaryOp .FloorDiv (.int a t) (.int b u)) Q E h := fun _ => floordiv_int hb (po (q _)) (.inl hs)
theorem W_lt (q : Q (.bool (decide (a < b))) h) : W C A (compareOp .Lt (.int a t) (.int b u)) Q E h := fun _ => lt_int (po q)
theorem W_gt (q : Q (.bool (decide (b < a))) h) : W C A (compareOp .Gt (.int a t) (.int b u)) Q E h := fun _ => PyProof.Rows.gt_int (po q)
theorem W_le (q : Q (.bool (decide (a ≤ b))) h) : W C A (compareOp .LtE (.int a t) (.int b u)) Q E h := fun _ => PyProof.Rows.le_int (po q)
theorem W_ge (q : Q (.bool (decide (b ≤ a))) h) : W C A (compareOp .GtE (.int a t) (.int b u)) Q E h := fun _ => PyProof.Rows.ge_int (po q)
theorem W_eqi (q : Q (.bool (a == b)) h) : W C A (compareOp .Eq (.int a t) (.int b u)) Q E h := fun _ => eq_int (po q)
theorem W_nei (q : Q (.bool (a != b)) h) : W C A (compareOp .NotEq (.int a t) (.int b u)) Q E h := fun _ => ne_int (po q)
theorem W_eqs {x y : Str} (q : Q (.bool (x == y)) h) : W C A (compareOp .Eq (.str x t) (.str y u)) Q E h := fun _ => eq_str (po q)
theorem W_nes {x y : Str} (q : Q (.bool (x != y)) h) : W C A (compareOp .NotEq (.str x t) (.str y u)) Q E h := fun _ => ne_str (po q)
theorem W_is {v w : Value} (q : Q (.bool (v == w)) h) (e : compareOp .Is v w = pure (.bool (v == w))) : W C A (compareOp .Is v w) Q E h := by rw [e]; exact W_pure q
theorem W_isNot {v w : Value} (q : Q (.bool (v != w)) h) (e : compareOp .IsNot v w = pure (.bool (v != w))) : W C A (compareOp .IsNot v w) Q E h := by rw [e]; exact W_pure q

theorem sub_false (s : PySem.Expr) (o i : Value) : ∃ ops, subscripted s false o i = operate ops (getItem o i) := by
  cases s with
  | Slice x y z p => cases z <;> exact ⟨_, rfl⟩
  | _ => exact ⟨_, rfl⟩
theorem W_Sub {v s : PySem.Expr} {pos : Pos} (x : W C A (eval v en) (fun o h1 => W C A (eval s en) (fun i h2 => W C A (subscriptTail v s o i) Q E h2) E h1) E h) : W C A (eval (.Subscript v s pos) en) Q E h :=
  W_bind (W_mono x (fun _ _ y => W_bind (W_holding (W_mono y (fun _ _ z => W_bind (W_standAt z)) fun _ _ z => z))) fun _ _ y => y)
theorem W_tail {v s : PySem.Expr} {o i : Value} {T id : String} (hT : ∀ k, (C.sh h k).TypeIs o T) (hl : typeLookup (.type T) "__getitem__" = pure (some (.builtin id))) (x : W C A (getItem o i) Q E h) : W C A (subscriptTail v s o i) Q E h := fun k => by
  obtain ⟨ops, e⟩ := sub_false s o i
  exact tail_any (hT k) hl (x k) e
theorem W_sub_list {v s : PySem.Expr} {l : Addr} {vs : List Value} {x : Value} {i : Int} (L : Lst h l vs) (h0 : 0 ≤ i) (hi : i < 2 ^ 63) (hx : vs[i.toNat]? = some x) (q : Q x h) : W C A (subscriptTail v s (.ref l) (.int i t)) Q E h :=
  W_tail (fun _ => L.is.typeIs) slot_list_getitem.lookup fun _ => wpAny_getItem_list (s := C.sh h _) L.is h0 hi (by simpa using hx) (po q)
theorem W_sub_tup {v s : PySem.Expr} {l : Addr} {vs : List Value} {x : Value} {i : Int} {j : Nat} (L : Tp h l vs) (h0 : -(2 ^ 63) ≤ i) (hi : i < 2 ^ 63) (hj : seqIndex? i vs.length = some j) (hx : vs[j]? = some x) (q : Q x h) : W C A (subscriptTail v s (.ref l) (.int i t)) Q E h :=
  W_tail (fun _ => L.is.typeIs) PyProof.Rows.slot_tuple_getitem.lookup fun _ => PyProof.Rows.getItem_tuple (s := C.sh h _) L.is h0 hi (by simpa using hj) (by simpa using hx) (po q)
theorem W_len_list {l : Addr} {vs : List Value} (L : Lst h l vs) (hz : vs.length < 2 ^ 62) (q : ∀ k, Q (.int vs.length k) h) : W C A (call (.builtin "len") [.ref l]) Q E h := fun _ =>
  PyProof.Rows.len_list (s := C.sh h _) L.is (by simp; omega) (by simpa using po (q _))
theorem W_len_tup {l : Addr} {vs : List Value} (L : Tp h l vs) (hz : vs.length < 2 ^ 62) (q : ∀ k, Q (.int vs.length k) h) : W C A (call (.builtin "len") [.ref l]) Q E h := fun _ =>
  PyProof.Rows.len_tuple (s := C.sh h _) L.is (by simp; omega) (by simpa using po (q _))
theorem W_Attr {v : PySem.Expr} {x : Str} {pos : Pos} (hb : ∀ m : Sem Value, attributeBase v x en m = m) (y : W C A (eval v en) (fun o h1 => W C A (getAttr o x true) Q E h1) E h) : W C A (eval (.Attribute v x pos) en) Q E h := by
  show W C A (do
    let o ← attributeBase v x en (eval v en)
    standAt pos.atName
    let r ← holding [o] (getAttr o x true)
    letTemporaryGo v o r
    pure r) Q E h
  rw [hb]
  exact W_bind (W_mono y (fun _ _ z => W_bind (W_standAt (W_bind (W_holding (W_mono z (fun _ _ u => W_bind fun k => wpAny_letTemporaryGo (po (W_pure u))) fun _ _ u => u))))) fun _ _ z => z)
theorem W_CallM {o : PySem.Expr} {x : Str} {p pos : Pos} {args : List PySem.Expr} {kws : List Keyword} (hb : ∀ m : Sem Value, attributeBase o x en m = m) (hl : (p.endLine == pos.line) = true)
    (y : W C A (eval o en) (fun ov h1 => W C A (calleeOf (methodCallForm (args.length + kws.length) (backTo pos (starEach args en)) (backToKw pos (keywordEach kws en))) o en ov x) (fun ff h2 => W C A (callWith pos ff.1 ff.2 (backTo pos (starEach args en)) (backToKw pos (keywordEach kws en))) Q E h2) E h1) E h) :
    W C A (eval (.Call (.Attribute o x p) args kws pos) en) Q E h := by
  show W C A (do
    let ov ← attributeBase o x en (eval o en)
    standAt p.atName
    methodCall o x p pos en ov (args.length + kws.length) (backTo pos (starEach args en)) (backToKw pos (keywordEach kws en))) Q E h
  rw [hb]
  refine W_bind (W_mono y (fun ov h1 z => W_bind (W_standAt ?_)) fun _ _ z => z)
  unfold methodCall methodCallPos
  rw [hl, Bool.or_true, if_pos rfl]
  exact W_bind (W_holding (W_mono z (fun ff h2 u => W_bind (W_pure u)) fun _ _ u => u))
end

end
section
set_option linter.all false
section
variable {C : Cfg} {A : Around} {E : Value → Heap → Prop} {h g : Heap} {V : Led} {R : Result → Heap → Prop} {rest : List Value} {kw : List (Str × Value)}
theorem Wld.ne1 {h : Heap} (Wd : Wld C g) (le : Le g h) : (h.objs.size == sysModules) = false := by
  obtain ⟨mg, mb, ⟨o, _, _, e, _⟩, _⟩ := Wd.T
  have l1 : mainGlobals < h.objs.size := Heap.lt_size (le _ _ e)
  have l2 : sysModules < mainGlobals := by decide
  exact beq_eq_false_iff_ne.mpr (Nat.ne_of_gt (Nat.lt_trans l2 l1))
def Ib (x : Addr) (R : Result → Heap → Prop) : Result → Heap → Prop
  | .ok (.ret v), h => v = .none ∧ R (.ok (.ret (.ref x))) h
  | .ok _, _ => False
  | .error e, h => R (.error e) h
theorem weight_make {c : Addr} : Code.weight (.builtin "type.__call__" ⟨.ref c :: rest, kw⟩) = 1 := by kernel_rfl
theorem units_make {c : Addr} : Code.cUnits (.builtin "type.__call__" ⟨.ref c :: rest, kw⟩) = 1 := by kernel_rfl
theorem Rm.under {n : Nat} {c : Addr} (r : Rm A (n + 1)) : Rm (A.under (.builtin "type.__call__" ⟨.ref c :: rest, kw⟩)) n := by
  refine ⟨?_, ?_, r.hd, r.gd⟩
  · show A.depth + Code.weight _ + 4 * n ≤ 900
    rw [weight_make]
    have := r.d
    omega
  · show A.units + Code.cUnits _ + 12 * n ≤ 2000
    rw [units_make]
    have := r.u
    omega
theorem Stk.under {c : Addr} (s : Stk A V) : Stk (A.under (.builtin "type.__call__" ⟨.ref c :: rest, kw⟩)) V := s
theorem CW_make {c fI : Addr} (H : Hp C.w.params g V h) (Wd : Wld C g) (hm : makesIn (KF C.w.params) c = true) (hi : findIn (KF C.w.params) (.ref c) "__init__" = some (some (.ref fI))) (hf : typeIn (KF C.w.params) (.ref fI) = some (.type "function"))
    (x : ∀ a dx h', Hp C.w.params g ((a, .obj (instObj c dx)) :: (dx, .sd [] []) :: V) h' → CW C (A.under (.builtin "type.__call__" ⟨.ref c :: rest, kw⟩)) (.call (.ref fI) ⟨.ref a :: rest, kw⟩) (Ib a R) h') :
    CW C A (.call (.ref c) ⟨rest, kw⟩) R h := fun k => by
  have X := Wd.K.keeps H.le
  refine make_core (makes_of X hm) (looks_findIn X hi) (fun self => bind_fn X self hf) (.inl rfl) ?_
  have H1 := H.own (s := .sd [] []) (o := emptyDict) ⟨[], 0, Heap.get?_push_size _ rfl, .nil, Wd.ne1 H.le⟩
  have H2 := H1.own (s := .obj (instObj c h.objs.size)) (o := instObj c h.objs.size) (Heap.get?_push_size _ rfl)
  rw [Heap.size_push] at H2
  refine codeAny_mono (x _ _ _ H2 k) fun r s' ⟨h', k', e, z⟩ => ?_
  subst e
  rcases r with e | (v | _ | _ | _) <;> first | exact po z | exact z.elim | exact ⟨z.1, po z.2⟩
theorem mk_ok (P : Params) : ([(173, 149), (244, 201), (344, 310), (379, 362), (430, 420), (465, 455), (540, 530)].all fun (p : Addr × Addr) => makesIn (KF P) p.1 && (findIn (KF P) (.ref p.1) "__init__" == some (some (.ref p.2)) && typeIn (KF P) (.ref p.2) == some (.type "function"))) = true := by kernel_rfl
theorem mk_of {P : Params} {c f : Addr} (m : (c, f) ∈ [(173, 149), (244, 201), (344, 310), (379, 362), (430, 420), (465, 455), (540, 530)]) : makesIn (KF P) c = true ∧ findIn (KF P) (.ref c) "__init__" = some (some (.ref f)) ∧ typeIn (KF P) (.ref f) = some (.type "function") := by
  have e := List.all_eq_true.mp (mk_ok P) _ m
  simp only [Bool.and_eq_true, beq_iff_eq] at e
  exact ⟨e.1, e.2.1, e.2.2⟩
theorem CW_inst {c a fC : Addr} {ks : List Str} {vs : List Value} (X : (KF C.w.params).In h) (I : Inst C.w.params h a c ks vs) (hc : findIn (KF C.w.params) (.ref c) "__call__" = some (some (.ref fC))) (hf : isFn (KF C.w.params) (.ref fC) = true) (hfn : fnIn (KF C.w.params) fC = true)
    (x : CW C A (.call (.ref fC) ⟨.ref a :: rest, kw⟩) R h) : CW C A (.call (.ref a) ⟨rest, kw⟩) R h := fun k => by
  obtain ⟨dx, es, n, e, I⟩ := I.at
  refine codeAny_of_tree ?_
  show wpAny _ _ (callAny (.ref a) _) _ _ _
  refine nd_load I.at_ ?_
  show wpAny _ _ (callAny.viaDunder (.ref a) _) _ _ _
  unfold callAny.viaDunder
  have sp : Looks C.M h (specialOf (.ref a) "__call__") (some (.ref fC)) := I.type.andThen (looks_findIn X hc)
  refine wpAny_bind (sp.at ?_)
  refine wpAny_bind ((bind_fn X (.ref a) (beq_iff_eq.mp hf)).at ?_)
  unfold fnIn at hfn
  split at hfn
  · rename_i oc od fd sl q
    refine wpAny_bind (wpAny_bind (wpAny_load (X _ _ q) (wpAny_pure ?_)))
    exact wpAny_pure (And.intro rfl (x k))
  · cases hfn
theorem call_ok (P : Params) : ([(173, 170), (430, 427), (465, 462), (540, 537)].all fun (p : Addr × Addr) => findIn (KF P) (.ref p.1) "__call__" == some (some (.ref p.2)) && (isFn (KF P) (.ref p.2) && fnIn (KF P) p.2)) = true := by kernel_rfl
theorem call_of {P : Params} {c f : Addr} (m : (c, f) ∈ [(173, 170), (430, 427), (465, 462), (540, 537)]) : findIn (KF P) (.ref c) "__call__" = some (some (.ref f)) ∧ isFn (KF P) (.ref f) = true ∧ fnIn (KF P) f = true := by
  have e := List.all_eq_true.mp (call_ok P) _ m
  simp only [Bool.and_eq_true, beq_iff_eq] at e
  exact ⟨e.1, e.2.1, e.2.2⟩
theorem CW_instT {c a fC : Addr} {ks : List Str} {vs : List Value} (X : (KF C.w.params).In h) (I : Inst C.w.params h a c ks vs) (m : (c, fC) ∈ [(173, 170), (430, 427), (465, 462), (540, 537)])
    (x : CW C A (.call (.ref fC) ⟨.ref a :: rest, kw⟩) R h) : CW C A (.call (.ref a) ⟨rest, kw⟩) R h :=
  let ⟨a1, a2, a3⟩ := call_of m
  CW_inst X I a1 a2 a3 x
theorem meth_ok (P : Params) : ([(173, "eq_of", 156)].all fun (p : Addr × String × Addr) => findIn (KF P) (.ref p.1) (Str.ofString p.2.1) == some (some (.ref p.2.2)) && typeIn (KF P) (.ref p.2.2) == some (.type "function")) = true := by kernel_rfl
theorem W_meth {c a f : Addr} {ks : List Str} {vs : List Value} {y : Str} {pl : Sem Bool} {Q : Value × List Value → Heap → Prop} (X : (KF C.w.params).In h) (K : Cl C.w.params c) (I : Inst C.w.params h a c ks vs) (hf : findIn (KF C.w.params) (.ref c) y = some (some (.ref f))) (ht : typeIn (KF C.w.params) (.ref f) = some (.type "function"))
    (hn : y ∉ ks) (q : Q (.ref f, [.ref a]) h) : W C A (getMethod (.ref a) y pl) Q E h := fun k => by
  obtain ⟨dx, es, n, e, I⟩ := I.at
  exact method_fn (s := C.sh h k) X I K.ga K.gt hf ht (by show Option.map (·.isSome) (lookIn y (dictOf es n)) = _; rw [lookIn_dict, e.getL_none hn]; rfl) (po q)
theorem W_methA {c a : Addr} {ks : List Str} {vs : List Value} {y : Str} {v : Value} {pl : Sem Bool} {Q : Value × List Value → Heap → Prop} (X : (KF C.w.params).In h) (K : Cl C.w.params c) (I : Inst C.w.params h a c ks vs) (n : Na C.w.params c y) (nd : ks.Nodup) (kk : Kk ks vs y v) (hv : handedIn v = true)
    (q : Q (v, []) h) : W C A (getMethod (.ref a) y pl) Q E h := fun k => by
  obtain ⟨dx, es, m, e, I'⟩ := I.at
  refine method_usual (s := C.sh h k) (r := none) X I' K.ga K.gt n rfl ?_
  exact wpAny_mono (W_getI (kx := false) (E := E) (Q := fun v h' => Q (v, []) h') X K n I nd kk hv q k) (fun _ _ z => z) fun _ _ z => z
theorem W_callee {o : PySem.Expr} {en : Env} {v : Value} {x : Str} {few : Bool} {Q : Value × List Value → Heap → Prop} (hf : few = true) (y : W C A (getMethod v x (do return (← importBound o en).getD true)) Q E h) : W C A (calleeOf few o en v x) Q E h := by
  subst hf; exact y
end
theorem Hp.ready {P : Params} {g h : Heap} {V : Led} {a c dx : Addr} {ks : List Str} {vs : List Value} (H : Hp P g ((a, .obj (instObj c dx)) :: (dx, .sd ks vs) :: V) h) : ∃ g', Le g g' ∧ Inst P g' a c ks vs ∧ Hp P g' V h := by
  obtain ⟨g1, l1, s1, H1⟩ := H.give
  obtain ⟨l2, H2⟩ := H1.drop.frz
  have n := H1.nd
  simp only [List.map_cons, List.nodup_cons] at n
  exact ⟨_, l1.trans l2, ⟨dx, frz_get (H1.at (s := .obj (instObj c dx)) (.head _)) n.1, Sd.up s1 l2⟩, H2⟩

section
variable {Q : Flow → Heap → Prop} {k : Heap → Prop} {R : Result → Heap → Prop} {h : Heap} {v : Value} {x : Addr}
theorem Fl_next (q : k h) : Fl Q k .next h := q
theorem Fl_ret (q : Q (.ret v) h) : Fl Q k (.ret v) h := q
theorem Fl_cont (q : Q .cont h) : Fl Q k .cont h := q
theorem Bq_ret (q : R (.ok (.ret v)) h) : Bq R (.ret v) h := q
theorem Bq_next (q : R (.ok (.ret .none)) h) : Bq R .next h := q
theorem Rv_ret {Q : Value → Heap → Prop} {E : Value → Heap → Prop} (q : Q v h) : Rv Q E (.ok (.ret v)) h := q
theorem Ib_ret (q : R (.ok (.ret (.ref x))) h) : Ib x R (.ok (.ret .none)) h := ⟨rfl, q⟩
end

end
section
set_option linter.all false
section
variable {P : Params} {g g' h h' : Heap} {V V' S S' : Led} {p q : Addr × Sp}
theorem Hp.perm (H : Hp P g V h) (e : V.Perm V') : Hp P g V' h := ⟨H.le, fun q hq => H.sat q (e.mem_iff.mpr hq), fun q hq => H.out q (e.mem_iff.mpr hq), (e.map _).nodup_iff.mp H.nd⟩
theorem Hp.swap (H : Hp P g (p :: q :: V) h) : Hp P g (q :: p :: V) h := H.perm (.swap ..)
theorem Hp.left (H : Hp P g (V ++ S) h) : Hp P g V h := ⟨H.le, fun q hq => H.sat q (List.mem_append_left _ hq), fun q hq => H.out q (List.mem_append_left _ hq), by
  have := H.nd; rw [List.map_append] at this; exact (List.nodup_append.mp this).1⟩
theorem Hp.right (H : Hp P g (V ++ S) h) : Hp P g S h := ⟨H.le, fun q hq => H.sat q (List.mem_append_right _ hq), fun q hq => H.out q (List.mem_append_right _ hq), by
  have := H.nd; rw [List.map_append] at this; exact (List.nodup_append.mp this).2.1⟩
theorem Hp.turn (H : Hp P g (V ++ S) h) (k : S'.map (·.1) = S.map (·.1)) (hs : ∀ p ∈ S', Sat P g h' p.1 p.2) (ot : ∀ b x, b ∉ S.map (·.1) → h.get? b = some x → h'.get? b = some x) : Hp P g (V ++ S') h' := by
  have nd := H.nd
  rw [List.map_append] at nd
  refine ⟨fun b x e => ot b x (fun m => ?_) (H.le b x e), fun p hp => ?_, fun p hp => ?_, by rw [List.map_append, k]; exact nd⟩
  · obtain ⟨p, hp, rfl⟩ := List.mem_map.mp m
    have := H.out p (List.mem_append_right _ hp)
    rw [e] at this; cases this
  · rcases List.mem_append.mp hp with hp | hp
    · refine (H.sat p (List.mem_append_left _ hp)).of_get fun o e => ot _ o (fun m => ?_) e
      exact (List.nodup_append.mp nd).2.2 _ (List.mem_map_of_mem (f := (·.1)) hp) _ m rfl
    · exact hs p hp
  · rcases List.mem_append.mp hp with hp | hp
    · exact H.out p (List.mem_append_left _ hp)
    · have m : p.1 ∈ S.map (·.1) := k ▸ List.mem_map_of_mem (f := (·.1)) hp
      obtain ⟨q, hq, e⟩ := List.mem_map.mp m
      rw [← e]; exact H.out q (List.mem_append_right _ hq)
end

structure Ity (C : Cfg) (A : Around) (tg : PySem.Expr) (it : Value) (n : Nat) (S : Nat → Led) (Y : Nat → Heap → Value → Prop) (g0 : Heap) : Prop where
  next : ∀ {i : Nat} {g h : Heap} {V : Led} {Q : Value → Heap → Prop} {E E' : Value → Heap → Prop}, i < n → Le g0 g → Hp C.w.params g (V ++ S i) h → (∀ v g' h', Le g g' → Y i g' v → Hp C.w.params g' (V ++ S (i + 1)) h' → Q v h') →
    W C A (pyNext it) (fun r h1 => ∃ v, r = some v ∧ W C A (letOwnedTupleGo tg it v) (fun _ h2 => Q v h2) E h1) E' h
  done : ∀ {g h : Heap} {V : Led} {Q : Heap → Prop} {E : Value → Heap → Prop}, Le g0 g → Hp C.w.params g (V ++ S n) h → (∀ h', Hp C.w.params g V h' → Q h') → W C A (pyNext it) (fun r h1 => r = none ∧ Q h1) E h
  self : ∀ {g h : Heap} {V : Led} {Q : Value → Heap → Prop} {E : Value → Heap → Prop}, Le g0 g → Hp C.w.params g (V ++ S 0) h → Q it h → W C A (pyIter it) Q E h

section
variable {C : Cfg} {A : Around} {E : Value → Heap → Prop} {g g0 h : Heap} {V : Led} {en : Env} {L : Addr} {ns : List (Str × NameKind)} {xs : List Str} {vs : List (Option Value)} {cl : List (Str × Addr)} {tg iter : PySem.Expr} {it : Value} {n : Nat} {S : Nat → Led} {Y : Nat → Heap → Value → Prop} {pos : Pos}

theorem Ity.of {I : Addr} {fp wr : List Addr} {p : Nat → Value → Prop} {St : Nat → Heap → Prop} (T : Walks C.prog C.w A I fp wr n p St) (ht : ∀ v, letOwnedTupleGo tg (.ref I) v = pure ()) (hS : ∀ i g h, Le g0 g → Hp C.w.params g (S i) h → St i h)
    (hS' : ∀ i g h, St i h → ∀ p ∈ S i, Sat C.w.params g h p.1 p.2) (keys : ∀ i, (S i).map (·.1) = wr) (hY : ∀ i g v, i < n → Le g0 g → p i v → Y i g v) : Ity C A tg (.ref I) n S Y g0 where
  next := fun {i g h V Q E E'} hi le H q => fun k => by
    refine T.item i _ _ _ hi (hS i g h le H.right) fun v h' tk hp hst ot => ⟨h', tk, rfl, v, rfl, fun k' => ?_⟩
    rw [ht]
    exact wpAny_pure (po (q v g h' (Le.refl g) (hY i g v hi le hp) (H.turn ((keys _).trans (keys _).symm) (hS' _ g h' hst) fun b x hb e => ot b x (by rw [← keys i]; exact hb) e)))
  done := fun {g h V Q E} le H q => fun k => by
    refine T.done _ _ _ (hS n g h le H.right) fun h' tk ot => ⟨h', tk, rfl, rfl, q h' ?_⟩
    have ot' : ∀ b x, b ∉ (S n).map (·.1) → h.get? b = some x → h'.get? b = some x := fun b x hb e => ot b x (by rw [← keys n]; exact hb) e
    have nd := H.nd
    rw [List.map_append] at nd
    refine ⟨fun b x e => ot' b x (fun m => ?_) (H.le b x e), fun p hp => (H.sat p (List.mem_append_left _ hp)).of_get fun o e => ot' _ o (fun m => ?_) e, H.left.out, H.left.nd⟩
    · obtain ⟨p, hp, rfl⟩ := List.mem_map.mp m
      have := H.out p (List.mem_append_right _ hp)
      rw [e] at this; cases this
    · exact (List.nodup_append.mp nd).2.2 _ (List.mem_map_of_mem (f := (·.1)) hp) _ m rfl
  self := fun {g h V Q E} le H q => fun k => T.self 0 _ _ _ (hS 0 g h le H.right) (po q)

theorem Ity.ofT {I : Addr} {fp wr : List Addr} {elts : List PySem.Expr} {x1 : Nat} {tp : Pos} {pt : Nat → Array Value → Prop} {St : Nat → Heap → Prop} {Mid : Nat → Addr → Heap → Prop} (T : WalksT C.prog C.w A I fp wr n pt St Mid) (hS : ∀ i g h, Le g0 g → Hp C.w.params g (S i) h → St i h)
    (hS' : ∀ i g h, St i h → ∀ p ∈ S i, Sat C.w.params g h p.1 p.2) (keys : ∀ i, (S i).map (·.1) = wr) (hY : ∀ i g T vals, i < n → Le g0 g → pt i vals → IsTup g T vals → Y i g (.ref T)) :
    Ity C A (.Tuple elts x1 tp) (.ref I) n S Y g0 where
  next := fun {i g h V Q E E'} hi le H q => fun k => by
    refine T.item i _ _ _ hi (hS i g h le H.right) fun a vals h' tk hp ha ht hm ot => ⟨h', tk, rfl, _, rfl, fun k' => ?_⟩
    have H1 : Hp C.w.params g V h' := by
      have ot' : ∀ b x, b ∉ (S i).map (·.1) → h.get? b = some x → h'.get? b = some x := fun b x hb e => ot b x (by rw [← keys i]; exact hb) e
      have nd := H.nd
      rw [List.map_append] at nd
      refine ⟨fun b x e => ot' b x (fun m => ?_) (H.le b x e), fun p hp => (H.sat p (List.mem_append_left _ hp)).of_get fun o e => ot' _ o (fun m => ?_) e, H.left.out, H.left.nd⟩
      · obtain ⟨p, hp, rfl⟩ := List.mem_map.mp m
        have := H.out p (List.mem_append_right _ hp)
        rw [e] at this; cases this
      · exact (List.nodup_append.mp nd).2.2 _ (List.mem_map_of_mem (f := (·.1)) hp) _ m rfl
    refine T.go elts x1 tp i a _ _ _ hm fun h2 hst ot2 => po ?_
    have nV : a ∉ (V ++ S i).map (·.1) := fun m => by
      obtain ⟨p, hp, e⟩ := List.mem_map.mp m
      obtain ⟨o, ho⟩ := (H.sat p hp).ex
      have l1 := Heap.lt_size ho
      have ha' : h.objs.size ≤ a := ha
      have e' : p.1 = a := e
      rw [e'] at l1
      exact absurd (Nat.lt_of_lt_of_le l1 ha') (Nat.lt_irrefl _)
    have ot' : ∀ b x, b ∉ (S i).map (·.1) → h'.get? b = some x → h2.get? b = some x := fun b x hb e => ot2 b x (by rw [← keys i]; exact hb) e
    have nd := H.nd
    rw [List.map_append] at nd nV
    have H2 : Hp C.w.params g V h2 := by
      refine ⟨fun b x e => ot' b x (fun m => ?_) (H1.le b x e), fun p hp => (H1.sat p hp).of_get fun o e => ot' _ o (fun m => ?_) e, H1.out, H1.nd⟩
      · obtain ⟨p, hp, rfl⟩ := List.mem_map.mp m
        have := H.out p (List.mem_append_right _ hp)
        rw [e] at this; cases this
      · exact (List.nodup_append.mp nd).2.2 _ (List.mem_map_of_mem (f := (·.1)) hp) _ m rfl
    have H3 : Hp C.w.params g (V ++ S (i + 1)) h2 := by
      refine ⟨H2.le, fun p hp => ?_, fun p hp => ?_, by rw [List.map_append, (keys (i + 1)).trans (keys i).symm]; exact nd⟩
      · rcases List.mem_append.mp hp with hp | hp
        · exact H2.sat p hp
        · exact hS' _ g h2 hst p hp
      · rcases List.mem_append.mp hp with hp | hp
        · exact H2.out p hp
        · have m : p.1 ∈ (S i).map (·.1) := by rw [keys i, ← keys (i + 1)]; exact List.mem_map_of_mem (f := (·.1)) hp
          obtain ⟨q, hq, e⟩ := List.mem_map.mp m
          rw [← e]; exact H.out q (List.mem_append_right _ hq)
    obtain ⟨l, H4⟩ := H3.frz
    refine q _ _ _ l ?_ H4
    obtain ⟨o, ho, hc, hd⟩ := ht
    have ho2 : h2.get? a = some o := ot' a o (fun m => nV (List.mem_append_right _ m)) ho
    refine hY i _ _ _ hi (le.trans l) hp ⟨o, frz_get ho2 ?_, hc, hd⟩
    rw [List.map_append, (keys (i + 1)).trans (keys i).symm]; exact nV
  done := fun {g h V Q E} le H q => fun k => by
    refine T.done _ _ _ (hS n g h le H.right) fun h' tk ot => ⟨h', tk, rfl, rfl, q h' ?_⟩
    have ot' : ∀ b x, b ∉ (S n).map (·.1) → h.get? b = some x → h'.get? b = some x := fun b x hb e => ot b x (by rw [← keys n]; exact hb) e
    have nd := H.nd
    rw [List.map_append] at nd
    refine ⟨fun b x e => ot' b x (fun m => ?_) (H.le b x e), fun p hp => (H.sat p (List.mem_append_left _ hp)).of_get fun o e => ot' _ o (fun m => ?_) e, H.left.out, H.left.nd⟩
    · obtain ⟨p, hp, rfl⟩ := List.mem_map.mp m
      have := H.out p (List.mem_append_right _ hp)
      rw [e] at this; cases this
    · exact (List.nodup_append.mp nd).2.2 _ (List.mem_map_of_mem (f := (·.1)) hp) _ m rfl
  self := fun {g h V Q E} le H q => fun k => T.self 0 _ _ _ (hS 0 g h le H.right) (po q)
end

end
section
set_option linter.all false
section
variable {C : Cfg} {A : Around} {E : Value → Heap → Prop} {g g0 h : Heap} {V : Led} {en : Env} {L : Addr} {ns : List (Str × NameKind)} {xs : List Str} {vs : List (Option Value)} {cl : List (Str × Addr)} {tg iter : PySem.Expr} {it : Value} {n : Nat} {S : Nat → Led} {Y : Nat → Heap → Value → Prop} {pos : Pos}
def Nt (C : Cfg) (A : Around) (en : Env) (E : Value → Heap → Prop) : Value → Heap → Prop := fun x h' => W C A (noteFrame x en) (fun _ h'' => E x h'') E h'
def Cb (C : Cfg) (A : Around) (en : Env) (E : Value → Heap → Prop) : Value → Heap → Prop := fun x h' => W C A (do
    if (← field x 1) == .none then unsupported "frame.own-activation:exception-without-traceback"
    setFlight x en.frame) (fun _ h'' => E x h'') E h'
def Nf (C : Cfg) (A : Around) (en : Env) (E : Value → Heap → Prop) : Value → Heap → Prop := Nt C A en (Cb C A en E)
theorem nt_of {x : Value} {h' : Heap} {k : Nat} (q : Nt C A en E x h') : notedBy C.M A en (Po C E) x (C.sh h' k) := wpAny_mono (q k) (fun _ _ z => z) fun _ _ z => z
theorem nf_of {x : Value} {h' : Heap} {k : Nat} (q : Nf C A en E x h') : notedBy C.M A en (fun e s' => cameBackBy C.M A en (Po C E) e s') x (C.sh h' k) := by
  refine wpAny_mono (q k) (fun _ _ z => ?_) fun _ _ z => ?_
  all_goals
    obtain ⟨h2, k2, rfl, z⟩ := z
    exact wpAny_mono (z k2) (fun _ _ z => z) fun _ _ z => z

theorem W_iter_list {l : Addr} {vals : List Value} {Q : Value → Heap → Prop} (hh : A.handled = none) (Ls : Lst g l vals) (H : Hp C.w.params g V h)
    (q : ∀ I h', (∀ tx tpos, Ity C A (.Name tx tpos) (.ref I) vals.length (fun i => [(I, .any fun o => o.cls = .type "list_iterator" ∧ o.data = .fields #[.ref l, .int i 0])]) (fun i _ v => vals[i]? = some v) g) →
      Hp C.w.params g (V ++ [(I, .any fun o => o.cls = .type "list_iterator" ∧ o.data = .fields #[.ref l, .int (0 : Nat) 0])]) h' → Q (.ref I) h') : W C A (pyIter (.ref l)) Q E h := fun k => by
  refine wpAny_pyIter_list (s := C.sh h k) (Ls.up H.le).is (po (q _ _ ?_ ?_))
  · have hf := H.fresh.1
    have hne : l ≠ h.objs.size := fun e => by obtain ⟨_, x⟩ := Ls; rw [e, hf] at x; cases x
    have W := Walks.list (prog := C.prog) (w := C.w) hh h.objs.size l hne vals.toArray
    rw [List.size_toArray] at W
    intro tx tpos
    refine Ity.of W (fun _ => rfl) (fun i g' h' le H' => ⟨?_, (Ls.up (le.trans H'.le)).is⟩) (fun i g' h' st p hp => ?_) (fun i => rfl) (fun i g v hi _ hv => by simpa using hv)
    · exact H'.at (s := .any _) (.head _)
    · cases hp with
      | head => exact st.1
      | tail _ hp => cases hp
  · exact (H.own (s := .any _) (o := { cls := .type "list_iterator", data := .fields #[.ref l, .int 0 0] }) ⟨_, Heap.get?_push_size _ rfl, rfl, rfl⟩).perm (List.perm_append_comm (l₁ := [_]))
theorem Tp.ist {h : Heap} {a : Addr} {vs : List Value} (l : Tp h a vs) : h.IsTuple a vs.toArray := let ⟨n, e⟩ := l; ⟨_, e, rfl, n, rfl⟩
theorem W_iter_tup {l : Addr} {vals : List Value} {Q : Value → Heap → Prop} (hh : A.handled = none) (Ls : Tp g l vals) (H : Hp C.w.params g V h)
    (q : ∀ I h', (∀ tx tpos, Ity C A (.Name tx tpos) (.ref I) vals.length (fun i => [(I, .any fun o => o.cls = .type "tuple_iterator" ∧ o.data = .fields #[.ref l, .int i 0])]) (fun i _ v => vals[i]? = some v) g) →
      Hp C.w.params g (V ++ [(I, .any fun o => o.cls = .type "tuple_iterator" ∧ o.data = .fields #[.ref l, .int (0 : Nat) 0])]) h' → Q (.ref I) h') : W C A (pyIter (.ref l)) Q E h := fun k => by
  refine wpAny_pyIter_tuple (s := C.sh h k) (Ls.up H.le).ist (po (q _ _ ?_ ?_))
  · have hf := H.fresh.1
    have hne : l ≠ h.objs.size := fun e => by obtain ⟨_, x⟩ := Ls; rw [e, hf] at x; cases x
    have W := Walks.tuple (prog := C.prog) (w := C.w) hh h.objs.size l hne vals.toArray
    rw [List.size_toArray] at W
    intro tx tpos
    refine Ity.of W (fun _ => rfl) (fun i g' h' le H' => ⟨?_, (Ls.up (le.trans H'.le)).ist⟩) (fun i g' h' st p hp => ?_) (fun i => rfl) (fun i g v hi _ hv => by simpa using hv)
    · exact H'.at (s := .any _) (.head _)
    · cases hp with
      | head => exact st.1
      | tail _ hp => cases hp
  · exact (H.own (s := .any _) (o := { cls := .type "tuple_iterator", data := .fields #[.ref l, .int 0 0] }) ⟨_, Heap.get?_push_size _ rfl, rfl, rfl⟩).perm (List.perm_append_comm (l₁ := [_]))
def Rg (h : Heap) (r : Addr) (a b c : Int) : Prop := ∃ t u v, IsRange h r a b c t u v
theorem Rg.up {h h' : Heap} {r : Addr} {a b c : Int} (x : Rg h r a b c) (le : Le h h') : Rg h' r a b c := let ⟨t, u, v, e⟩ := x; ⟨t, u, v, le _ _ e⟩
theorem W_iter_range {r : Addr} {a b c : Int} {Q : Value → Heap → Prop} (hh : A.handled = none) (R : Rg g r a b c) (hs : Builtin.Range.small a b c = true) (hn : Builtin.Range.rangeSize a b c = (n : Int)) (H : Hp C.w.params g V h)
    (q : ∀ I h', (∀ tx tpos, Ity C A (.Name tx tpos) (.ref I) n (fun i => [(I, .any fun o => o = { cls := .type "range_iterator", dict := none, data := .fields #[rawInt (a + (i : Nat) * c), rawInt ((n : Int) - (i : Nat)), rawInt c], slots := #[] })]) (fun i _ v => ∃ t, v = .int (a + i * c) t) g) →
      Hp C.w.params g (V ++ [(I, .any fun o => o = { cls := .type "range_iterator", dict := none, data := .fields #[rawInt (a + (0 : Nat) * c), rawInt ((n : Int) - (0 : Nat)), rawInt c], slots := #[] })]) h' → Q (.ref I) h') : W C A (pyIter (.ref r)) Q E h := fun k => by
  obtain ⟨t, u, v, e⟩ := R
  refine wpAny_pyIter_range (s := C.sh h k) (H.le _ _ e) hs (po (q _ _ ?_ ?_))
  · intro tx tpos
    refine Ity.of (Walks.range (prog := C.prog) (w := C.w) hh h.objs.size a c n) (fun _ => rfl) (fun i g' h' le H' => ?_) (fun i g' h' st p hp => ?_) (fun i => rfl) (fun i g v hi _ hv => hv)
    · obtain ⟨o, e, rfl⟩ := H'.at (s := .any _) (.head _); exact e
    · cases hp with
      | head => exact ⟨_, st, rfl⟩
      | tail _ hp => cases hp
  · refine (H.own (s := .any _) (o := { cls := .type "range_iterator", data := .fields #[rawInt a, rawInt (Builtin.Range.rangeSize a b c), rawInt c] }) ⟨_, Heap.get?_push_size _ rfl, ?_⟩).perm (List.perm_append_comm (l₁ := [_]))
    rw [hn]; simp

theorem CW_for {body : List Stmt} {R : Result → Heap → Prop} {Q : Flow → Heap → Prop} (T : Ity C A tg it n S Y g0) (I : Nat → Heap → Led → Prop) (mono : ∀ i g g' V, Le g g' → I i g V → I i g' V) (H : Hp C.w.params g (V ++ S 0) h) (le : Le g0 g) (h0 : I 0 g V)
    (step : ∀ i g V h v, Le g0 g → i < n → I i g V → Y i g v → Hp C.w.params g (V ++ S (i + 1)) h → W C A (assign tg en v) (fun _ h2 => W C A (execs body en) (fun f h3 => match f with
      | .next | .cont => ∃ g' V', Le g g' ∧ I (i + 1) g' V' ∧ Hp C.w.params g' (V' ++ S (i + 1)) h3
      | .brk => Q .next h3
      | .ret v => Q (.ret v) h3) (Nf C A en E) h2) (Nf C A en E) h)
    (done : ∀ g V h, Le g0 g → I n g V → Hp C.w.params g V h → Q .next h) :
    ∀ k, codeAny C.M A (.forLoop tg it body [] en) (fun r s' => match r with | .ok f => Po C Q f s' | .error e => cameBackBy C.M A en (Po C E) e s') (C.sh h k) := fun k => by
  refine codeAny_forLoop_any (fun m s' => ∃ i h' k' g' V', s' = C.sh h' k' ∧ i + m = n ∧ Le g0 g' ∧ I i g' V' ∧ Hp C.w.params g' (V' ++ S i) h') (fun m s' => ?_) n ⟨0, h, k, g, V, rfl, by omega, le, h0, H⟩
  rintro ⟨i, h', k', g', V', rfl, hm, le', hI, H'⟩
  by_cases hi : i < n
  · refine wpAny_mono ((T.next (E := Nf C A en E) (E' := Nf C A en E) hi le' H' (Q := fun v h1 => W C A (assign tg en v) (fun _ h2 => W C A (execs body en) (fun f h3 => match f with
      | .next | .cont => ∃ g' V', Le g0 g' ∧ I (i + 1) g' V' ∧ Hp C.w.params g' (V' ++ S (i + 1)) h3
      | .brk => Q .next h3
      | .ret v => Q (.ret v) h3) (Nf C A en E) h2) (Nf C A en E) h1) ?_) k') (fun r s1 z => ?_) fun e s1 z => ?_
    · intro v g2 h2 le2 hy H2
      refine W_mono (step i g2 V' h2 v (le'.trans le2) hi (mono _ _ _ _ le2 hI) hy H2) (fun _ h3 z => ?_) fun _ _ z => z
      · exact W_mono z (fun f h4 z => by cases f <;> first | exact z | (obtain ⟨g5, V5, l5, z⟩ := z; exact ⟨g5, V5, (le'.trans le2).trans l5, z⟩)) fun _ _ z => z
    · obtain ⟨h1, k1, rfl, v, rfl, z⟩ := z
      refine wpAny_mono (z k1) (fun _ s2 z => ?_) (fun e s2 z => ?_)
      · obtain ⟨h2, k2, rfl, z⟩ := z
        refine wpAny_mono (z k2) (fun _ s3 z => ?_) (fun e s3 z => ?_)
        · obtain ⟨h3, k3, rfl, z⟩ := z
          refine wpAny_mono (z k3) (fun f s4 z => ?_) (fun e s4 z => ?_)
          · obtain ⟨h4, k4, rfl, z⟩ := z
            cases f with
            | next => obtain ⟨g5, V5, l5, i5, H5⟩ := z; exact ⟨m - 1, by omega, i + 1, h4, k4, g5, V5, rfl, by omega, l5, i5, H5⟩
            | cont => obtain ⟨g5, V5, l5, i5, H5⟩ := z; exact ⟨m - 1, by omega, i + 1, h4, k4, g5, V5, rfl, by omega, l5, i5, H5⟩
            | brk => exact po z
            | ret v => exact po z
          · obtain ⟨h4, k4, rfl, z⟩ := z; exact nf_of z
        · obtain ⟨h4, k4, rfl, z⟩ := z; exact nf_of z
      · obtain ⟨h4, k4, rfl, z⟩ := z; exact nf_of z
    · obtain ⟨h4, k4, rfl, z⟩ := z; exact nf_of z
  · have : i = n := by omega
    subst this
    refine wpAny_mono ((T.done (E := Nf C A en E) le' H' (Q := fun h1 => Q .next h1) (fun h1 H1 => done g' V' h1 le' hI H1)) k') (fun r s1 z => ?_) fun e s1 z => ?_
    · obtain ⟨h1, k1, rfl, rfl, z⟩ := z
      exact wpAny_pure (po z)
    · obtain ⟨h4, k4, rfl, z⟩ := z; exact nf_of z
end

end
section
set_option linter.all false
section
variable {C : Cfg} {A : Around} {E : Value → Heap → Prop} {g g0 h : Heap} {V : Led} {en cen : Env} {L Cf D : Addr} {ns ns' : List (Str × NameKind)} {xs cxs : List Str} {vs vs' cvs : List (Option Value)} {cl cl' : List (Str × Addr)} {tg iter elt : PySem.Expr} {it : Value} {n : Nat} {S : Nat → Led} {Y : Nat → Heap → Value → Prop} {pos : Pos} {scope : Scope} {ifs : List PySem.Expr}
theorem W_For {body : List Stmt} {Q : Flow → Heap → Prop}
    (x : W C A (eval iter en) (fun xv h1 => W C A (pyIter xv) (fun it h2 => ∀ k, codeAny C.M A (.forLoop tg it body [] en) (fun r s' => match r with | .ok f => Po C Q f s' | .error e => cameBackBy C.M A en (Po C E) e s') (C.sh h2 k)) E h1) E h)
    (hs : ∀ x, foldedSetIterable iter en x = pure x) : W C A (exec (.For tg iter body [] pos) en) Q E h := fun k => by
  refine wpAny_For (wpAny_mono (x k) (fun xv s1 z => ?_) fun _ _ z => z) hs
  obtain ⟨h1, k1, rfl, z⟩ := z
  refine wpAny_mono (z k1) (fun it s2 z => ?_) fun _ _ z => z
  obtain ⟨h2, k2, rfl, z⟩ := z
  exact z k2

theorem W_append {l : Addr} {x : Value} {items : List Value} {V' : Led} {Q : Value → Heap → Prop} (H : Hp C.w.params g V h) (U : Up l (.lst items) (.lst (items ++ [x])) V V') (hz : items.length ≤ 1000)
    (q : ∀ h', Hp C.w.params g V' h' → Q .none h') : W C A (call (.builtin "list.append") [.ref l, x]) Q E h := fun k => by
  have Ls : Lst h l items := H.at U.mem
  obtain ⟨n, e⟩ := Ls
  have hz' : items.toArray.size ≤ sizeLine := by rw [List.size_toArray, sizeLine_eq]; omega
  refine wpAny_call_entry slot_list_append (s := C.sh h k) ⟨_, e, rfl⟩ entry_list_append ?_ (args_list_append _ _)
  show wpAny _ _ (updateSeq l (·.push x) >>= fun _ => ret .none) _ _ (C.sh h k)
  refine wpAny_bind (wpAny_updateSeq e rfl (wpAny_pure ⟨.none, rfl, po (q _ ?_)⟩) hz' (by rw [Array.size_push]; omega))
  refine H.upd U ?_ (upd_other h l _)
  have e2 := Heap.get?_update_self (h := h) (Obj.mapSeq (·.push x)) e rfl
  simp only [Obj.mapSeq, List.push_toArray] at e2
  exact ⟨_, e2⟩

def tests (ifs : List PySem.Expr) (en : Env) : Sem Bool := forIn ifs true fun c r => if r = true then do let ok ← isTrue c en (eval c en); pure (ForInStep.yield ok) else pure (ForInStep.yield r)
theorem W_tests_nil {Q : Bool → Heap → Prop} (q : Q true h) : W C A (tests [] en) Q E h := fun k => by
  unfold tests; rw [List.forIn_nil]; exact wpAny_pure (po q)
theorem W_tests_one {c : PySem.Expr} {Q : Bool → Heap → Prop} (x : W C A (isTrue c en (eval c en)) Q E h) : W C A (tests [c] en) Q E h := fun k => wpAny_tests_one (x k)
abbrev No : Value → Heap → Prop := fun _ _ => False
theorem no_of {p : Prop} {e : Value} {s : Shared} (z : Po C No e s) : p := by obtain ⟨_, _, _, z⟩ := z; exact z.elim
theorem W_no {α : Type} {t : Sem α} {Q : α → Heap → Prop} (x : W C A t Q No h) : W C A t Q E h := W_mono x (fun _ _ z => z) fun _ _ z => z.elim
theorem CW_compL {R : Result → Heap → Prop} (T : Ity C A tg it n S Y g0) (J : Nat → Heap → List Value → Prop) (mono : ∀ i g g' acc, Le g g' → J i g acc → J i g' acc) (hn : n ≤ 1000)
    (H : Hp C.w.params g ((Cf, .frm cxs cvs) :: (D, .lst []) :: (V ++ S 0)) h) (le : Le g0 g) (h0 : J 0 g [])
    (step : ∀ i g acc cvs h v, Le g0 g → i < n → J i g acc → Y i g v → Hp C.w.params g ((Cf, .frm cxs cvs) :: (D, .lst acc) :: (V ++ S (i + 1))) h →
      W C A (assign tg cen v) (fun _ h2 => W C A (tests ifs cen) (fun ok h3 =>
        if ok = true then W C A (eval elt cen) (fun y h4 => ∃ g' cvs', Le g g' ∧ J (i + 1) g' (acc ++ [y]) ∧ Hp C.w.params g' ((Cf, .frm cxs cvs') :: (D, .lst acc) :: (V ++ S (i + 1))) h4) No h3
        else ∃ g' cvs', Le g g' ∧ J (i + 1) g' acc ∧ Hp C.w.params g' ((Cf, .frm cxs cvs') :: (D, .lst acc) :: (V ++ S (i + 1))) h3) No h2) No h)
    (done : ∀ g acc cvs h, Le g0 g → J n g acc → Hp C.w.params g ((Cf, .frm cxs cvs) :: (D, .lst acc) :: V) h → R (.ok .next) h) :
    CW C A (.compLoop (.ListComp elt [⟨tg, iter, ifs, 0⟩] scope pos) 0 it (.ref D) cen) R h := fun k => by
  refine codeAny_loop rfl (fun m s' => ∃ i h' k' g' acc cvs, s' = C.sh h' k' ∧ i + m = n ∧ acc.length ≤ i ∧ Le g0 g' ∧ J i g' acc ∧ Hp C.w.params g' ((Cf, .frm cxs cvs) :: (D, .lst acc) :: (V ++ S i)) h') (fun m s' => ?_) n ⟨0, h, k, g, [], cvs, rfl, by omega, by simp, le, h0, H⟩
  rintro ⟨i, h', k', g', acc, cvs', rfl, hm, ha, le', hI, H'⟩
  show wpAny _ A ((compTurn (.ListComp elt [⟨tg, iter, ifs, 0⟩] scope pos) 0 it (.ref D) cen).onRaise (fun x => do noteFrame x cen; theTreesLotGoes x)) _ _ (C.sh h' k')
  refine wpAny_onRaise ?_
  rw [compTurn_list]
  refine wpAny_bind (wpAny_standAt (wpAny_bind ?_))
  by_cases hi : i < n
  · refine wpAny_mono (T.next (E := No) (E' := No) hi le' (V := (Cf, .frm cxs cvs') :: (D, .lst acc) :: V) H' (Q := fun v h1 => W C A (assign tg cen v) (fun _ h2 => W C A (tests ifs cen) (fun ok h3 =>
        if ok = true then W C A (eval elt cen) (fun y h4 => ∃ g' cvs', Le g0 g' ∧ J (i + 1) g' (acc ++ [y]) ∧ Hp C.w.params g' ((Cf, .frm cxs cvs') :: (D, .lst acc) :: (V ++ S (i + 1))) h4) No h3
        else ∃ g' cvs', Le g0 g' ∧ J (i + 1) g' acc ∧ Hp C.w.params g' ((Cf, .frm cxs cvs') :: (D, .lst acc) :: (V ++ S (i + 1))) h3) No h2) No h1) ?_ k') (fun r s1 z => ?_) fun e s1 z => no_of z
    · intro v g2 h2 le2 hy H2
      refine W_mono (step i g2 acc cvs' h2 v (le'.trans le2) hi (mono _ _ _ _ le2 hI) hy H2) (fun _ h3 z => W_mono z (fun ok h4 z => ?_) fun _ _ z => z) fun _ _ z => z
      split at z
      · rename_i q
        rw [if_pos q]
        exact W_mono z (fun y h5 ⟨g5, c5, l5, z⟩ => ⟨g5, c5, (le'.trans le2).trans l5, z⟩) fun _ _ z => z
      · rename_i q
        rw [if_neg q]
        obtain ⟨g5, c5, l5, z⟩ := z
        exact ⟨g5, c5, (le'.trans le2).trans l5, z⟩
    · obtain ⟨h1, k1, rfl, v, rfl, z⟩ := z
      refine wpAny_bind (wpAny_mono (z k1) (fun _ s2 z => ?_) fun e s2 z => no_of z)
      obtain ⟨h2, k2, rfl, z⟩ := z
      refine wpAny_bind (wpAny_mono (z k2) (fun _ s3 z => ?_) fun e s3 z => no_of z)
      obtain ⟨h3, k3, rfl, z⟩ := z
      refine wpAny_bind (wpAny_mono (z k3) (fun ok s4 z => ?_) fun e s4 z => no_of z)
      obtain ⟨h4, k4, rfl, z⟩ := z
      cases ok with
      | false =>
        obtain ⟨g5, c5, l5, j5, H5⟩ := z
        exact wpAny_pure ⟨rfl, m - 1, by omega, i + 1, h4, k4, g5, acc, c5, rfl, by omega, by omega, l5, j5, H5⟩
      | true =>
        refine wpAny_bind (wpAny_bind (wpAny_mono (z k4) (fun y s5 z => ?_) fun e s5 z => no_of z))
        obtain ⟨h5, k5, rfl, g5, c5, l5, j5, H5⟩ := z
        refine wpAny_bind (wpAny_mono (W_append (C := C) (A := A) (E := No) (x := y) (Q := fun _ h6 => Hp C.w.params g5 ((Cf, .frm cxs c5) :: (D, .lst (acc ++ [y])) :: (V ++ S (i + 1))) h6) H5 (.tail .head) (by omega) (fun h6 H6 => H6) k5) (fun _ s6 z => ?_) fun e s6 z => no_of z)
        obtain ⟨h6, k6, rfl, H6⟩ := z
        exact wpAny_pure (wpAny_pure ⟨rfl, m - 1, by omega, i + 1, h6, k6, g5, acc ++ [y], c5, rfl, by omega, by rw [List.length_append]; simp; omega, l5, j5, H6⟩)
  · have : i = n := by omega
    subst this
    refine wpAny_mono ((T.done (E := No) le' (V := (Cf, .frm cxs cvs') :: (D, .lst acc) :: V) H' (Q := fun h1 => R (.ok .next) h1) (fun h1 H1 => done g' acc cvs' h1 le' hI H1)) k') (fun r s1 z => ?_) fun e s1 z => no_of z
    obtain ⟨h1, k1, rfl, rfl, z⟩ := z
    exact wpAny_pure (po z)
end

end
section
set_option linter.all false
def closL : List (Str × NameKind) → List (Str × Addr) → List (Str × Addr) → Option (List (Str × Addr))
  | [], _, acc => some acc
  | (n, k) :: r, cl, acc => if k == .free then (match cl.lookup n with | some a => closL r cl ((n, a) :: acc) | none => none) else closL r cl acc
theorem clos_loop (en : Env) (f : Str × NameKind → List (Str × Addr) → Sem (ForInStep (List (Str × Addr))))
    (hf : ∀ n k acc, f (n, k) acc = if k == .free then (do let a ← cellOf en n; pure (.yield ((n, a) :: acc))) else pure (.yield acc)) :
    ∀ (names : List (Str × NameKind)) (acc cs : List (Str × Addr)), closL names en.cells acc = some cs → forIn names acc f = (pure cs : Sem (List (Str × Addr)))
  | [], acc, cs, e => by cases e; rw [List.forIn_nil]
  | (n, k) :: r, acc, cs, e => by
    rw [List.forIn_cons, hf]
    unfold closL at e
    by_cases hk : (k == NameKind.free) = true
    · rw [if_pos hk] at e ⊢
      cases hl : en.cells.lookup n with
      | none => rw [hl] at e; cases e
      | some a =>
        rw [hl] at e
        have : cellOf en n = pure a := by unfold cellOf; rw [hl]
        rw [this]
        simp only [pure_bind]
        exact clos_loop en f hf r _ cs e
    · rw [if_neg hk] at e ⊢
      simp only [pure_bind]
      exact clos_loop en f hf r _ cs e
theorem clos_of {en : Env} {scope : Scope} {cs : List (Str × Addr)} (e : closL scope.names en.cells [] = some cs) : closureFor scope en = pure cs := by
  unfold closureFor
  show (forIn scope.names ([] : List (Str × Addr)) _ >>= fun s => pure s) = (pure cs : Sem (List (Str × Addr)))
  rw [clos_loop en _ (fun n k acc => ?_) scope.names [] cs e]
  · rfl
  · cases k <;> simp
def relN (names ns : List (Str × NameKind)) : List (Str × NameKind) := names.map fun (n, k) => if (k == .free && ns.lookup n == some .cell) then (n, .cell) else (n, k)
section
variable {C : Cfg} {A : Around} {E : Value → Heap → Prop} {g g0 h : Heap} {V : Led} {en cen : Env} {L Cf D : Addr} {ns ns' : List (Str × NameKind)} {xs cxs : List Str} {vs vs' cvs : List (Option Value)} {cl cl' : List (Str × Addr)} {tg iter elt : PySem.Expr} {it : Value} {n : Nat} {S : Nat → Led} {Y : Nat → Heap → Value → Prop} {pos : Pos} {scope : Scope} {ifs : List PySem.Expr}
theorem rel_names (F : Fe en L ns xs cl) : (relabel scope en).names = relN scope.names ns := by
  unfold relabel relN
  refine List.map_congr_left fun (n, k) _ => ?_
  have : en.kindOf n = ns.lookup n := by unfold Env.kindOf; rw [F.names]
  simp [this, F.kind]
structure Cx (scope : Scope) (ns ns' : List (Str × NameKind)) (cl cl' : List (Str × Addr)) (cxs : List Str) : Prop where
  rel : relN scope.names ns = ns'
  clo : closL scope.names cl [] = some cl'
  kind : scope.kind = .function
  noc : (scope.names.all fun y => y.2 != .cell && (y.2 != .local || scope.names.lookup y.1 == some .local)) = true
  lcl : (cxs.all fun x => ns'.lookup x == some .local && !(x == ("__debug__" : Str))) = true
  nd : cxs.Nodup

theorem comp_frame {e : PySem.Expr} {R : Addr → Result → Heap → Prop} {acc : Value} (F : Fe en L ns xs cl) (X : Cx scope ns ns' cl cl' cxs) (H : Hp C.w.params g V h)
    (x : ∀ Cf cen h', Fe cen Cf ns' cxs cl' → Hp C.w.params g ((Cf, .frm cxs (cxs.map fun _ => none)) :: V) h' → CW C A (.compStart e 0 it acc cen) (R Cf) h') :
    ∀ k, wpAny C.M A (newFunctionEnv scope en.globals cl' [] en.qual none .none (some en)) (fun cenv s₄ => codeAny C.M A (.compStart e 0 it acc { cenv with scope := relabel scope en }) (Po C (R cenv.locals)) s₄) (Po C E) (C.sh h k) := fun k => by
  have noc := fun y hy => List.all_eq_true.mp X.noc y hy
  refine wpAny_newFunctionEnv (fun y hy q => ?_) (fun y hy => by cases hy) (fun h' hn hs => ?_) X.kind
  · have := noc y hy
    rw [q] at this; cases this
  · have H1 : Hp C.w.params g ((h.objs.size, .frm cxs (cxs.map fun _ => none)) :: V) h' := by
      have H1 := H.own (s := .frm [] []) (o := { cls := .type "dict", data := .dict #[] }) ⟨_, Heap.Ns.new _ _, rfl, fun i x v e _ => by simp at e⟩
      refine H1.upd .head ⟨_, hn, by simp, fun i y v a b => ?_⟩ fun b x hb e => (hs.2 b hb).trans e
      rw [List.getElem?_map, a] at b
      exact Option.some.inj b
    refine x h.objs.size { newEnv scope h.objs.size en.globals cl' en.qual none .none (some en) builtinsNs with scope := relabel scope en } h' ⟨X.kind, (rel_names F).trans X.rel, rfl, F.glob, F.bi, rfl, fun y hy => ?_, X.nd⟩ H1 _
    have := List.all_eq_true.mp X.lcl y hy
    simp only [Bool.and_eq_true, beq_iff_eq, Bool.not_eq_true'] at this
    exact this

theorem CW_compStart {R : Result → Heap → Prop} {rest : List Comprehension} (hs : W C A (pyIter it) (fun v h' => v = it ∧ h' = h) No h)
    (x : CW C A (.compLoop (.ListComp elt (⟨tg, iter, ifs, 0⟩ :: rest) scope pos) 0 it (.ref D) cen) R h) : CW C A (.compStart (.ListComp elt (⟨tg, iter, ifs, 0⟩ :: rest) scope pos) 0 it (.ref D) cen) R h := fun k => by
  refine codeAny_compStart_list (x k) (wpAny_mono (hs k) (fun v s1 z => ?_) fun e s1 z => no_of z)
  obtain ⟨h1, k1, rfl, rfl, rfl⟩ := z
  exact x k1

def Lc (C : Cfg) (A : Around) (tg elt : PySem.Expr) (ifs : List PySem.Expr) (ns' : List (Str × NameKind)) (cxs : List Str) (cl' : List (Str × Addr)) (V : Led) (K : Heap → Addr → List Value → Prop) (it : Value) (h : Heap) : Prop :=
  ∃ n S Y g, ∃ J : Nat → Heap → List Value → Prop, Ity C A tg it n S Y g ∧ n ≤ 1000 ∧ Hp C.w.params g (V ++ S 0) h ∧ J 0 g [] ∧ (∀ i g g' acc, Le g g' → J i g acc → J i g' acc) ∧
    (∀ i g' acc Cf D cen cvs v h3, Le g g' → i < n → J i g' acc → Y i g' v → Fe cen Cf ns' cxs cl' → Hp C.w.params g' ((Cf, .frm cxs cvs) :: (D, .lst acc) :: (V ++ S (i + 1))) h3 →
      W C A (assign tg cen v) (fun _ h2 => W C A (tests ifs cen) (fun ok h3 =>
        if ok = true then W C A (eval elt cen) (fun y h4 => ∃ g'' cvs', Le g' g'' ∧ J (i + 1) g'' (acc ++ [y]) ∧ Hp C.w.params g'' ((Cf, .frm cxs cvs') :: (D, .lst acc) :: (V ++ S (i + 1))) h4) No h3
        else ∃ g'' cvs', Le g' g'' ∧ J (i + 1) g'' acc ∧ Hp C.w.params g'' ((Cf, .frm cxs cvs') :: (D, .lst acc) :: (V ++ S (i + 1))) h3) No h2) No h3) ∧
    (∀ g' D acc, Le g g' → J n g' acc → K g' D acc)

theorem W_newList {items : List Value} {Q : Value → Heap → Prop} (H : Hp C.w.params g V h) (hz : items.length ≤ 1000) (q : ∀ a h', Hp C.w.params g ((a, .lst items) :: V) h' → Q (.ref a) h') : W C A (newList items) Q E h := fun k =>
  wpAny_newList (po (q _ _ (H.own (s := .lst items) ⟨0, Heap.get?_push_size _ rfl⟩))) (by rw [sizeLine_eq]; omega)

theorem Hp.drop_ns {P : Params} {a : Addr} {s : Sp} {h' : Heap} (H : Hp P g ((a, s) :: V) h) (hs : Heap.SameBut a h h') : Hp P g V h' := by
  refine ⟨fun b x e => ?_, fun p hp => (H.drop.sat p hp).of_get fun o e => ?_, H.drop.out, H.drop.nd⟩
  · have := H.out _ (.head _)
    have hb : b ≠ a := fun q => by subst q; rw [this] at e; cases e
    exact (hs.2 b hb).trans (H.le b x e)
  · have n := H.nd
    rw [List.map_cons, List.nodup_cons] at n
    exact (hs.2 _ fun q => n.1 (by rw [← q]; exact List.mem_map_of_mem (f := (·.1)) hp)).trans e

theorem W_ListComp {Q : Value → Heap → Prop} (F : Fe en L ns xs cl) (X : Cx scope ns ns' cl cl' cxs)
    (x : W C A (eval iter en) (fun xv h1 => W C A (pyIter xv) (fun it h2 => ∃ V, Lc C A tg elt ifs ns' cxs cl' V (fun g' D acc => ∀ h', Hp C.w.params g' ((D, .lst acc) :: V) h' → Q (.ref D) h') it h2) E h1) E h)
    (hs : ∀ x, foldedSetIterable iter en x = pure x) : W C A (eval (.ListComp elt [⟨tg, iter, ifs, 0⟩] scope pos) en) Q E h := fun k => by
  rw [eval_ListComp]
  have noc := fun y hy => List.all_eq_true.mp X.noc y hy
  refine wpAny_comprehension_free (use := none) rfl hs (clos_of (by rw [F.cells]; exact X.clo)) X.kind (fun y hy hl => ?_) (wpAny_mono (x k) (fun xv s1 z => ?_) fun _ _ z => z)
  · have := noc y hy
    rw [hl] at this
    simpa using this
  obtain ⟨h1, k1, rfl, z⟩ := z
  refine wpAny_mono (z k1) (fun it s2 z => ?_) fun _ _ z => z
  obtain ⟨h2, k2, rfl, V, n, S, Y, g, J, T, hn, H, h0, mono, step, done⟩ := z
  refine wpAny_mono (W_newList (C := C) (A := A) (E := E) (Q := fun a h' => ∃ D, a = .ref D ∧ Hp C.w.params g ((D, .lst []) :: (V ++ S 0)) h') H (by simp) (fun a h' H' => ⟨a, rfl, H'⟩) k2) (fun acc s3 z => ?_) fun _ _ z => z
  obtain ⟨h3, k3, rfl, D, rfl, H3⟩ := z
  have z := (comp_frame (e := .ListComp elt [⟨tg, iter, ifs, 0⟩] scope pos) (it := it) (acc := .ref D) (C := C) (A := A) (E := E) (R := fun Cf r h' => r = .ok .next ∧ ∃ g' acc cvs, Le g g' ∧ J n g' acc ∧ Hp C.w.params g' ((Cf, .frm cxs cvs) :: (D, .lst acc) :: V) h') F X H3 (fun Cf cen h4 Fc H4 => by
    refine CW_compStart (fun k' => ?_) ?_
    · exact T.self (V := (Cf, .frm cxs _) :: (D, .lst []) :: V) (Le.refl g) H4 ⟨rfl, rfl⟩ k'
    · refine CW_compL T J mono hn H4 (Le.refl g) h0 (fun i g' acc cvs h5 v le hi hj hy H5 => step i g' acc Cf D cen cvs v h5 le hi hj hy Fc H5) (fun g' acc cvs h5 le hj H5 => ⟨rfl, g', acc, cvs, le, hj, H5⟩))) k3
  refine wpAny_mono z (fun cenv s4 z => ?_) fun _ _ z => z
  · refine codeAny_mono z fun r s5 z => ?_
    obtain ⟨h5, k5, rfl, rfl, g', acc, cvs, le, hj, H5⟩ := z
    obtain ⟨m, hm, _⟩ := H5.at (s := .frm _ _) (.head _)
    exact ⟨m, hm, fun h6 hs6 => po (done g' D acc le hj h6 (H5.drop_ns hs6))⟩


theorem W_AssignLC {y : Str} {py spos : Pos} {Q : Flow → Heap → Prop} (F : Fe en L ns xs cl) (X : Cx scope ns ns' cl cl' cxs)
    (hsw : swapsWith (.ListComp elt [⟨tg, iter, ifs, 0⟩] scope pos) (some (.Name y py)) spos.line en = pure true)
    (x : W C A (eval iter en) (fun xv h1 => W C A (pyIter xv) (fun it h2 => ∃ V vs, Lc C A tg elt ifs ns' cxs cl' ((L, .frm xs vs) :: V) (fun g' D acc => ∃ vs', St xs vs y (.ref D) vs' ∧ ∀ h', Hp C.w.params g' ((L, .frm xs vs') :: (D, .lst acc) :: V) h' → Q .next h') it h2) E h1) E h)
    (hs : ∀ x, foldedSetIterable iter en x = pure x) : W C A (exec (.Assign [.Name y py] (.ListComp elt [⟨tg, iter, ifs, 0⟩] scope pos) spos) en) Q E h := fun k => by
  rw [exec_Assign_Name_used _ _ _ _ hsw]
  refine wpAny_bind (wpAny_standAt (wpAny_bind ?_))
  show wpAny _ A (do let _ ← comprehension (.ListComp elt [⟨tg, iter, ifs, 0⟩] scope pos) scope en _ (newList []) false (eval iter en) (some (assign (.Name y py) en))) _ _ (C.sh h k)
  refine wpAny_bind (wpAny_mono (Q := fun _ => Po C Q .next) ?_ (fun _ s' hq => wpAny_pure (wpAny_pure hq)) fun _ _ e => e)
  have noc := fun y hy => List.all_eq_true.mp X.noc y hy
  refine wpAny_comprehension_free (use := some (assign (.Name y py) en)) (Q := fun _ s' => Po C Q .next s') rfl hs (clos_of (by rw [F.cells]; exact X.clo)) X.kind (fun y hy hl => ?_) (wpAny_mono (x k) (fun xv s1 z => ?_) fun _ _ z => z)
  · have := noc y hy
    rw [hl] at this
    simpa using this
  obtain ⟨h1, k1, rfl, z⟩ := z
  refine wpAny_mono (z k1) (fun it s2 z => ?_) fun _ _ z => z
  obtain ⟨h2, k2, rfl, V, vs, n, S, Y, g, J, T, hn, H, h0, mono, step, done⟩ := z
  refine wpAny_mono (W_newList (C := C) (A := A) (E := E) (Q := fun a h' => ∃ D, a = .ref D ∧ Hp C.w.params g ((D, .lst []) :: (((L, .frm xs vs) :: V) ++ S 0)) h') H (by simp) (fun a h' H' => ⟨a, rfl, H'⟩) k2) (fun acc s3 z => ?_) fun _ _ z => z
  obtain ⟨h3, k3, rfl, D, rfl, H3⟩ := z
  have z := (comp_frame (e := .ListComp elt [⟨tg, iter, ifs, 0⟩] scope pos) (it := it) (acc := .ref D) (C := C) (A := A) (E := E) (R := fun Cf r h' => r = .ok .next ∧ ∃ g' acc cvs, Le g g' ∧ J n g' acc ∧ Hp C.w.params g' ((Cf, .frm cxs cvs) :: (D, .lst acc) :: (L, .frm xs vs) :: V) h') F X H3 (fun Cf cen h4 Fc H4 => by
    refine CW_compStart (fun k' => ?_) ?_
    · exact T.self (V := (Cf, .frm cxs _) :: (D, .lst []) :: (L, .frm xs vs) :: V) (Le.refl g) H4 ⟨rfl, rfl⟩ k'
    · refine CW_compL T J mono hn H4 (Le.refl g) h0 (fun i g' acc cvs h5 v le hi hj hy H5 => step i g' acc Cf D cen cvs v h5 le hi hj hy Fc H5) (fun g' acc cvs h5 le hj H5 => ⟨rfl, g', acc, cvs, le, hj, H5⟩))) k3
  refine wpAny_mono z (fun cenv s4 z => ?_) fun _ _ z => z
  · refine codeAny_mono z fun r s5 z => ?_
    obtain ⟨h5, k5, rfl, rfl, g', acc, cvs, le, hj, H5⟩ := z
    obtain ⟨vs', hst, q⟩ := done g' D acc le hj
    show wpAny _ A (assign (.Name y py) en (.ref D)) _ _ _
    have H6 : Hp C.w.params g' ((L, .frm xs vs) :: (cenv.locals, .frm cxs cvs) :: (D, .lst acc) :: V) h5 := H5.perm ((List.Perm.swap _ _ _).cons _ |>.trans (.swap _ _ _))
    have z : W C A (assign (.Name y py) en (.ref D)) (fun _ h' => Hp C.w.params g' ((L, .frm xs vs') :: (cenv.locals, .frm cxs cvs) :: (D, .lst acc) :: V) h') E h5 := W_as_Name (W_bindL F H6 hst (fun h' H' => H'))
    refine wpAny_mono (z k5) (fun _ s6 z => ?_) fun _ _ z => z
    obtain ⟨h6, k6, rfl, H7⟩ := z
    have H8 := H7.swap
    obtain ⟨m, hm, _⟩ := H8.at (s := .frm _ _) (.head _)
    exact ⟨m, hm, fun h9 hs9 => po (q h9 (H8.drop_ns hs9))⟩
end

end
section
set_option linter.all false
section
variable {C : Cfg} {A : Around} {E : Value → Heap → Prop} {g g0 h h' : Heap} {V V' : Led} {d : Addr} {ks ks' : List Str} {vs vs' : List Value} {x : Str} {v : Value} {t : Tok}
theorem pairs_of {pr : Program} {w : World} {es : List DictEntry} (e : Ents w.params ks vs es) : Pairs (strKind pr w) es (ks.zip vs) ∧ KeysOf (strKind pr w) es.toArray := by
  induction e with
  | nil => exact ⟨.nil, fun e he => by simp at he⟩
  | @cons k t v ks vs es e ih =>
    refine ⟨.cons (by simp [PySem.strKind, Value.isStrOf]) rfl ih.1, fun e he => ?_⟩
    rw [List.mem_toArray] at he
    cases he with
    | head => exact ⟨k, by simp [PySem.strKind, Value.isStrOf], rfl⟩
    | tail _ he => exact ih.2 e (by rw [List.mem_toArray]; exact he)
theorem of_pairs {pr : Program} {w : World} : ∀ {es : List DictEntry} {kvs : List (Str × Value)}, Pairs (strKind pr w) es kvs → KeysOf (strKind pr w) es.toArray → Ents w.params (kvs.map (·.1)) (kvs.map (·.2)) es
  | _, _, .nil, _ => .nil
  | _ :: es, (k, v) :: kvs, .cons (e := ⟨hsh, key, val⟩) h1 h2 r, hk => by
    obtain ⟨k', hk1, hk2⟩ := hk ⟨hsh, key, val⟩ (by simp)
    obtain ⟨t, rfl⟩ := Value.isStrOf_shape h1
    obtain ⟨t', e⟩ := Value.isStrOf_shape (x := k') (v := Value.str k t) hk1
    have e : Value.str (k, v).1 t = .str k' t' := e
    cases e
    cases h2; cases hk2
    exact .cons (of_pairs r fun e he => hk e (by rw [List.mem_toArray] at he ⊢; exact .tail _ he))
theorem zip_keys : ∀ {ks : List Str} {vs : List Value}, vs.length = ks.length → (ks.zip vs).map (·.1) = ks ∧ (ks.zip vs).map (·.2) = vs
  | [], [], _ => ⟨rfl, rfl⟩
  | k :: ks, v :: vs, e => by
    have := zip_keys (ks := ks) (vs := vs) (by simpa using e)
    simp [this.1, this.2]
theorem Sd.dictAt (s : Sd C.w.params h d ks vs) (nd : ks.Nodup) : ∃ ep, h.DictAt (strKind C.prog C.w) d (ks.zip vs) ep := by
  obtain ⟨es, n, e, r, _⟩ := s
  exact ⟨n, _, _, e, ⟨rfl, rfl, rfl⟩, rfl, (pairs_of r).2, by simpa using (pairs_of r).1, by rw [(zip_keys r.len.2).1]; exact nd⟩
theorem Sd.dictOf (s : Sd C.w.params h d ks vs) (nd : ks.Nodup) : h.DictOf (strKind C.prog C.w) d (ks.zip vs) := let ⟨_, e⟩ := s.dictAt nd; e.dictOf
theorem sd_of {kvs : List (Str × Value)} (s : h.DictOf (strKind C.prog C.w) d kvs) (n : (d == sysModules) = false) : Sd C.w.params h d (kvs.map (·.1)) (kvs.map (·.2)) := by
  obtain ⟨o, es, ep, e, ⟨hc, hd, hs⟩, hdat, hk, hp, _⟩ := s
  obtain ⟨c, dd, dt, sl⟩ := o
  simp only at hc hd hs hdat
  subst hc hd hs hdat
  refine ⟨es.toList, ep, by simpa [dictOf] using e, of_pairs hp (by simpa using hk), n⟩
theorem Sd.len (s : Sd C.w.params h d ks vs) : vs.length = ks.length := let ⟨_, _, _, r, _⟩ := s; r.len.2
theorem Sd.ne (s : Sd C.w.params h d ks vs) : (d == sysModules) = false := let ⟨_, _, _, _, n⟩ := s; n
theorem valueAt_kk (nd : ks.Nodup) (k : Kk ks vs x v) : valueAt (ks.zip vs) x = some v := by
  induction k with
  | head => simp [valueAt]
  | @tail y xs o vs x v k ih =>
    obtain ⟨n1, n2⟩ := List.nodup_cons.mp nd
    have : ¬ y = x := fun q => n1 (q ▸ k.mem)
    have := ih n2
    simpa [valueAt, List.find?_cons, *] using this
theorem valueAt_has (e : vs.length = ks.length) : (valueAt (ks.zip vs) x).isSome = decide (x ∈ ks) := by
  induction ks generalizing vs with
  | nil => simp [valueAt]
  | cons k ks ih =>
    cases vs with
    | nil => simp at e
    | cons v vs =>
      have := ih (vs := vs) (by simpa using e)
      by_cases q : k = x
      · simp [valueAt, q]
      · simp only [valueAt, List.zip_cons_cons, List.find?_cons, q, decide_false, Option.isSome_map, List.mem_cons, Ne.symm q, false_or] at this ⊢
        exact this
theorem stored_pu (e : vs.length = ks.length) (p : Pu x v ks vs ks' vs') : (stored (ks.zip vs) x v).map (·.1) = ks' ∧ (stored (ks.zip vs) x v).map (·.2) = vs' := by
  cases p with
  | new k =>
    have : ((ks.zip vs).any fun kv => decide (kv.1 = x)) = false := by
      rw [List.any_eq_false]
      intro kv hkv
      have : kv.1 ∈ ks := by
        have := List.mem_map_of_mem (f := (·.1)) hkv
        rwa [(zip_keys e).1] at this
      simp only [decide_eq_true_eq]
      exact fun q => k (q ▸ this)
    unfold stored
    rw [this]
    simp [(zip_keys e).1, (zip_keys e).2]
  | old nd k =>
    have : ((ks.zip vs).any fun kv => decide (kv.1 = x)) = true := by
      rw [List.any_eq_true]
      have h1 := k.mem
      rw [← (zip_keys e).1] at h1
      obtain ⟨kv, hkv, q⟩ := List.mem_map.mp h1
      exact ⟨kv, hkv, by simpa using q⟩
    unfold stored
    rw [if_pos this]
    clear this
    refine ⟨?_, ?_⟩
    · rw [List.map_map]
      refine Eq.trans ?_ (zip_keys e).1
      refine List.map_congr_left fun kv _ => ?_
      simp only [Function.comp]
      split <;> rfl
    · rw [List.map_map]
      induction k with
      | @head x xs v o vs =>
        obtain ⟨n1, n2⟩ := List.nodup_cons.mp nd
        simp only [List.zip_cons_cons, List.map_cons, Function.comp, if_pos rfl]
        congr 1
        refine Eq.trans (List.map_congr_left (g := (·.2)) fun kv hkv => ?_) (zip_keys (by simpa using e)).2
        have : kv.1 ∈ xs := by
          have := List.mem_map_of_mem (f := (·.1)) hkv
          rwa [(zip_keys (by simpa using e)).1] at this
        have hn : ¬ kv.1 = x := fun q => n1 (by rw [← q]; exact this)
        simp only [Function.comp, if_neg hn]
      | @tail y xs o vs x v vs' k ih =>
        obtain ⟨n1, n2⟩ := List.nodup_cons.mp nd
        simp only [List.zip_cons_cons, List.map_cons, Function.comp]
        have hn : ¬ y = x := fun q => n1 (by rw [q]; exact k.mem)
        rw [if_neg hn]
        congr 1
        exact ih (by simpa using e) n2
theorem W_in_sd {Q : Value → Heap → Prop} (s : Sd C.w.params h d ks vs) (nd : ks.Nodup) (q : Q (.bool (decide (x ∈ ks))) h) : W C A (compareOp .In (.str x t) (.ref d)) Q E h := fun k => by
  rw [← valueAt_has s.len] at q
  exact wpAny_in_of (s := C.sh h k) (strKind_is C.prog C.w x t) s.ne (s.dictOf nd).mapOf (po q)
theorem W_notIn_sd {Q : Value → Heap → Prop} (s : Sd C.w.params h d ks vs) (nd : ks.Nodup) (q : Q (.bool (!decide (x ∈ ks))) h) : W C A (compareOp .NotIn (.str x t) (.ref d)) Q E h := fun k => by
  rw [← valueAt_has s.len] at q
  exact wpAny_notIn_of (s := C.sh h k) (strKind_is C.prog C.w x t) s.ne (s.dictOf nd).mapOf (po q)
theorem W_getItem_sd {Q : Value → Heap → Prop} (s : Sd C.w.params h d ks vs) (nd : ks.Nodup) (kk : Kk ks vs x v) (q : Q v h) : W C A (getItem (.ref d) (.str x t)) Q E h := fun k =>
  wpAny_getItem_of (s := C.sh h k) (strKind_is C.prog C.w x t) (s.dictOf nd).mapOf (valueAt_kk nd kk) (po q)
theorem W_sub_sd {ve se : PySem.Expr} {Q : Value → Heap → Prop} (s : Sd C.w.params h d ks vs) (nd : ks.Nodup) (kk : Kk ks vs x v) (q : Q v h) : W C A (subscriptTail ve se (.ref d) (.str x t)) Q E h :=
  W_tail (fun k => (s.dictOf (C := C) nd).typeIs (s := C.sh h k)) slot_dict_getitem.lookup (W_getItem_sd s nd kk q)
theorem Hp.sd (H : Hp C.w.params g V h) (m : (d, .sd ks vs) ∈ V) : Sd C.w.params h d ks vs := H.at m
theorem W_setItem_sd {Q : Unit → Heap → Prop} (H : Hp C.w.params g V h) (nd : ks.Nodup) (U : Up d (.sd ks vs) (.sd ks' vs') V V') (p : Pu x v ks vs ks' vs') (hz : ks.length ≤ 1000)
    (q : ∀ h', Hp C.w.params g V' h' → Q () h') : W C A (setItem (.ref d) (.str x t) v) Q E h := fun k => by
  have s : Sd C.w.params h d ks vs := H.at U.mem
  refine wpAny_setItem_pairs (s := C.sh h k) (strKind_is C.prog C.w x t) (s.dictOf nd) (fun h' hm hs => po (q h' (H.upd U ?_ fun b o hb e => (hs.2 b hb).trans e))) (by rw [List.length_zip, sizeLine_eq]; omega)
  have s' := sd_of (C := C) hm s.ne
  rw [(stored_pu s.len p).1, (stored_pu s.len p).2] at s'
  exact s'
theorem W_dictSet_sd {Q : Unit → Heap → Prop} (H : Hp C.w.params g V h) (nd : ks.Nodup) (U : Up d (.sd ks vs) (.sd ks' vs') V V') (p : Pu x v ks vs ks' vs') (hz : ks.length ≤ 1000)
    (q : ∀ h', Hp C.w.params g V' h' → Q () h') : W C A (dictSet d (.str x t) v) Q E h := fun k => by
  have s : Sd C.w.params h d ks vs := H.at U.mem
  refine wpAny_dictSet_pairs (s := C.sh h k) (strKind_is C.prog C.w x t) (s.dictOf nd) (fun h' hm hs => po (q h' (H.upd U ?_ fun b o hb e => (hs.2 b hb).trans e))) (by rw [List.length_zip, sizeLine_eq]; omega)
  have s' := sd_of (C := C) hm s.ne
  rw [(stored_pu s.len p).1, (stored_pu s.len p).2] at s'
  exact s'
theorem W_getB {a : Addr} {T : String} {name : Str} {id : String} {o : Obj} {pl : Sem Bool} {Q : Value × List Value → Heap → Prop} (ho : h.get? a = some o) (hc : o.cls = .type T) (hdi : o.dict = none) (pa : PlainAttrs T) (slot : Slot T name id) (hty : typeOf (.builtin id) = pure (.type "method_descriptor"))
    (q : Q (.builtin id, [.ref a]) h) : W C A (getMethod (.ref a) name pl) Q E h := fun k =>
  getMethod_builtin (s := C.sh h k) ⟨o, ho, hc⟩ pa slot hty (fun b e => by cases e; exact ⟨o, ho, hdi⟩) (po q)
theorem W_get_items {pl : Sem Bool} {Q : Value × List Value → Heap → Prop} (s : Sd C.w.params h d ks vs) (q : Q (.builtin "dict.items", [.ref d]) h) : W C A (getMethod (.ref d) "items" pl) Q E h :=
  let ⟨_, _, e, _⟩ := s; W_getB e rfl rfl F.plainAttrs_dict F.slot_dict_items F.type_dict_items q
theorem W_get_update {pl : Sem Bool} {Q : Value × List Value → Heap → Prop} (s : Sd C.w.params h d ks vs) (q : Q (.builtin "dict.update", [.ref d]) h) : W C A (getMethod (.ref d) "update" pl) Q E h :=
  let ⟨_, _, e, _⟩ := s; W_getB e rfl rfl F.plainAttrs_dict F.slot_dict_update F.type_dict_update q
theorem W_get_append {l : Addr} {pl : Sem Bool} {Q : Value × List Value → Heap → Prop} (s : Lst h l vs) (q : Q (.builtin "list.append", [.ref l]) h) : W C A (getMethod (.ref l) "append" pl) Q E h :=
  let ⟨_, e⟩ := s; W_getB e rfl rfl F.plainAttrs_list slot_list_append type_list_append q
theorem W_get_extend {l : Addr} {pl : Sem Bool} {Q : Value × List Value → Heap → Prop} (s : Lst h l vs) (q : Q (.builtin "list.extend", [.ref l]) h) : W C A (getMethod (.ref l) "extend" pl) Q E h :=
  let ⟨_, e⟩ := s; W_getB e rfl rfl F.plainAttrs_list F.slot_list_extend F.type_list_extend q
def Vw (g : Heap) (v d : Addr) : Prop := g.IsItemsView v d
theorem W_items {Q : Value → Heap → Prop} (H : Hp C.w.params g V h) (s : Sd C.w.params h d ks vs) (nd : ks.Nodup) (q : ∀ a g' h', Le g g' → Vw g' a d → Hp C.w.params g' V h' → Q (.ref a) h') : W C A (call (.builtin "dict.items") [.ref d]) Q E h := fun k => by
  refine call_meetsIn (s := C.sh h k) F.slot_dict_items (s.dictOf (C := C) nd).typeIs F.entry_dict_items (F.args_dict_items_1 _) (meets_dict_items (strKind C.prog C.w) d s.ne) ⟨⟨_, s.dictOf nd⟩, ?_⟩
  obtain ⟨g', l, e, H'⟩ := H.keep (o := { cls := .type "dict_items", data := .fields #[.ref d] }) rfl
  exact po (q _ _ _ l ⟨_, e, rfl, rfl⟩ H')
end
section
variable {pr : Program} {w : World} {A : Around}
theorem entry_itemiter_iter : entryFor table "dict_itemiterator.__iter__" = some Builtin.«dict_keyiterator.__iter__» :=
  entryFor_alias (id' := "dict_keyiterator.__iter__") (by kernel_rfl) (by first | rfl | decide +kernel | (unfold String.splitOn; simp +decide [String.splitOnAux])) (by decide +kernel) (by kernel_rfl)
theorem items_walks (hh : A.handled = none) (it d : Addr) (hne : d ≠ it) (kvs : List (Str × Value)) (ep : Nat) :
    WalksT pr w A it [it, d] [it] kvs.length (fun i vals => ∃ k t v, kvs[i]? = some (k, v) ∧ vals = #[.str k t, v])
      (fun i h => (∃ ok ov, IsItemIter h it d i kvs.length ep ok ov) ∧ h.DictAt (strKind pr w) d kvs ep)
      (fun i T h => (∃ ok ov, IsItemIterOut h it d (i + 1) kvs.length ep ok ov T) ∧ h.DictAt (strKind pr w) d kvs ep ∧ T ≠ it) where
  sub := fun b hb => by simp at hb; simp [hb]
  frame := fun i h h' ⟨⟨ok, ov, x⟩, y⟩ hk => ⟨⟨ok, ov, hk it (by simp) _ x⟩, let ⟨o, es, e, r⟩ := y; ⟨o, es, hk d (by simp) _ e, r⟩⟩
  item := fun i s Q E hi ⟨⟨ok, ov, x⟩, y⟩ hQ => by
    obtain ⟨⟨k, v⟩, hx⟩ : ∃ kv, kvs[i]? = some kv := ⟨_, List.getElem?_eq_getElem hi⟩
    refine wpAny_pyNext_items_item x y hx fun key h' hkey he ht hz hk => ?_
    obtain ⟨t, rfl⟩ := Value.isStrOf_shape hkey
    refine hQ _ #[.str k t, v] h' s.toks ⟨k, t, v, hx, rfl⟩ (Nat.le_refl _) ⟨_, ht, rfl, _, rfl⟩ ⟨⟨_, _, he⟩, ?_, ?_⟩ fun b o hb e => hk b o (fun q => hb (by simp [q])) e
    · obtain ⟨o, es, e, r⟩ := y
      exact ⟨o, es, hk d o hne e, r⟩
    · exact Nat.ne_of_gt (Heap.lt_size x)
  go := fun elts k pos i T s Q E ⟨⟨ok, ov, x⟩, y, hT⟩ hQ => by
    refine wpAny_letOwnedTupleGo_items x fun h' he hs => hQ h' ⟨⟨_, _, he⟩, ?_⟩ fun b o hb e => (hs.2 b fun q => hb (by simp [q])).trans e
    obtain ⟨o, es, e, r⟩ := y
    exact ⟨o, es, (hs.2 d hne).trans e, r⟩
  apart := fun i T h ⟨_, _, hT⟩ m => hT (by simpa using m)
  done := fun s Q E ⟨⟨ok, ov, x⟩, y⟩ hQ => wpAny_pyNext_items_end hh x y (by simp) fun h' he => hQ h' s.toks fun b o hb e => he b o (fun q => hb (by simp [q])) e
  self := fun i s Q E ⟨⟨ok, ov, x⟩, _⟩ hQ => by
    have hT : s.TypeIs (.ref it) "dict_itemiterator" := ⟨_, x, rfl⟩
    refine wpAny_pyIter_slot hT F.slot_dict_itemiterator_iter (wpAny_call_entry F.slot_dict_itemiterator_iter hT entry_itemiter_iter ?_ (F.args_dict_itemiterator_iter_1 _))
    show wpAny _ _ (ret (.ref it)) _ _ s
    exact wpAny_pure ⟨_, rfl, "dict_itemiterator", _, hT, F.slot_dict_itemiterator_next.lookup, hQ⟩
end
section
variable {C : Cfg} {A : Around} {E : Value → Heap → Prop} {g h : Heap} {V : Led} {d : Addr} {ks : List Str} {vs : List Value}
def itS (I d : Addr) (n ep : Nat) (i : Nat) : Led := [(I, .any fun o => ∃ ok ov, o = { cls := .type "dict_itemiterator", dict := none, data := .fields #[.none, .bool false, .ref d, .int i 0, .int n 0, .int ep 0, ok, ov], slots := #[] })]
theorem W_iter_items {va : Addr} {elts : List PySem.Expr} {x1 : Nat} {tp : Pos} {Q : Value → Heap → Prop} (hh : A.handled = none) (s : Sd C.w.params g d ks vs) (nd : ks.Nodup) (vw : Vw g va d) (H : Hp C.w.params g V h)
    (q : ∀ I ep h', Ity C A (.Tuple elts x1 tp) (.ref I) ks.length (itS I d ks.length ep) (fun i g' v => ∃ a k t x, v = .ref a ∧ ks[i]? = some k ∧ vs[i]? = some x ∧ IsTup g' a #[.str k t, x]) g → Hp C.w.params g (V ++ itS I d ks.length ep 0) h' → Q (.ref I) h') :
    W C A (pyIter (.ref va)) Q E h := fun k => by
  have sl := s.len (C := C)
  have zl : (ks.zip vs).length = ks.length := by rw [List.length_zip, sl, Nat.min_self]
  obtain ⟨ep, da⟩ := s.dictAt (C := C) nd
  have vw' : h.IsItemsView va d := let ⟨o, e, r⟩ := vw; ⟨o, H.le _ _ e, r⟩
  refine wpAny_pyIter_items (s := C.sh h k) vw' (da.keep H.le) (po (q _ ep _ ?_ ?_))
  · have hf := H.fresh.1
    have hne : d ≠ h.objs.size := fun e => by obtain ⟨_, _, x, _⟩ := s; rw [e, hf] at x; cases x
    have T := items_walks (pr := C.prog) (w := C.w) (A := A) hh h.objs.size d hne (ks.zip vs) ep
    rw [zl] at T
    refine Ity.ofT T (fun i g' h' le H' => ⟨?_, da.keep fun b o e => H'.le _ _ (le _ _ e)⟩) (fun i g' h' st p hp => ?_) (fun i => rfl) (fun i g' a vals hi le hp ht => ?_)
    · obtain ⟨o, e, ok, ov, rfl⟩ := H'.at (s := .any _) (.head _)
      exact ⟨ok, ov, e⟩
    · obtain ⟨⟨ok, ov, e⟩, _⟩ := st
      cases hp with
      | head => exact ⟨_, e, ok, ov, rfl⟩
      | tail _ hp => cases hp
    · obtain ⟨k, t, v, hx, rfl⟩ := hp
      have h1 : ((ks.zip vs).map (·.1))[i]? = some k := by rw [List.getElem?_map, hx]; rfl
      have h2 : ((ks.zip vs).map (·.2))[i]? = some v := by rw [List.getElem?_map, hx]; rfl
      rw [(zip_keys sl).1] at h1
      rw [(zip_keys sl).2] at h2
      exact ⟨a, k, t, v, rfl, h1, h2, ht⟩
  · have e : (C.sh h k).heap = h := rfl
    rw [zl]
    exact (H.own (s := .any _) (o := { cls := .type "dict_itemiterator", data := .fields #[.none, .bool false, .ref d, .int 0 0, .int ks.length 0, .int ep 0, .none, .none] }) ⟨_, Heap.get?_push_size _ rfl, .none, .none, rfl⟩).perm (List.perm_append_comm (l₁ := [_]))
end

end
section
set_option linter.all false
theorem Pu.nodup {x : Str} {v : Value} {ks ks' : List Str} {vs vs' : List Value} (p : Pu x v ks vs ks' vs') (nd : ks.Nodup) : ks'.Nodup := by
  cases p with
  | new k => exact List.nodup_append.mpr ⟨nd, by simp, fun a ha b hb q => k (by simp at hb; rw [← hb, ← q]; exact ha)⟩
  | old _ _ => exact nd
section
variable {C : Cfg} {A : Around} {E : Value → Heap → Prop} {g g0 h : Heap} {V : Led} {en cen : Env} {L Cf D : Addr} {ns ns' : List (Str × NameKind)} {xs cxs : List Str} {vs vs' cvs : List (Option Value)} {cl cl' : List (Str × Addr)} {tg iter kx elt : PySem.Expr} {it : Value} {n : Nat} {S : Nat → Led} {Y : Nat → Heap → Value → Prop} {pos : Pos} {scope : Scope} {ifs : List PySem.Expr}
theorem CW_compD {R : Result → Heap → Prop} (T : Ity C A tg it n S Y g0) (J : Nat → Heap → List Str → List Value → Prop) (mono : ∀ i g g' ks ys, Le g g' → J i g ks ys → J i g' ks ys) (hn : n ≤ 1000)
    (H : Hp C.w.params g ((Cf, .frm cxs cvs) :: (D, .sd [] []) :: (V ++ S 0)) h) (le : Le g0 g) (h0 : J 0 g [] [])
    (step : ∀ i g ks ys cvs h v, Le g0 g → i < n → J i g ks ys → Y i g v → Hp C.w.params g ((Cf, .frm cxs cvs) :: (D, .sd ks ys) :: (V ++ S (i + 1))) h →
      W C A (assign tg cen v) (fun _ h2 => W C A (tests ifs cen) (fun ok h3 =>
        if ok = true then W C A (eval kx cen) (fun kv h4 => W C A (eval elt cen) (fun y h5 => ∃ k t ks' ys' g' cvs', kv = .str k t ∧ Pu k y ks ys ks' ys' ∧ Le g g' ∧ J (i + 1) g' ks' ys' ∧ Hp C.w.params g' ((Cf, .frm cxs cvs') :: (D, .sd ks ys) :: (V ++ S (i + 1))) h5) No h4) No h3
        else ∃ g' cvs', Le g g' ∧ J (i + 1) g' ks ys ∧ Hp C.w.params g' ((Cf, .frm cxs cvs') :: (D, .sd ks ys) :: (V ++ S (i + 1))) h3) No h2) No h)
    (done : ∀ g ks ys cvs h, Le g0 g → J n g ks ys → Hp C.w.params g ((Cf, .frm cxs cvs) :: (D, .sd ks ys) :: V) h → R (.ok .next) h) :
    CW C A (.compLoop (.DictComp kx elt [⟨tg, iter, ifs, 0⟩] scope pos) 0 it (.ref D) cen) R h := fun k => by
  refine codeAny_loop rfl (fun m s' => ∃ i h' k' g' ks ys cvs, s' = C.sh h' k' ∧ i + m = n ∧ ks.length ≤ i ∧ ks.Nodup ∧ Le g0 g' ∧ J i g' ks ys ∧ Hp C.w.params g' ((Cf, .frm cxs cvs) :: (D, .sd ks ys) :: (V ++ S i)) h') (fun m s' => ?_) n ⟨0, h, k, g, [], [], cvs, rfl, by omega, by simp, List.nodup_nil, le, h0, H⟩
  rintro ⟨i, h', k', g', ks, ys, cvs', rfl, hm, ha, hnd, le', hI, H'⟩
  show wpAny _ A ((compTurn (.DictComp kx elt [⟨tg, iter, ifs, 0⟩] scope pos) 0 it (.ref D) cen).onRaise (fun x => do noteFrame x cen; theTreesLotGoes x)) _ _ (C.sh h' k')
  refine wpAny_onRaise ?_
  rw [compTurn_dict]
  refine wpAny_bind (wpAny_standAt (wpAny_bind ?_))
  by_cases hi : i < n
  · refine wpAny_mono (T.next (E := No) (E' := No) hi le' (V := (Cf, .frm cxs cvs') :: (D, .sd ks ys) :: V) H' (Q := fun v h1 => W C A (assign tg cen v) (fun _ h2 => W C A (tests ifs cen) (fun ok h3 =>
        if ok = true then W C A (eval kx cen) (fun kv h4 => W C A (eval elt cen) (fun y h5 => ∃ k t ks' ys' g' cvs', kv = .str k t ∧ Pu k y ks ys ks' ys' ∧ Le g0 g' ∧ J (i + 1) g' ks' ys' ∧ Hp C.w.params g' ((Cf, .frm cxs cvs') :: (D, .sd ks ys) :: (V ++ S (i + 1))) h5) No h4) No h3
        else ∃ g' cvs', Le g0 g' ∧ J (i + 1) g' ks ys ∧ Hp C.w.params g' ((Cf, .frm cxs cvs') :: (D, .sd ks ys) :: (V ++ S (i + 1))) h3) No h2) No h1) ?_ k') (fun r s1 z => ?_) fun e s1 z => no_of z
    · intro v g2 h2 le2 hy H2
      refine W_mono (step i g2 ks ys cvs' h2 v (le'.trans le2) hi (mono _ _ _ _ _ le2 hI) hy H2) (fun _ h3 z => W_mono z (fun ok h4 z => ?_) fun _ _ z => z) fun _ _ z => z
      split at z
      · rename_i q
        rw [if_pos q]
        exact W_mono z (fun kv h4 z => W_mono z (fun y h5 ⟨k5, t5, ks5, ys5, g5, c5, e5, p5, l5, z⟩ => ⟨k5, t5, ks5, ys5, g5, c5, e5, p5, (le'.trans le2).trans l5, z⟩) fun _ _ z => z) fun _ _ z => z
      · rename_i q
        rw [if_neg q]
        obtain ⟨g5, c5, l5, z⟩ := z
        exact ⟨g5, c5, (le'.trans le2).trans l5, z⟩
    · obtain ⟨h1, k1, rfl, v, rfl, z⟩ := z
      refine wpAny_bind (wpAny_mono (z k1) (fun _ s2 z => ?_) fun e s2 z => no_of z)
      obtain ⟨h2, k2, rfl, z⟩ := z
      refine wpAny_bind (wpAny_mono (z k2) (fun _ s3 z => ?_) fun e s3 z => no_of z)
      obtain ⟨h3, k3, rfl, z⟩ := z
      refine wpAny_bind (wpAny_mono (z k3) (fun ok s4 z => ?_) fun e s4 z => no_of z)
      obtain ⟨h4, k4, rfl, z⟩ := z
      cases ok with
      | false =>
        obtain ⟨g5, c5, l5, j5, H5⟩ := z
        exact wpAny_pure ⟨rfl, m - 1, by omega, i + 1, h4, k4, g5, ks, ys, c5, rfl, by omega, by omega, hnd, l5, j5, H5⟩
      | true =>
        refine wpAny_bind (wpAny_bind (wpAny_mono (z k4) (fun kv s5 z => ?_) fun e s5 z => no_of z))
        obtain ⟨h5, k5, rfl, z⟩ := z
        refine wpAny_bind (wpAny_holding (wpAny_mono (z k5) (fun y s6 z => ?_) fun e s6 z => no_of z))
        obtain ⟨h6, k6, rfl, x, t, ks', ys', g6, c6, rfl, p6, l6, j6, H6⟩ := z
        refine wpAny_bind (wpAny_standAt (wpAny_holding (wpAny_mono (W_dictSet_sd (C := C) (A := A) (E := No) (Q := fun _ h7 => Hp C.w.params g6 ((Cf, .frm cxs c6) :: (D, .sd ks' ys') :: (V ++ S (i + 1))) h7) H6 hnd (.tail .head) p6 (by omega) (fun h7 H7 => H7) k6) (fun _ s7 z => ?_) fun e s7 z => no_of z)))
        obtain ⟨h7, k7, rfl, H7⟩ := z
        exact wpAny_pure ⟨rfl, m - 1, by omega, i + 1, h7, k7, g6, ks', ys', c6, rfl, by omega, by have := p6.len; omega, p6.nodup hnd, l6, j6, H7⟩
  · have : i = n := by omega
    subst this
    refine wpAny_mono ((T.done (E := No) le' (V := (Cf, .frm cxs cvs') :: (D, .sd ks ys) :: V) H' (Q := fun h1 => R (.ok .next) h1) (fun h1 H1 => done g' ks ys cvs' h1 le' hI H1)) k') (fun r s1 z => ?_) fun e s1 z => no_of z
    obtain ⟨h1, k1, rfl, rfl, z⟩ := z
    exact wpAny_pure (po z)
theorem CW_compStartD {R : Result → Heap → Prop} {rest : List Comprehension} (hs : W C A (pyIter it) (fun v h' => v = it ∧ h' = h) No h)
    (x : CW C A (.compLoop (.DictComp kx elt (⟨tg, iter, ifs, 0⟩ :: rest) scope pos) 0 it (.ref D) cen) R h) : CW C A (.compStart (.DictComp kx elt (⟨tg, iter, ifs, 0⟩ :: rest) scope pos) 0 it (.ref D) cen) R h := fun k => by
  refine codeAny_compStart_dict (x k) (wpAny_mono (hs k) (fun v s1 z => ?_) fun e s1 z => no_of z)
  obtain ⟨h1, k1, rfl, rfl, rfl⟩ := z
  exact x k1

def Ld (C : Cfg) (A : Around) (tg kx elt : PySem.Expr) (ifs : List PySem.Expr) (ns' : List (Str × NameKind)) (cxs : List Str) (cl' : List (Str × Addr)) (g0 : Heap) (V : Led) (K : Heap → Addr → List Str → List Value → Prop) (it : Value) (h : Heap) : Prop :=
  ∃ n S Y g, ∃ J : Nat → Heap → List Str → List Value → Prop, Le g0 g ∧ Ity C A tg it n S Y g ∧ n ≤ 1000 ∧ Hp C.w.params g (V ++ S 0) h ∧ J 0 g [] [] ∧ (∀ i g g' ks ys, Le g g' → J i g ks ys → J i g' ks ys) ∧
    (∀ i g' ks ys Cf D cen cvs v h3, Le g g' → i < n → J i g' ks ys → Y i g' v → Fe cen Cf ns' cxs cl' → Hp C.w.params g' ((Cf, .frm cxs cvs) :: (D, .sd ks ys) :: (V ++ S (i + 1))) h3 →
      W C A (assign tg cen v) (fun _ h2 => W C A (tests ifs cen) (fun ok h3 =>
        if ok = true then W C A (eval kx cen) (fun kv h4 => W C A (eval elt cen) (fun y h5 => ∃ k t ks' ys' g'' cvs', kv = .str k t ∧ Pu k y ks ys ks' ys' ∧ Le g' g'' ∧ J (i + 1) g'' ks' ys' ∧ Hp C.w.params g'' ((Cf, .frm cxs cvs') :: (D, .sd ks ys) :: (V ++ S (i + 1))) h5) No h4) No h3
        else ∃ g'' cvs', Le g' g'' ∧ J (i + 1) g'' ks ys ∧ Hp C.w.params g'' ((Cf, .frm cxs cvs') :: (D, .sd ks ys) :: (V ++ S (i + 1))) h3) No h2) No h3) ∧
    (∀ g' D ks ys, Le g g' → J n g' ks ys → K g' D ks ys)


theorem W_newDict {Q : Value → Heap → Prop} (H : Hp C.w.params g V h) (hW : (h.objs.size == sysModules) = false) (q : ∀ a h', Hp C.w.params g ((a, .sd [] []) :: V) h' → Q (.ref a) h') : W C A newDict Q E h := fun k =>
  wpAny_newObj_type (po (q _ _ (H.own (s := .sd [] []) ⟨[], 0, Heap.get?_push_size _ rfl, .nil, hW⟩)))

theorem W_DictComp {Q : Value → Heap → Prop} (hW : ∀ h : Heap, Le g0 h → (h.objs.size == sysModules) = false) (F : Fe en L ns xs cl) (X : Cx scope ns ns' cl cl' cxs)
    (x : W C A (eval iter en) (fun xv h1 => W C A (pyIter xv) (fun it h2 => ∃ V, Ld C A tg kx elt ifs ns' cxs cl' g0 V (fun g' D ks ys => ∀ h', Hp C.w.params g' ((D, .sd ks ys) :: V) h' → Q (.ref D) h') it h2) E h1) E h)
    (hs : ∀ x, foldedSetIterable iter en x = pure x) : W C A (eval (.DictComp kx elt [⟨tg, iter, ifs, 0⟩] scope pos) en) Q E h := fun k => by
  rw [arm_eval_DictComp]
  have noc := fun y hy => List.all_eq_true.mp X.noc y hy
  refine wpAny_comprehension_free (use := none) rfl hs (clos_of (by rw [F.cells]; exact X.clo)) X.kind (fun y hy hl => ?_) (wpAny_mono (x k) (fun xv s1 z => ?_) fun _ _ z => z)
  · have := noc y hy
    rw [hl] at this
    simpa using this
  obtain ⟨h1, k1, rfl, z⟩ := z
  refine wpAny_mono (z k1) (fun it s2 z => ?_) fun _ _ z => z
  obtain ⟨h2, k2, rfl, V, n, S, Y, g, J, lg, T, hn, H, h0, mono, step, done⟩ := z
  refine wpAny_mono (W_newDict (C := C) (A := A) (E := E) (Q := fun a h' => ∃ D, a = .ref D ∧ Hp C.w.params g ((D, .sd [] []) :: (V ++ S 0)) h') H (hW _ (lg.trans H.le)) (fun a h' H' => ⟨a, rfl, H'⟩) k2) (fun acc s3 z => ?_) fun _ _ z => z
  obtain ⟨h3, k3, rfl, D, rfl, H3⟩ := z
  have z := (comp_frame (e := .DictComp kx elt [⟨tg, iter, ifs, 0⟩] scope pos) (it := it) (acc := .ref D) (C := C) (A := A) (E := E) (R := fun Cf r h' => r = .ok .next ∧ ∃ g' ks ys cvs, Le g g' ∧ J n g' ks ys ∧ Hp C.w.params g' ((Cf, .frm cxs cvs) :: (D, .sd ks ys) :: V) h') F X H3 (fun Cf cen h4 Fc H4 => by
    refine CW_compStartD (fun k' => ?_) ?_
    · exact T.self (V := (Cf, .frm cxs _) :: (D, .sd [] []) :: V) (Le.refl g) H4 ⟨rfl, rfl⟩ k'
    · refine CW_compD T J mono hn H4 (Le.refl g) h0 (fun i g' ks ys cvs h5 v le hi hj hy H5 => step i g' ks ys Cf D cen cvs v h5 le hi hj hy Fc H5) (fun g' ks ys cvs h5 le hj H5 => ⟨rfl, g', ks, ys, cvs, le, hj, H5⟩))) k3
  refine wpAny_mono z (fun cenv s4 z => ?_) fun _ _ z => z
  · refine codeAny_mono z fun r s5 z => ?_
    obtain ⟨h5, k5, rfl, rfl, g', ks, ys, cvs, le, hj, H5⟩ := z
    obtain ⟨m, hm, _⟩ := H5.at (s := .frm _ _) (.head _)
    exact ⟨m, hm, fun h6 hs6 => po (done g' D ks ys le hj h6 (H5.drop_ns hs6))⟩


theorem W_AssignDC {y : Str} {py spos : Pos} {Q : Flow → Heap → Prop} (hW : ∀ h : Heap, Le g0 h → (h.objs.size == sysModules) = false) (F : Fe en L ns xs cl) (X : Cx scope ns ns' cl cl' cxs)
    (hsw : swapsWith (.DictComp kx elt [⟨tg, iter, ifs, 0⟩] scope pos) (some (.Name y py)) spos.line en = pure true)
    (x : W C A (eval iter en) (fun xv h1 => W C A (pyIter xv) (fun it h2 => ∃ V vs, Ld C A tg kx elt ifs ns' cxs cl' g0 ((L, .frm xs vs) :: V) (fun g' D ks ys => ∃ vs', St xs vs y (.ref D) vs' ∧ ∀ h', Hp C.w.params g' ((L, .frm xs vs') :: (D, .sd ks ys) :: V) h' → Q .next h') it h2) E h1) E h)
    (hs : ∀ x, foldedSetIterable iter en x = pure x) : W C A (exec (.Assign [.Name y py] (.DictComp kx elt [⟨tg, iter, ifs, 0⟩] scope pos) spos) en) Q E h := fun k => by
  rw [exec_Assign_Name_used _ _ _ _ hsw]
  refine wpAny_bind (wpAny_standAt (wpAny_bind ?_))
  show wpAny _ A (do let _ ← comprehension (.DictComp kx elt [⟨tg, iter, ifs, 0⟩] scope pos) scope en _ newDict false (eval iter en) (some (assign (.Name y py) en))) _ _ (C.sh h k)
  refine wpAny_bind (wpAny_mono (Q := fun _ => Po C Q .next) ?_ (fun _ s' hq => wpAny_pure (wpAny_pure hq)) fun _ _ e => e)
  have noc := fun y hy => List.all_eq_true.mp X.noc y hy
  refine wpAny_comprehension_free (use := some (assign (.Name y py) en)) (Q := fun _ s' => Po C Q .next s') rfl hs (clos_of (by rw [F.cells]; exact X.clo)) X.kind (fun y hy hl => ?_) (wpAny_mono (x k) (fun xv s1 z => ?_) fun _ _ z => z)
  · have := noc y hy
    rw [hl] at this
    simpa using this
  obtain ⟨h1, k1, rfl, z⟩ := z
  refine wpAny_mono (z k1) (fun it s2 z => ?_) fun _ _ z => z
  obtain ⟨h2, k2, rfl, V, vs, n, S, Y, g, J, lg, T, hn, H, h0, mono, step, done⟩ := z
  refine wpAny_mono (W_newDict (C := C) (A := A) (E := E) (Q := fun a h' => ∃ D, a = .ref D ∧ Hp C.w.params g ((D, .sd [] []) :: (((L, .frm xs vs) :: V) ++ S 0)) h') H (hW _ (lg.trans H.le)) (fun a h' H' => ⟨a, rfl, H'⟩) k2) (fun acc s3 z => ?_) fun _ _ z => z
  obtain ⟨h3, k3, rfl, D, rfl, H3⟩ := z
  have z := (comp_frame (e := .DictComp kx elt [⟨tg, iter, ifs, 0⟩] scope pos) (it := it) (acc := .ref D) (C := C) (A := A) (E := E) (R := fun Cf r h' => r = .ok .next ∧ ∃ g' ks ys cvs, Le g g' ∧ J n g' ks ys ∧ Hp C.w.params g' ((Cf, .frm cxs cvs) :: (D, .sd ks ys) :: (L, .frm xs vs) :: V) h') F X H3 (fun Cf cen h4 Fc H4 => by
    refine CW_compStartD (fun k' => ?_) ?_
    · exact T.self (V := (Cf, .frm cxs _) :: (D, .sd [] []) :: (L, .frm xs vs) :: V) (Le.refl g) H4 ⟨rfl, rfl⟩ k'
    · refine CW_compD T J mono hn H4 (Le.refl g) h0 (fun i g' ks ys cvs h5 v le hi hj hy H5 => step i g' ks ys Cf D cen cvs v h5 le hi hj hy Fc H5) (fun g' ks ys cvs h5 le hj H5 => ⟨rfl, g', ks, ys, cvs, le, hj, H5⟩))) k3
  refine wpAny_mono z (fun cenv s4 z => ?_) fun _ _ z => z
  · refine codeAny_mono z fun r s5 z => ?_
    obtain ⟨h5, k5, rfl, rfl, g', ks, ys, cvs, le, hj, H5⟩ := z
    obtain ⟨vs', hst, q⟩ := done g' D ks ys le hj
    show wpAny _ A (assign (.Name y py) en (.ref D)) _ _ _
    have H6 : Hp C.w.params g' ((L, .frm xs vs) :: (cenv.locals, .frm cxs cvs) :: (D, .sd ks ys) :: V) h5 := H5.perm ((List.Perm.swap _ _ _).cons _ |>.trans (.swap _ _ _))
    have z : W C A (assign (.Name y py) en (.ref D)) (fun _ h' => Hp C.w.params g' ((L, .frm xs vs') :: (cenv.locals, .frm cxs cvs) :: (D, .sd ks ys) :: V) h') E h5 := W_as_Name (W_bindL F H6 hst (fun h' H' => H'))
    refine wpAny_mono (z k5) (fun _ s6 z => ?_) fun _ _ z => z
    obtain ⟨h6, k6, rfl, H7⟩ := z
    have H8 := H7.swap
    obtain ⟨m, hm, _⟩ := H8.at (s := .frm _ _) (.head _)
    exact ⟨m, hm, fun h9 hs9 => po (q h9 (H8.drop_ns hs9))⟩
end

end
section
set_option linter.all false
theorem codeAmong_snoc2 {pos : Pos} {a b : Int} {c r : Value} : ∀ (l : List Value), TriplesOk l → codeAmong pos (l ++ [rawInt a, rawInt b, c]) = some r → codeAmong pos l = some r ∨ (a = pos.line ∧ b = pos.col ∧ r = c) := by
  intro l
  fun_induction TriplesOk l with
  | case1 =>
    intro _ e
    simp only [List.nil_append, codeAmong, rawInt] at e
    split at e
    · rename_i q
      simp only [Bool.and_eq_true, beq_iff_eq] at q
      cases e
      exact .inr ⟨q.1, q.2, rfl⟩
    · cases e
  | case2 a' t b' u x rest ih =>
    intro h e
    simp only [List.cons_append, codeAmong] at e ⊢
    split at e
    · rename_i q; rw [if_pos q]; exact .inl e
    · rename_i q; rw [if_neg q]; exact ih h e
  | case3 l h1 h2 => exact fun h => h.elim
section
variable {C : Cfg} {A : Around} {E : Value → Heap → Prop} {g g0 h : Heap} {V : Led} {en : Env} {L c P : Addr} {ns : List (Str × NameKind)} {xs : List Str} {vs : List (Option Value)} {cl clos : List (Str × Addr)} {pos : Pos} {scope : Scope} {name qual : Str} {params : Arguments} {body : List Stmt} {q : Pos → Str} {x : Str} {v : Value}
def FnO (g : Heap) (f : Addr) (name qual : Str) (params : Arguments) (body : List Stmt) (scope : Scope) (clos : List (Str × Addr)) : Prop :=
  ∃ doc pm cdv ctv, g.get? f = some { cls := .type "function", data := .func (fnX name qual params body scope clos .none .none doc pm none cdv ctv) } ∧ g.CodeRec cdv qual
theorem FnO.up {g g' : Heap} {f : Addr} (x : FnO g f name qual params body scope clos) (le : Le g g') : FnO g' f name qual params body scope clos :=
  let ⟨d, p, c, t, e, r⟩ := x; ⟨d, p, c, t, le _ _ e, r.keeps le⟩
theorem FnO.kpr {f : Addr} (x : FnO g f name qual params body scope clos) (le : Le g h) : Kpr C (.ref f) h := let ⟨_, _, _, _, e, _⟩ := x; Kpr.fn (le _ _ e) rfl
theorem W_makeFn {Q : Value → Heap → Prop} (H : Hp C.w.params g V h) (Wd : Wld C g) (hg : en.globals = mainGlobals) (hcode : en.code = .ref c) (m : (c, P) ∈ codesT) (mt : (P, .tab q) ∈ V) (hcl : closL scope.names en.cells [] = some clos) (hq : ∀ p : Pos, p.line = pos.line → p.col = pos.col → q p = qual)
    (x : ∀ f g' h', Le g g' → FnO g' f name qual params body scope clos → Hp C.w.params g' V h' → Q (.ref f) h') {fl : Nat} : W C A (makeFunction name qual params (.stmts body) scope en [] [] [] pos fl) Q E h := fun k => by
  obtain ⟨mg, hmg, bm, ob, b1, b2, b3, b4, b5, b6⟩ := Wd.B
  obtain ⟨ps, eP, tr, hp⟩ := H.at (s := .tab q) mt
  have hmg' := hmg.keeps H.le
  have CH := (Wd.D _ m).keeps H.le
  have outP := H.out _ mt
  have hbP : bm ≠ P := fun e => by rw [e] at b3; rw [b3] at outP; cases outP
  have hbG : bm ≠ mainGlobals := fun e => by
    obtain ⟨o, es, ep, e', hd, _⟩ := hmg
    rw [e, e'] at b3; cases b3; rw [hd] at b6; cases b6
  have hgP : mainGlobals ≠ P := fun e => by
    obtain ⟨o, es, ep, e', hd, _⟩ := hmg
    rw [e] at e'; rw [e'] at outP; cases outP
  have hb : (C.sh h k).heap.BuiltinsAt mg P := ⟨bm, ob, b1, b2, hbG, hbP, H.le _ _ b3, b4, b5, b6⟩
  cases hf : codeAmong pos ps.toList with
  | some cv =>
    refine makeFunction_hit (s := C.sh h k) (c := c) (P := P) (ps := ps) (cv := cv) (mg := mg) (clos := clos) (clos_of hcl) hg hmg' hcode CH eP tr hf hb fun ctv doc h' tk kp sz => ?_
    have H1 : Hp C.w.params g V h' := ⟨fun b o e => kp b o (H.le b o e), fun p hp => (H.sat p hp).of_get fun o e => kp _ o e, H.out, H.nd⟩
    obtain ⟨g', l, e, H2⟩ := H1.keep (o := { cls := .type "function", data := .func (fnX name qual params body scope clos .none .none doc ((mg "__name__").getD .none) none cv ctv) }) rfl
    refine ⟨_, tk, rfl, x _ g' _ l ⟨doc, _, cv, ctv, e, ?_⟩ H2⟩
    have := hp pos cv hf
    rw [hq pos rfl rfl] at this
    exact this.keeps l
  | none =>
    refine makeFunction_K (s := C.sh h k) (c := c) (P := P) (ps := ps) (mg := mg) (clos := clos) (clos_of hcl) hg hmg' hcode CH eP tr hf hgP hb fun c' ctv doc h' tk hx hge hlt hrec htb => ?_
    have hx : Heap.ExtBut P h h' := hx
    have kp : ∀ b o, b ≠ P → h.get? b = some o → (h'.push (fnMade name qual params body scope clos doc ((mg "__name__").getD .none) c' ctv)).get? b = some o := fun b o hb e => Heap.get?_push_of_some _ (hx b o hb e)
    have gk : ∀ b o, g.get? b = some o → (h'.push (fnMade name qual params body scope clos doc ((mg "__name__").getD .none) c' ctv)).get? b = some o := fun b o e => kp b o (fun e' => by rw [e', outP] at e; cases e) (H.le b o e)
    have above : ∀ b, h.objs.size ≤ b → b ∉ V.map (·.1) := fun b hb mm => by
      obtain ⟨p, hp', e⟩ := List.mem_map.mp mm
      obtain ⟨o, ho⟩ := (H.sat p hp').ex
      have l1 := Heap.lt_size ho
      have e' : p.1 = b := e
      rw [e'] at l1
      exact absurd (Nat.lt_of_lt_of_le l1 hb) (Nat.lt_irrefl _)
    have lg : Le g (frz V (h'.push (fnMade name qual params body scope clos doc ((mg "__name__").getD .none) c' ctv))) := fun b o e => frz_get (gk b o e) fun mm => by
      obtain ⟨p, hp', e'⟩ := List.mem_map.mp mm
      have := H.out p hp'
      rw [show p.1 = b from e', e] at this; cases this
    have fc : (frz V (h'.push (fnMade name qual params body scope clos doc ((mg "__name__").getD .none) c' ctv))).CodeRec (.ref c') qual := by
      obtain ⟨c₂, o₂, vs₂, t₂, e₂, g₂, r₂⟩ := hrec
      cases e₂
      exact ⟨_, o₂, vs₂, t₂, rfl, frz_get (Heap.get?_push_of_some _ g₂) (above _ hge), r₂⟩
    have szh : h.objs.size ≤ h'.objs.size := Nat.le_trans hge (Nat.le_of_lt hlt)
    refine ⟨_, tk, rfl, x _ (frz V (h'.push (fnMade name qual params body scope clos doc ((mg "__name__").getD .none) c' ctv))) _ lg ⟨doc, _, .ref c', ctv, frz_get (Heap.get?_push_size _ rfl) (above _ szh), fc⟩ ⟨fun b o e => of_hideAll _ e, fun p hp' => ?_, fun p hp' => hideAll_none _ (List.mem_map_of_mem (f := (·.1)) hp'), H.nd⟩⟩
    by_cases e : p.1 = P
    · have : p = (P, .tab q) := by
        have nd := H.nd
        have := (List.pairwise_map.mp nd)
        rcases p with ⟨a, s⟩
        simp only at e
        subst e
        by_cases hs : s = .tab q
        · rw [hs]
        · exfalso
          obtain ⟨i, hi, e1⟩ := List.getElem_of_mem hp'
          obtain ⟨j, hj, e2⟩ := List.getElem_of_mem mt
          have hij : i = j := (List.getElem_inj (h₀ := by simpa using hi) (h₁ := by simpa using hj) nd).mp (by simp [e1, e2])
          subst hij
          rw [e1] at e2
          exact hs (Prod.mk.inj e2).2
      subst this
      refine ⟨_, Heap.get?_push_of_some _ htb, ?_, fun p' c2 e2 => ?_⟩
      · have := TriplesOk_snoc pos.line pos.col (.ref c') ps.toList tr
        simpa using this
      · have e2 : codeAmong p' (ps.toList ++ [rawInt pos.line, rawInt pos.col, .ref c']) = some c2 := by simpa using e2
        rcases codeAmong_snoc2 _ tr e2 with e3 | ⟨e3, e4, rfl⟩
        · exact (hp p' c2 e3).keeps lg
        · rw [hq p' (by omega) (by omega)]; exact fc
    · exact ((H.sat p hp').up lg).of_get fun o e' => kp _ o e e'
end

end
section
set_option linter.all false
theorem lookup_snoc (n x : Str) (v : Value) (r : List (Str × Value)) : (r ++ [(n, v)]).lookup x = (r.lookup x).or (if x = n then some v else none) := by
  induction r with
  | nil =>
    simp only [List.nil_append, List.lookup_cons, List.lookup_nil, Option.none_or]
    by_cases h : x = n
    · subst h; simp
    · have : (x == n) = false := beq_eq_false_iff_ne.mpr h
      rw [if_neg h, this]
  | cons p r ih =>
    obtain ⟨k, w⟩ := p
    simp only [List.cons_append, List.lookup_cons]
    cases (x == k) with
    | true => rfl
    | false => exact ih
theorem bindL_at {K : Str → Option NameKind} {x : Str} (hx : K x = some .local) : ∀ (bs : List (Str × Value)) (m : Str → Option Value), bindL K bs m x = (bs.reverse.lookup x).or (m x)
  | [], m => by simp [bindL]
  | (n, v) :: r, m => by
    unfold bindL
    rw [bindL_at hx r, List.reverse_cons, lookup_snoc]
    by_cases h : x = n
    · subst h; simp [hx, Option.or_assoc]
    · by_cases hn : K n = some .local
      · rw [if_pos hn]; simp [h]
      · rw [if_neg hn]; simp [h]
theorem bindC_at {K : Str → Option NameKind} {x : Str} (hx : K x ≠ some .local) : ∀ (bs : List (Str × Value)) (m : Str → Option Value), bindC K bs m x = (bs.reverse.lookup x).or (m x)
  | [], m => by simp [bindC]
  | (n, v) :: r, m => by
    unfold bindC
    rw [bindC_at hx r, List.reverse_cons, lookup_snoc]
    by_cases h : x = n
    · subst h; simp [hx, Option.or_assoc]
    · by_cases hn : K n = some .local
      · rw [if_pos hn]; simp [h]
      · rw [if_neg hn]; simp [h]
def cellsAt (n : Nat) : List Str → List (Str × Addr) → List (Str × Addr)
  | [], acc => acc
  | x :: r, acc => cellsAt (n + 1) r ((x, n) :: acc)
def isCellK : NameKind → Bool
  | .cell => true
  | _ => false
theorem cells_eq : ∀ (names : List (Str × NameKind)) (n : Nat) (acc : List (Str × Addr)), cellsFrom n names acc = cellsAt n ((names.filter fun y => isCellK y.2).map (·.1)) acc
  | [], n, acc => rfl
  | (x, k) :: r, n, acc => by
    unfold cellsFrom
    cases k <;> simp [isCellK, cellsAt, cells_eq r] <;> rfl
theorem cellsAt_mem : ∀ (cn : List Str) (n : Nat) (acc : List (Str × Addr)) (p : Str × Addr), p ∈ cellsAt n cn acc → p ∈ acc ∨ p.1 ∈ cn
  | [], n, acc, p, h => .inl h
  | x :: r, n, acc, p, h => by
    rcases cellsAt_mem r (n + 1) _ p h with h | h
    · cases h with
      | head => exact .inr (.head _)
      | tail _ h => exact .inl h
    · exact .inr (.tail _ h)
theorem cellsAt_acc : ∀ (cn : List Str) (n : Nat) (acc : List (Str × Addr)), cellsAt n cn acc = cellsAt n cn [] ++ acc
  | [], n, acc => rfl
  | x :: r, n, acc => by
    unfold cellsAt
    rw [cellsAt_acc r (n + 1) ((x, n) :: acc), cellsAt_acc r (n + 1) [(x, n)], List.append_assoc]; rfl
theorem lookup_of_mem : ∀ {l : List (Str × Addr)} {n : Str} {c : Addr}, (l.map (·.1)).Nodup → (n, c) ∈ l → l.lookup n = some c
  | (k, v) :: r, n, c, nd, h => by
    rw [List.map_cons, List.nodup_cons] at nd
    rw [List.lookup_cons]
    cases h with
    | head => simp
    | tail _ h =>
      have : n ≠ k := fun q => nd.1 (by rw [← q]; exact List.mem_map_of_mem (f := (·.1)) h)
      rw [beq_eq_false_iff_ne.mpr this]
      exact lookup_of_mem nd.2 h
section
variable {C : Cfg} {A : Around} {E : Value → Heap → Prop} {g g0 h : Heap} {V : Led} {en : Env} {L c P : Addr} {ns : List (Str × NameKind)} {xs cn : List Str} {vs : List (Option Value)} {cl clos : List (Str × Addr)} {pos : Pos} {scope : Scope} {name qual : Str} {params : Arguments} {body : List Stmt} {x : Str} {v : Value}
def cellLed (vals : Str → Option Value) (cl : List (Str × Addr)) : Led := cl.map fun p => (p.2, .cell (vals p.1))
theorem W_Def {Q : Flow → Heap → Prop} (x : W C A (makeFunction name (qualnameIn en name name) params (.stmts body) scope en [] [] [] pos pos.line) (fun v h' => W C A (storeName en name v) (fun _ h'' => Q .next h'') E h') E h)
    (hd0 : params.defaults = []) (hk0 : params.kw_defaults = []) (ha : annTrees params none en = []) : W C A (exec (.FunctionDef name params body [] none [] scope none name pos) en) Q E h := fun k =>
  nestDef_K hd0 hk0 ha (wpAny_mono (x k) (fun v s' ⟨h', k', e, z⟩ => e ▸ wpAny_mono (z k') (fun _ _ z => z) fun _ _ z => z) fun _ _ z => z)

theorem CW_fnC {f : Addr} {o : Obj} {fd : FuncData} {args : Args} {binds : List (Str × Value)} {R : Result → Heap → Prop} {n : Nat}
    (H : Hp C.w.params g V h) (Wd : Wld C g) (S : Stk A V) (r : Rm A (n + 1)) (ho : g.get? f = some o) (hd : o.data = .func fd) (hcd : g.CodeRec fd.code fd.qualname) (hbody : fd.body = .stmts body)
    (hbind : Looks C.M g (bindArgs fd args) binds) (hns : fd.scope.names = ns) (hgl : (fd.globals = mainGlobals ∧ fd.builtins = builtinsNs) ∧ fd.closure = [])
    (hco : (fd.scope.isCoroutine = false ∧ fd.scope.isGenerator = false) ∧ fd.scope.kind = .function)
    (hcn : (ns.filter fun y => isCellK y.2).map (·.1) = cn) (hcnd : cn.Nodup) (hloc : (binds.all fun y => ns.lookup y.1 == some .local || (ns.lookup y.1 == some .cell && cn.contains y.1)) = true)
    (hck : (cn.all fun y => ns.lookup y == some .cell) = true)
    (hxs : (xs.all fun x => ns.lookup x == some .local && !(x == ("__debug__" : Str))) = true) (hnd : xs.Nodup) (hvs : xs.map (fun x => binds.reverse.lookup x) = vs)
    (x : ∀ L en A' h', Hp C.w.params g ((L, .frm xs vs) :: (cellLed (fun x => binds.reverse.lookup x) (cellsAt (L + 1) cn []) ++ V)) h' → Fe en L ns xs (cellsAt (L + 1) cn []) → en.func = some f ∧ en.qual = fd.qualname ++ ".<locals>." ∧ en.code = fd.code → en.scope = fd.scope → Sb A' en L V → Rm A' n → W C A' (execs body en) (Bq R) (Be C A' en R) h') :
    CW C A (.call (.ref f) args) R h := fun k => by
  refine codeAny_call_function (s := C.sh h k) r.lim (H.le _ _ ho) hd hco.1.1 hco.1.2 hbody (hcd.keeps H.le) ?_
  rw [hgl.2]
  have keys : ∀ (L : Addr), (cellsAt (L + 1) cn []).map (·.1) = cn.reverse := by
    have : ∀ (cn : List Str) (n : Nat) (acc : List (Str × Addr)), (cellsAt n cn acc).map (·.1) = cn.reverse ++ acc.map (·.1) := by
      intro cn
      induction cn with
      | nil => intro n acc; rfl
      | cons x r ih => intro n acc; unfold cellsAt; rw [ih]; simp
    intro L; rw [this]; simp
  have nodupK : ∀ L : Addr, ((cellsAt (L + 1) cn []).map (·.1)).Nodup := fun L => by rw [keys]; exact List.pairwise_reverse.mpr (hcnd.imp Ne.symm)
  have lk : ∀ (L : Addr) y, y ∈ cn → ∃ a, (cellsAt (L + 1) cn []).lookup y = some a := fun L y hy => by
    have : y ∈ (cellsAt (L + 1) cn []).map (·.1) := by rw [keys]; exact List.mem_reverse.mpr hy
    obtain ⟨p, hp, e⟩ := List.mem_map.mp this
    exact ⟨p.2, lookup_of_mem (nodupK L) (by rw [← e]; exact hp)⟩
  have ck : ∀ y ∈ cn, ns.lookup y = some .cell := fun y hy => by simpa using List.all_eq_true.mp hck y hy
  refine hbind _ _ _ _ H.le (wpAny_newFunctionEnv_cells hco.2 (fun y hy => ?_) fun env he s' I => ?_)
  · rw [hns, cells_eq, hcn]
    have := List.all_eq_true.mp hloc y hy
    simp only [Bool.or_eq_true, Bool.and_eq_true, beq_iff_eq, List.contains_iff_mem] at this
    rcases this with h1 | ⟨h1, h2⟩
    · exact .inl h1
    · obtain ⟨a, e⟩ := lk h.objs.size y.1 h2
      exact .inr ⟨h1, by show (List.lookup y.1 (cellsAt (h.objs.size + 1) cn [])).isSome = true; rw [e]; rfl⟩
  · rw [hns, cells_eq, hcn] at he
    subst he
    have I : InCallC (C.sh h k) h.objs.size _ (cellsAt (h.objs.size + 1) cn []) _ s' := I
    obtain ⟨h', tk, rfl, kp⟩ := I.done
    refine ⟨(Wd.lim.keeps H.le).keeps kp, ?_⟩
    have kind : ∀ y, Env.kindOf (newEnv fd.scope h.objs.size fd.globals (cellsAt (h.objs.size + 1) cn []) (fd.qualname ++ ".<locals>.") (some f) fd.code none fd.builtins) y = ns.lookup y := fun y => by rw [← hns]; rfl
    have F : Fe (newEnv fd.scope h.objs.size fd.globals (cellsAt (h.objs.size + 1) cn []) (fd.qualname ++ ".<locals>.") (some f) fd.code none fd.builtins) h.objs.size ns xs (cellsAt (h.objs.size + 1) cn []) := by
      refine ⟨hco.2, hns, rfl, hgl.1.1, hgl.1.2, rfl, fun y hy => ?_, hnd⟩
      have := List.all_eq_true.mp hxs y hy
      simp only [Bool.and_eq_true, beq_iff_eq, Bool.not_eq_true'] at this
      exact this
    have old : ∀ b, h.objs.size ≤ b → g.get? b = none ∧ b ∉ V.map (·.1) := fun b hb => by
      refine ⟨?_, fun mm => ?_⟩
      · cases e : g.get? b with
        | none => rfl
        | some o => exact absurd (Nat.lt_of_lt_of_le (Heap.lt_size (H.le _ _ e)) hb) (Nat.lt_irrefl _)
      · obtain ⟨p, hp', e⟩ := List.mem_map.mp mm
        obtain ⟨o, ho⟩ := (H.sat p hp').ex
        have l1 := Heap.lt_size ho
        have e' : p.1 = b := e
        rw [e'] at l1
        exact absurd (Nat.lt_of_lt_of_le l1 hb) (Nat.lt_irrefl _)
    have ab : ∀ p ∈ cellsAt (h.objs.size + 1) cn [], h.objs.size < p.2 := fun p hp => I.above p.1 p.2 hp
    have H' : Hp C.w.params g ((h.objs.size, .frm xs vs) :: (cellLed (fun x => binds.reverse.lookup x) (cellsAt (h.objs.size + 1) cn []) ++ V)) h' := by
      refine ⟨fun b o e => kp b o (H.le b o e), fun p hp => ?_, fun p hp => ?_, ?_⟩
      · cases hp with
        | head =>
          refine ⟨_, I.toInCall.ns, by rw [← hvs]; simp, fun i y v a b => ?_⟩
          rw [← hvs, List.getElem?_map, a] at b
          rw [bindL_at (by rw [kind]; exact (F.lcl y (List.mem_of_getElem? a)).1)]
          cases b
          simp
        | tail _ hp =>
          rcases List.mem_append.mp hp with hp | hp
          · obtain ⟨q, hq, rfl⟩ := List.mem_map.mp hp
            have e := lookup_of_mem (nodupK h.objs.size) (show (q.1, q.2) ∈ _ from hq)
            have := I.cell q.1 q.2 e
            rw [bindC_at (by rw [kind]; rw [ck _ ((cellsAt_mem cn _ _ _ hq).resolve_left (by simp))]; decide)] at this
            show h'.IsCell q.2 (List.lookup q.1 binds.reverse)
            simpa using this
          · exact (H.sat p hp).of_get fun o e => kp _ o e
      · cases hp with
        | head => exact (old _ (Nat.le_refl _)).1
        | tail _ hp =>
          rcases List.mem_append.mp hp with hp | hp
          · obtain ⟨q, hq, rfl⟩ := List.mem_map.mp hp
            exact (old _ (Nat.le_of_lt (ab q hq))).1
          · exact H.out p hp
      · have e1 : (cellLed (fun x => binds.reverse.lookup x) (cellsAt (h.objs.size + 1) cn [])).map (·.1) = (cellsAt (h.objs.size + 1) cn []).map (·.2) := by
          unfold cellLed; rw [List.map_map]; rfl
        rw [List.map_cons, List.map_append, e1, List.nodup_cons, List.nodup_append]
        refine ⟨fun mm => ?_, ?_, H.nd, fun a ha b hb e => ?_⟩
        · rcases List.mem_append.mp mm with mm | mm
          · obtain ⟨q, hq, e⟩ := List.mem_map.mp mm
            have := ab q hq
            rw [show q.2 = h.objs.size from e] at this
            exact absurd this (Nat.lt_irrefl _)
          · exact (old _ (Nat.le_refl _)).2 mm
        · exact List.pairwise_map.mpr I.apart
        · obtain ⟨q, hq, rfl⟩ := List.mem_map.mp ha
          exact (old _ (Nat.le_of_lt (ab q hq))).2 (e ▸ hb)
    have S' : Sb (A.deeper (newEnv fd.scope h.objs.size fd.globals (cellsAt (h.objs.size + 1) cn []) (fd.qualname ++ ".<locals>.") (some f) fd.code none fd.builtins)) (newEnv fd.scope h.objs.size fd.globals (cellsAt (h.objs.size + 1) cn []) (fd.qualname ++ ".<locals>.") (some f) fd.code none fd.builtins) h.objs.size V := by
      obtain ⟨envs, e, s⟩ := S
      exact ⟨_, Around.frames_deeper e, by rw [F.kind]; decide, rfl, s⟩
    exact CW_func (x _ _ _ _ H' F ⟨rfl, rfl, rfl⟩ rfl S' r.deeper) _
theorem W_loadC {Q : Value → Heap → Prop} (F : Fe en L ns xs cl) (e : ns.lookup x = some .cell ∨ (ns.lookup x = some .free ∧ (x == ("__classdict__" : Str)) = false)) (hc : cl.lookup x = some c) (hv : Sat C.w.params g h c (.cell (some v))) (q : Q v h) : W C A (loadName en x) Q E h := fun k => by
  have hc' : en.cells.lookup x = some c := by rw [F.cells]; exact hc
  rcases e with e | ⟨e, e2⟩
  · exact wpAny_loadName_cell (s := C.sh h k) F.kind (F.kof e) hc' hv (po q)
  · exact wpAny_loadName_free (s := C.sh h k) F.kind (F.kof e) hc' hv (po q) e2
theorem W_Nc {Q : Value → Heap → Prop} (F : Fe en L ns xs cl) (e : ns.lookup x = some .cell ∨ (ns.lookup x = some .free ∧ (x == ("__classdict__" : Str)) = false)) (hc : cl.lookup x = some c) (hv : Sat C.w.params g h c (.cell (some v))) (hd : (x == ("__debug__" : Str)) = false) (q : Q v h) : W C A (eval (.Name x pos) en) Q E h :=
  fun k => wpAny_Name (W_loadC F e hc hv q k) hd
theorem W_bindC {Q : Unit → Heap → Prop} {v0 : Option Value} {V' : Led} (F : Fe en L ns xs cl) (H : Hp C.w.params g V h) (e : ns.lookup x = some .cell) (hc : cl.lookup x = some c) (U : Up c (.cell v0) (.cell (some v)) V V') (q : ∀ h', Hp C.w.params g V' h' → Q () h') : W C A (bindName en x v) Q E h := by
  unfold bindName
  refine W_bind (W_holding (W_point (W_bind (W_mono (Q := fun _ h' => Hp C.w.params g V' h') (E := E) (fun k => ?_) (fun _ h' H' => W_point (q h' H')) fun _ _ z => z))))
  have hc' : en.cells.lookup x = some c := by rw [F.cells]; exact hc
  have := H.at U.mem
  exact wpAny_storeName_cell (s := C.sh h k) F.kind (F.kof e) hc' this fun h' i sb => po (H.upd U i fun b o hb e => (sb.2 b hb).trans e)
end

end
section
set_option linter.all false
structure Ex (P : Params) (cls : Value) (e : Addr) (st : Option Value) (g : Heap) (V : Led) (h : Heap) : Prop where
  H : Hp P g V h
  eg : g.get? e = none
  eV : e ∉ V.map (·.1)
  ob : ∃ oe vs a0, h.get? e = some oe ∧ oe.cls = cls ∧ oe.data = .fields vs ∧ vs[0]? = some a0 ∧ match st with
    | none => vs[1]? = some .none
    | some fl => ∃ T oT ts, vs[1]? = some (.ref T) ∧ g.get? T = none ∧ T ∉ V.map (·.1) ∧ T ≠ e ∧ h.get? T = some oT ∧ oT.data = .fields ts ∧ ts[3]? = some fl
theorem mem_key {V : Led} {p q : Addr × Sp} (nd : (V.map (·.1)).Nodup) (hp : p ∈ V) (hq : q ∈ V) (e : p.1 = q.1) : p = q := by
  obtain ⟨i, hi, e1⟩ := List.getElem_of_mem hp
  obtain ⟨j, hj, e2⟩ := List.getElem_of_mem hq
  have hij : i = j := (List.getElem_inj (h₀ := by simpa using hi) (h₁ := by simpa using hj) nd).mp (by simp [e1, e2, e])
  subst hij
  rw [← e1, e2]
section
variable {C : Cfg} {A : Around} {E : Value → Heap → Prop} {g h h' : Heap} {V V' : Led} {en : Env} {L e : Addr} {cls : Value} {st : Option Value} {xs : List Str} {vs : List (Option Value)}
def Sf (A : Around) (en : Env) (L : Addr) (V : Led) : Prop := ∃ envs, A.frames = some (en :: envs) ∧ en.frame = some L ∧ ∀ x ∈ en :: envs, x.scope.kind ≠ .module ∧ ∃ L xs vs, x.frame = some L ∧ (L, Sp.frm xs vs) ∈ V
theorem Sb.sf (s : Sb A en L V) (m : (L, Sp.frm xs vs) ∈ V') (sub : ∀ p ∈ V, p ∈ V') : Sf A en L V' := by
  obtain ⟨envs, e, k, f, r⟩ := s
  refine ⟨_, e, f, fun x hx => ?_⟩
  cases hx with
  | head => exact ⟨k, _, _, _, f, m⟩
  | tail _ hx => obtain ⟨a, L, xs, vs, b, c⟩ := r x hx; exact ⟨a, L, xs, vs, b, sub _ c⟩
theorem ex_base {l : List Env} {K : List Addr} (H : Hp C.w.params g V h) (hl : ∀ x ∈ l, x.scope.kind ≠ .module ∧ ∃ L xs vs, x.frame = some L ∧ (L, Sp.frm xs vs) ∈ V) (hK : ∀ a ∈ K, a ∈ l.filterMap (·.frame) ∨ (g.get? a = none ∧ a ∉ V.map (·.1))) (hK2 : ∀ a ∈ l.filterMap (·.frame), a ∈ K) :
    (hideAll h K).StaysIn h ∧ h.FunFrames (hideAll h K) l ∧ (∀ b o, g.get? b = some o → (hideAll h K).get? b = some o) ∧ (∀ p ∈ V, p.1 ∉ l.filterMap (·.frame) → p.1 ∉ K) := by
  have fm : ∀ a ∈ l.filterMap (·.frame), ∃ xs vs, (a, Sp.frm xs vs) ∈ V := fun a ha => by
    obtain ⟨x, hx, e⟩ := List.mem_filterMap.mp ha
    obtain ⟨_, L, xs, vs, f, m⟩ := hl x hx
    rw [f] at e; cases e
    exact ⟨xs, vs, m⟩
  refine ⟨fun b o e => of_hideAll _ e, ?_, fun b o e => hideAll_get _ (H.le b o e) fun hb => ?_, fun p hp hn hk => ?_⟩
  · suffices hs : ∀ l' : List Env, (∀ x ∈ l', x ∈ l) → h.FunFrames (hideAll h K) l' from hs l fun _ x => x
    intro l'
    induction l' with
    | nil => intro _; trivial
    | cons x r ih =>
      intro hsub
      obtain ⟨k, L, xs, vs, f, m⟩ := hl x (hsub x (.head _))
      obtain ⟨mm, ⟨o, es, ep, ho, hd, _⟩, _⟩ := H.sat _ m
      refine ⟨k, ⟨L, o, f, hideAll_none _ (hK2 _ (List.mem_filterMap.mpr ⟨x, hsub x (.head _), f⟩)), ho, fun vs q => by rw [hd] at q; cases q⟩, ih fun y hy => hsub y (.tail _ hy)⟩
  · rcases hK b hb with hb | ⟨hb, _⟩
    · obtain ⟨xs, vs, m⟩ := fm b hb
      have := H.out _ m
      rw [e] at this; cases this
    · rw [hb] at e; cases e
  · rcases hK _ hk with h1 | ⟨_, h1⟩
    · exact hn h1
    · exact h1 (List.mem_map_of_mem (f := (·.1)) hp)
theorem ex_after {l : List Env} {K : List Addr} (H : Hp C.w.params g V h) (hl : ∀ x ∈ l, x.scope.kind ≠ .module ∧ ∃ L xs vs, x.frame = some L ∧ (L, Sp.frm xs vs) ∈ V) (hK : ∀ a ∈ K, a ∈ l.filterMap (·.frame) ∨ (g.get? a = none ∧ a ∉ V.map (·.1))) (hK2 : ∀ a ∈ l.filterMap (·.frame), a ∈ K)
    (st : (hideAll h K).StaysIn h') (up : ∀ b o, h.get? b = some o → (∀ vs, o.data ≠ .fields vs) → ∃ sl, h'.get? b = some { o with slots := sl }) : Hp C.w.params g V h' := by
  obtain ⟨b1, b2, b3, b4⟩ := ex_base H hl hK hK2
  refine ⟨fun b o e => st b o (b3 b o e), fun p hp => ?_, H.out, H.nd⟩
  by_cases hf : p.1 ∈ l.filterMap (·.frame)
  · obtain ⟨x, hx, e⟩ := List.mem_filterMap.mp hf
    obtain ⟨_, L, xs, vs, f, m⟩ := hl x hx
    rw [f] at e
    have e : L = p.1 := Option.some.inj e
    have := mem_key H.nd hp m e.symm
    subst this
    obtain ⟨mm, hn, lo⟩ := H.sat _ hp
    exact ⟨mm, Heap.UpToSlots.ns (h := h) (h' := h') up hn, lo⟩
  · exact (H.sat p hp).of_get fun o e => st _ o (hideAll_get _ e (b4 p hp hf))
theorem ex_tb {l : List Env} {K : List Addr} {fl a0 : Value} (H : Hp C.w.params g V h) (hl : ∀ x ∈ l, x.scope.kind ≠ .module ∧ ∃ L xs vs, x.frame = some L ∧ (L, Sp.frm xs vs) ∈ V) (hK : ∀ a ∈ K, a ∈ l.filterMap (·.frame) ∨ (g.get? a = none ∧ a ∉ V.map (·.1))) (hK2 : ∀ a ∈ l.filterMap (·.frame), a ∈ K)
    (eg : g.get? e = none) (eV : e ∉ V.map (·.1)) (st : (hideAll h K).StaysIn h') (ff : h'.FunFrames (hideAll h K) l) (up : ∀ b o, h.get? b = some o → (∀ vs, o.data ≠ .fields vs) → ∃ sl, h'.get? b = some { o with slots := sl })
    (tr : h'.TracedAtW (hideAll h K) e cls a0 fl) : Ex C.w.params cls e (some fl) g V h' := by
  obtain ⟨b1, b2, b3, b4⟩ := ex_base H hl hK hK2
  obtain ⟨oe, vs, T, oT, ts, he, ⟨hc, h0⟩, hd, h1, hT, hTe, hT2, hTd, h3⟩ := tr
  refine ⟨ex_after H hl hK hK2 st up, eg, eV, oe, vs, a0, he, hc, hd, h0, T, oT, ts, h1, ?_, fun m => ?_, hTe, hT2, hTd, h3⟩
  · cases q : g.get? T with
    | none => rfl
    | some o => have := b3 T o q; rw [hT] at this; cases this
  · obtain ⟨p, hp, eq⟩ := List.mem_map.mp m
    have eq : p.1 = T := eq
    by_cases hf : p.1 ∈ l.filterMap (·.frame)
    · obtain ⟨_, o, ho, hn⟩ := ff.mem hf
      rw [eq, hT2] at ho; cases ho
      exact hn _ hTd
    · obtain ⟨o, ho⟩ := (H.sat p hp).ex
      have := hideAll_get K ho (b4 p hp hf)
      rw [eq, hT] at this; cases this
theorem hK_of {l : List Env} {K' : List Addr} (h1 : ∀ a ∈ K', g.get? a = none ∧ a ∉ V.map (·.1)) : (∀ a ∈ l.filterMap (·.frame) ++ K', a ∈ l.filterMap (·.frame) ∨ (g.get? a = none ∧ a ∉ V.map (·.1))) ∧ (∀ a ∈ l.filterMap (·.frame), a ∈ l.filterMap (·.frame) ++ K') :=
  ⟨fun a ha => (List.mem_append.mp ha).imp id (h1 a), fun a ha => List.mem_append_left _ ha⟩

theorem W_note (S : Sf A en L V) (X : Ex C.w.params cls e st g V h) (hs : st = none ∨ st = some .none ∨ st = some (rawInt L)) {Q : Unit → Heap → Prop} (q : ∀ h', Ex C.w.params cls e (some (rawInt L)) g V h' → Q () h') : W C A (noteFrame (.ref e) en) Q E h := fun k => by
  obtain ⟨envs, hf, hL, hl⟩ := S
  obtain ⟨H, eg, eV, oe, vs, a0, he, hc, hd, h0, hst⟩ := X
  subst hc
  rcases hs with rfl | rfl | rfl
  · obtain ⟨k1, k2⟩ := hK_of (g := g) (V := V) (l := en :: envs) (K' := [e]) (fun a ha => by cases List.mem_singleton.mp ha; exact ⟨eg, eV⟩)
    obtain ⟨b1, b2, b3, b4⟩ := ex_base H hl k1 k2
    unfold noteFrame
    simp only [hL]
    refine wpAny_bind (wpAny_field (s := C.sh h k) he hd hst ?_)
    rw [if_neg (by decide)]
    refine wpAny_entryW (s := C.sh h k) hf b2 hL he b1 (hideAll_none _ (by simp)) hd (Array.getElem?_eq_some_iff.mp hst).1 h0 fun h' ⟨x1, x2, x3, x4⟩ => po (q h' ?_)
    exact ex_tb H hl k1 k2 eg eV x1 x2 x4 x3
  · obtain ⟨T, oT, ts, h1, Tg, TV, Te, hT, hTd, h3⟩ := hst
    obtain ⟨k1, k2⟩ := hK_of (g := g) (V := V) (l := en :: envs) (K' := [e, T]) (fun a ha => by
      rcases List.mem_cons.mp ha with rfl | ha
      · exact ⟨eg, eV⟩
      · cases List.mem_singleton.mp ha; exact ⟨Tg, TV⟩)
    obtain ⟨b1, b2, b3, b4⟩ := ex_base H hl k1 k2
    refine wpAny_noteFrame_onW (s := C.sh h k) hf b2 hL ⟨oe, vs, T, oT, ts, he, ⟨rfl, h0⟩, hd, h1, hideAll_none _ (by simp), Te, hT, hTd, h3⟩ b1 (hideAll_none _ (by simp)) fun h' ⟨x1, x2, x3, x4⟩ => po (q h' ?_)
    exact ex_tb H hl k1 k2 eg eV x1 x2 x4 x3
  · obtain ⟨T, oT, ts, h1, Tg, TV, Te, hT, hTd, h3⟩ := hst
    exact wpAny_noteFrame_inFlight (s := C.sh h k) hL he hd h1 hT hTd h3 (po (q h ⟨H, eg, eV, oe, vs, a0, he, rfl, hd, h0, T, oT, ts, h1, Tg, TV, Te, hT, hTd, h3⟩))
theorem W_flight {fr : Option Addr} {fl : Value} (X : Ex C.w.params cls e (some fl) g V h) {Q : Unit → Heap → Prop} (q : ∀ h', Ex C.w.params cls e (some (fr.elim Value.none fun f => rawInt f)) g V h' → Q () h') : W C A (setFlight (.ref e) fr) Q E h := fun k => by
  obtain ⟨H, eg, eV, oe, vs, a0, he, hc, hd, h0, T, oT, ts, h1, Tg, TV, Te, hT, hTd, h3⟩ := X
  have hsz3 : 3 < ts.size := (Array.getElem?_eq_some_iff.mp h3).1
  unfold setFlight
  refine wpAny_bind (wpAny_field (s := C.sh h k) he hd h1 ?_)
  rw [if_pos (show (Value.ref T != Value.none) = true from by simp)]
  refine wpAny_setField (s := C.sh h k) hT hTd hsz3 (po (q _ ?_))
  have ot : ∀ b x, b ≠ T → h.get? b = some x → (h.update T (Obj.mapFields (·.setIfInBounds 3 (fr.elim Value.none fun f => rawInt f)))).get? b = some x := fun b x hb e' => (Heap.get?_update_other _ _ (Ne.symm hb)).trans e'
  refine ⟨⟨fun b o e' => ot b o (fun q => by rw [q, Tg] at e'; cases e') (H.le b o e'), fun p hp => (H.sat p hp).of_get fun o e' => ot _ o (fun q => TV (by rw [← q]; exact List.mem_map_of_mem (f := (·.1)) hp)) e', H.out, H.nd⟩, eg, eV, oe, vs, a0, ot e oe (Ne.symm Te) he, hc, hd, h0, T, _, _, h1, Tg, TV, Te, Heap.get?_update_self _ hT (Obj.isFreed_of_fields (Obj.data_mapFields hTd _)), Obj.data_mapFields hTd _, by simp [hsz3]⟩
theorem W_leave (S : Sf A en L V) (X : Ex C.w.params cls e st g V h) (hs : st = none ∨ st = some .none ∨ st = some (rawInt L)) {Q : Unit → Heap → Prop} (q : ∀ h', Ex C.w.params cls e (some .none) g V h' → Q () h') : W C A (leaving en (.ref e)) Q E h := by
  unfold leaving
  exact W_bind (W_note S X hs fun h' X' => W_flight (fr := none) X' q)
theorem Nf_ex (S : Sf A en L V) (X : Ex C.w.params cls e st g V h) (hs : st = none ∨ st = some .none ∨ st = some (rawInt L)) (q : ∀ h', Ex C.w.params cls e (some (rawInt L)) g V h' → E (.ref e) h') : Nf C A en E (.ref e) h := by
  refine W_note S X hs fun h1 X1 => ?_
  unfold Cb
  obtain ⟨envs, hf, hL, hl⟩ := S
  intro k
  obtain ⟨H, eg, eV, oe, vs, a0, he, hc, hd, h0, T, oT, ts, h1', Tg, TV, Te, hT, hTd, h3⟩ := id X1
  refine wpAny_bind (wpAny_field (s := C.sh h1 k) he hd h1' ?_)
  rw [if_neg (show ¬ ((Value.ref T == Value.none) = true) from Bool.false_ne_true)]
  rw [hL]
  exact W_flight (C := C) (A := A) (E := E) (fr := some L) (Q := fun _ h' => E (.ref e) h') X1 q k
theorem Be_ex {R : Result → Heap → Prop} (S : Sf A en L V) (X : Ex C.w.params cls e st g V h) (hs : st = none ∨ st = some .none ∨ st = some (rawInt L)) (q : ∀ h', Ex C.w.params cls e (some .none) g V h' → R (.error (.ref e)) h') : Be C A en R (.ref e) h :=
  W_leave S X hs q
theorem Ex.drop {p : Addr × Sp} (X : Ex C.w.params cls e st g (p :: V) h) : Ex C.w.params cls e st g V h := by
  obtain ⟨H, eg, eV, oe, vs, a0, he, hc, hd, h0, r⟩ := X
  simp only [List.map_cons, List.mem_cons, not_or] at eV
  refine ⟨H.drop, eg, eV.2, oe, vs, a0, he, hc, hd, h0, ?_⟩
  cases st with
  | none => exact r
  | some fl =>
    obtain ⟨T, oT, ts, h1, Tg, TV, r⟩ := r
    simp only [List.map_cons, List.mem_cons, not_or] at TV
    exact ⟨T, oT, ts, h1, Tg, TV.2, r⟩
theorem Ex.new {cn : String} (H : Hp C.w.params g V h) (hx : Heap.NewExc h h' e cn) : Ex C.w.params (.type cn) e none g V h' := by
  obtain ⟨ob, t, he, hc, hd⟩ := hx.there
  refine ⟨⟨fun b o e => hx.keeps b o (H.le b o e), fun p hp => (H.sat p hp).of_get fun o e => hx.keeps _ o e, H.out, H.nd⟩, ?_, fun m => ?_, ob, _, t, he, hc, hd, rfl, rfl⟩
  · cases q : g.get? e with
    | none => rfl
    | some o => have := H.le _ _ q; rw [hx.new] at this; cases this
  · obtain ⟨p, hp, eq⟩ := List.mem_map.mp m
    obtain ⟨o, ho⟩ := (H.sat p hp).ex
    rw [show p.1 = e from eq, hx.new] at ho; cases ho
end

end
section
set_option linter.all false
section
variable {C : Cfg} {A : Around} {E : Value → Heap → Prop} {g h h' : Heap} {V V' : Led} {en : Env} {L e : Addr} {cls : Value} {st : Option Value} {xs : List Str} {vs : List (Option Value)}
def Rz (C : Cfg) (E : Value → Heap → Prop) (v : Value) (h : Heap) : Prop := ∃ a ob vs X N I, ExcClass X N I ∧ v = .ref a ∧ h.get? a = some ob ∧ ob.cls = .type X ∧ ob.data = .fields vs ∧ vs[1]? = some .none ∧ E (.ref a) h
theorem W_Raise {e : PySem.Expr} {pos : Pos} {Q : Flow → Heap → Prop} (hh : A.handled = none) (x : W C A (eval e en) (fun v h' => Rz C E v h') E h) : W C A (exec (.Raise (some e) none pos) en) Q E h := fun k =>
  Raise_new hh (wpAny_mono (x k) (fun v s' z => by
    obtain ⟨h1, k1, rfl, a, ob, vs, X, N, I, hc, rfl, ha, hcl, hd, h1', hE⟩ := z
    exact ⟨a, ob, vs, X, N, I, hc, rfl, ha, hcl, hd, h1', po hE⟩) fun _ _ z => z)
theorem W_call_exc {X N I : String} {rest : List Value} (hc : ExcClass X N I) (H : Hp C.w.params g V h) (hz : rest.length ≤ 10) (q : ∀ e h', Ex C.w.params (.type X) e none g V h' → E (.ref e) h') : W C A (call (.type X) rest) (fun v h' => Rz C E v h') E h := fun k =>
  call_exc (s := C.sh h k) hc (fun h' e hx => po (by
    obtain ⟨ob, t, he, hcl, hd⟩ := hx.there
    exact ⟨e, ob, _, X, N, I, hc, rfl, he, hcl, hd, rfl, q e h' (Ex.new H hx)⟩)) (by rw [sizeLine_eq]; omega)
end

def cellsF (ca : Nat → Addr) : Nat → List Str → List (Str × Addr) → List (Str × Addr)
  | _, [], acc => acc
  | j, x :: r, acc => cellsF ca (j + 1) r ((x, ca j) :: acc)
theorem cellsF_eq (n : Nat) : ∀ (cn : List Str) (j : Nat) (acc : List (Str × Addr)), cellsF (fun j => n + j) j cn acc = cellsAt (n + j) cn acc
  | [], _, _ => rfl
  | x :: r, j, acc => by unfold cellsF cellsAt; rw [cellsF_eq n r (j + 1)]; rfl
section
variable {C : Cfg} {A : Around} {g h : Heap} {V : Led} {ns : List (Str × NameKind)} {xs cn : List Str} {vs : List (Option Value)} {body : List Stmt}
theorem CW_fnK {f : Addr} {o : Obj} {fd : FuncData} {args : Args} {binds : List (Str × Value)} {R : Result → Heap → Prop} {n : Nat} {ccl : (Nat → Addr) → List (Str × Addr)} {cled : (Nat → Addr) → Led}
    (H : Hp C.w.params g V h) (Wd : Wld C g) (S : Stk A V) (r : Rm A (n + 1)) (ho : g.get? f = some o) (hd : o.data = .func fd) (hcd : g.CodeRec fd.code fd.qualname) (hbody : fd.body = .stmts body)
    (hbind : Looks C.M g (bindArgs fd args) binds) (hns : fd.scope.names = ns) (hgl : (fd.globals = mainGlobals ∧ fd.builtins = builtinsNs) ∧ fd.closure = [])
    (hco : (fd.scope.isCoroutine = false ∧ fd.scope.isGenerator = false) ∧ fd.scope.kind = .function)
    (hcn : (ns.filter fun y => isCellK y.2).map (·.1) = cn) (hcnd : cn.Nodup) (hloc : (binds.all fun y => ns.lookup y.1 == some .local || (ns.lookup y.1 == some .cell && cn.contains y.1)) = true)
    (hck : (cn.all fun y => ns.lookup y == some .cell) = true)
    (hxs : (xs.all fun x => ns.lookup x == some .local && !(x == ("__debug__" : Str))) = true) (hnd : xs.Nodup) (hvs : xs.map (fun x => binds.reverse.lookup x) = vs)
    (hccl : ∀ ca, cellsF ca 0 cn [] = ccl ca) (hcled : ∀ ca, cellLed (fun x => binds.reverse.lookup x) (cellsF ca 0 cn []) = cled ca)
    (x : ∀ L ca en A' h', Hp C.w.params g ((L, .frm xs vs) :: (cled ca ++ V)) h' → Fe en L ns xs (ccl ca) → en.func = some f ∧ en.qual = fd.qualname ++ ".<locals>." ∧ en.code = fd.code → en.scope = fd.scope → Sb A' en L V → Rm A' n → W C A' (execs body en) (Bq R) (Be C A' en R) h') :
    CW C A (.call (.ref f) args) R h := by
  refine CW_fnC H Wd S r ho hd hcd hbody hbind hns hgl hco hcn hcnd hloc hck hxs hnd hvs fun L en A' h' H' F => ?_
  have e := cellsF_eq (L + 1) cn 0 []
  rw [Nat.add_zero] at e
  rw [← e] at F H'
  rw [hcled] at H'
  rw [hccl] at F
  exact x L _ en A' h' H' F
def Nst (P : Params) (g : Heap) (f outer : Addr) (j : Nat) (qual : Str) (clos : List (Str × Addr)) : Prop :=
  ∃ oc od fdO sl bs name params body scope pos, (KF P).lookup outer = some ⟨oc, od, .func fdO, sl⟩ ∧ fdO.body = .stmts bs ∧ bs[j]? = some (.FunctionDef name params body [] none [] scope none name pos) ∧ FnO g f name qual params body scope clos
theorem Nst.up {P : Params} {g g' : Heap} {f outer : Addr} {j : Nat} {qual : Str} {clos : List (Str × Addr)} (x : Nst P g f outer j qual clos) (le : Le g g') : Nst P g' f outer j qual clos :=
  let ⟨oc, od, fdO, sl, bs, name, params, body, scope, pos, a, b, c, d⟩ := x; ⟨oc, od, fdO, sl, bs, name, params, body, scope, pos, a, b, c, d.up le⟩
end

theorem Sat.at1 {P : Params} {g h : Heap} {V : Led} {a : Addr} {s : Sp} (x : Sat P g g a s) (H : Hp P g V h) : Sat P g h a s := x.of_get fun o e => H.le _ _ e
theorem Sat.up1 {P : Params} {g g' : Heap} {a : Addr} {s : Sp} (x : Sat P g g a s) (le : Le g g') : Sat P g' g' a s := (x.up le).of_get fun o e => le _ o e
section
variable {C : Cfg} {A : Around} {E : Value → Heap → Prop} {g h : Heap} {V : Led} {en : Env} {L c : Addr} {ns : List (Str × NameKind)} {xs : List Str} {cl : List (Str × Addr)} {x : Str} {v : Value} {pos : Pos}
theorem W_Nc' {Q : Value → Heap → Prop} (F : Fe en L ns xs cl) (e : (ns.lookup x == some .cell || (ns.lookup x == some .free && !(x == ("__classdict__" : Str)))) = true) (hd : (x == ("__debug__" : Str)) = false) (nd : decide ((cl.map (·.1)).Nodup) = true) (m : (x, c) ∈ cl) (hv : Sat C.w.params g h c (.cell (some v))) (q : Q v h) : W C A (eval (.Name x pos) en) Q E h := by
  refine W_Nc F ?_ (lookup_of_mem (of_decide_eq_true nd) m) hv hd q
  simp only [Bool.or_eq_true, Bool.and_eq_true, beq_iff_eq, Bool.not_eq_true'] at e
  exact e
def StrsAre (vs : List Value) (xs : List Str) : Prop := vs.length = xs.length ∧ ∀ (i : Nat) (x : Str), xs[i]? = some x → ∃ t, vs[i]? = some (.str x t)
theorem Kk.of_get : ∀ {ks : List Str} {vs : List Value} {i : Nat} {x : Str} {v : Value}, ks[i]? = some x → vs[i]? = some v → Kk ks vs x v
  | k :: ks, w :: vs, 0, x, v, a, b => by cases a; cases b; exact .head
  | k :: ks, w :: vs, i + 1, x, v, a, b => .tail (Kk.of_get (by simpa using a) (by simpa using b))
  | [], _, _, _, _, a, _ => by simp at a
  | _ :: _, [], _, _, _, _, b => by simp at b
end

section
variable {C : Cfg} {A : Around} {E : Value → Heap → Prop} {g h : Heap} {V : Led} {en : Env} {t : Tok}
theorem seqIndex_nat {i n : Nat} (hi : i < n) : seqIndex? (i : Int) n = some i := by
  unfold seqIndex?
  simp only [show ¬ ((i : Int) < 0) from by omega, if_false]
  simp
  omega
theorem W_sub_tupN {ve se : PySem.Expr} {l : Addr} {vs : List Value} {x : Value} {i : Int} {j : Nat} {Q : Value → Heap → Prop} (T : Tp h l vs) (hj : i = (j : Int)) (hx : vs[j]? = some x) (hz : vs.length ≤ 1000) (q : Q x h) : W C A (subscriptTail ve se (.ref l) (.int i t)) Q E h := by
  subst hj
  have hl : j < vs.length := (List.getElem?_eq_some_iff.mp hx).1
  exact W_sub_tup T (by omega) (by omega) (seqIndex_nat hl) hx q
theorem W_sub_listN {ve se : PySem.Expr} {l : Addr} {vs : List Value} {x : Value} {i : Int} {j : Nat} {Q : Value → Heap → Prop} (T : Lst h l vs) (hj : i = (j : Int)) (hx : vs[j]? = some x) (hz : vs.length ≤ 1000) (q : Q x h) : W C A (subscriptTail ve se (.ref l) (.int i t)) Q E h := by
  subst hj
  have hl : j < vs.length := (List.getElem?_eq_some_iff.mp hx).1
  exact W_sub_list T (by omega) (by omega) (by simpa using hx) q
end

section
variable {C : Cfg} {A : Around} {E : Value → Heap → Prop} {g h : Heap} {V : Led} {en : Env} {t : Tok}
theorem W_truthy_int {i : Int} {Q : Bool → Heap → Prop} (q : Q (i != 0) h) : W C A (truthy (.int i t)) Q E h := fun k => truthy_int (po q)
theorem W_T_p {e : PySem.Expr} {Q : Bool → Heap → Prop} (he : ∀ m : Sem Value, isTrue e en m = (do let v ← m; standAt e.pos; holding [v] (truthy v)))
    (x : W C A (eval e en) (fun v h' => W C A (truthy v) Q E h') E h) : W C A (isTrue e en (eval e en)) Q E h := W_T_plain he x
end

section
variable {C : Cfg} {A : Around} {E : Value → Heap → Prop} {g h : Heap} {V : Led}
theorem W_getA {c a : Addr} {ks : List Str} {vs : List Value} {y : String} {v : Value} {kx : Bool} {Q : Value → Heap → Prop} (H : Hp C.w.params g V h) (Wd : Wld C g) (I : Inst C.w.params g a c ks vs) (mc : c ∈ [173, 244, 344, 379, 430, 465, 540]) (m : (c, y) ∈ atab0) (nd : ks.Nodup) (k : Kk ks vs (Str.ofString y) v) (hv : handedIn v = true) (q : Q v h) :
    W C A (getAttr (.ref a) (Str.ofString y) kx) Q E h := W_getI (Wd.K.keeps H.le) (cl_of mc) (na_of' m) (I.up H.le) nd k hv q
theorem W_methB {c a : Addr} {ks : List Str} {vs : List Value} {y : String} {v : Value} {pl : Sem Bool} {Q : Value × List Value → Heap → Prop} (H : Hp C.w.params g V h) (Wd : Wld C g) (I : Inst C.w.params g a c ks vs) (mc : c ∈ [173, 244, 344, 379, 430, 465, 540]) (m : (c, y) ∈ atab0) (nd : ks.Nodup) (k : Kk ks vs (Str.ofString y) v) (hv : handedIn v = true) (q : Q (v, []) h) :
    W C A (getMethod (.ref a) (Str.ofString y) pl) Q E h := W_methA (Wd.K.keeps H.le) (cl_of mc) (I.up H.le) (na_of' m) nd k hv q
end

end
section
set_option linter.all false
namespace FF
theorem lk_function_class : typeLookup (.type "function") "__class__" = pure (some (.builtin "object.__class__")) := by rw [typeLookup_type, builtinLookup_eq_fast]; kernel_rfl
theorem sub_function_class_owner : isSubtype (.type "function") (.type (".".intercalate ("object.__class__".cutAt '.').dropLast)) = pure true := by
  rw [F.owner_object_class, isSubtype_type]; kernel_rfl
theorem lk_ga : typeLookup (.type "function") "__getattribute__" = pure (some (.builtin "object.__getattribute__")) := by rw [typeLookup_type, builtinLookup_eq_fast]; kernel_rfl
theorem lk_gattr : typeLookup (.type "function") "__getattr__" = pure none := by rw [typeLookup_type, builtinLookup_eq_fast]; kernel_rfl
theorem slot_ga : Slot "function" "__getattribute__" "object.__getattribute__" :=
  .of (owner := "object") (n := "__getattribute__") (by rw [typeLookup_type, builtinLookup_eq_fast]; kernel_rfl) (by decide +kernel) (by decide +kernel) (by decide +kernel)
    (by first | exact .inl (by decide +kernel) | exact .inr (by decide +kernel)) (by rw [isSubtype_type]; kernel_rfl)
end FF
section
variable {prog : Program} {w : World} {A : Around} {E : Value → Shared → Prop} {h : Heap} {g : Array GenState} {d : Drawn} {t : Nat} {os : OsState} {a : Addr} {o : Obj}
theorem class_get_fn {R : Result → Shared → Prop} (hx : h.get? a = some o) (hc : o.cls = .type "function") (hq : R (.ok (.ret (.type "function"))) ⟨h, g, d, t, os⟩) :
    codeAny (model prog w) A (.call (.builtin "getset_descriptor.__get__") ⟨[.builtin "object.__class__", .ref a, .type "function"], []⟩) R ⟨h, g, d, t, os⟩ := by
  have hT : (⟨h, g, d, t, os⟩ : Shared).TypeIs (.ref a) "function" := ⟨_, hx, hc⟩
  have hT5 : (⟨h, g, d, t, os⟩ : Shared).TypeIs (.builtin "object.__class__") "getset_descriptor" := F.typeOf_object_class
  have f8 := FF.sub_function_class_owner
  refine codeAny_call_builtin F.slot_gs_get.plain F.entry_gs_get (F.slot_gs_get.check _ _ _ _ _ _ _ _ hT5 (F.args_gs_get _ _ _) ?_)
  repeat (any_goals (first | assumption | wp_step))
  refine ⟨Code.quiet_builtin _ (by decide +kernel), codeAny_builtin F.entry_object_class ?_⟩
  repeat (any_goals (first | assumption | wp_step))
theorem class_entry_fn {tk : Tok} {Q : Fin → Shared → Prop} (hx : h.get? a = some o) (hc : o.cls = .type "function") (hq : Q (.done (.ret (.type "function"))) ⟨h, g, d, t, os⟩) :
    wpAny (model prog w) A (Builtin.«object.__getattribute__» ⟨[.ref a, .str "__class__" tk], []⟩) Q E ⟨h, g, d, t, os⟩ := by
  have hT : (⟨h, g, d, t, os⟩ : Shared).TypeIs (.ref a) "function" := ⟨_, hx, hc⟩
  have hT5 : (⟨h, g, d, t, os⟩ : Shared).TypeIs (.builtin "object.__class__") "getset_descriptor" := F.typeOf_object_class
  have f4 := FF.lk_function_class
  have f5 := F.typeOf_object_class
  have f6 := F.slot_gs_get.lookup
  have f7 := F.slot_gs_set.lookup
  repeat (any_goals (first | assumption | wp_step))
  refine class_get_fn hx hc ?_
  repeat (any_goals (first | assumption | wp_step))
theorem class_call_fn {tk : Tok} {R : Result → Shared → Prop} (hx : h.get? a = some o) (hc : o.cls = .type "function") (hq : R (.ok (.ret (.type "function"))) ⟨h, g, d, t, os⟩) :
    codeAny (model prog w) A (.call (.builtin "object.__getattribute__") ⟨[.ref a, .str "__class__" tk], []⟩) R ⟨h, g, d, t, os⟩ :=
  codeAny_call_builtin FF.slot_ga.plain F.entry_object_getattribute (FF.slot_ga.check _ _ _ _ _ _ _ _ (show (⟨h, g, d, t, os⟩ : Shared).TypeIs (.ref a) "function" from ⟨_, hx, hc⟩) (F.args_object_getattribute_2 _ _) (class_entry_fn hx hc hq))
theorem class_by_fn {tk : Tok} {Q : Value → Shared → Prop} (hx : h.get? a = some o) (hc : o.cls = .type "function") (hq : Q (.type "function") ⟨h, g, d, t, os⟩) : wpAny (model prog w) A (getAttrBy (.ref a) (.str "__class__" tk) false) Q E ⟨h, g, d, t, os⟩ := by
  have hT : (⟨h, g, d, t, os⟩ : Shared).TypeIs (.ref a) "function" := ⟨_, hx, hc⟩
  have f2 := FF.slot_ga.lookup
  have f3 := FF.slot_ga.bind (.ref a)
  repeat (any_goals (first | assumption | wp_step))
  refine class_call_fn hx hc ?_
  repeat (any_goals (first | assumption | wp_step))
theorem class_attr_fn {Q : Option Value → Shared → Prop} (hx : h.get? a = some o) (hc : o.cls = .type "function") (hq : Q (some (.type "function")) ⟨h, g, d, t + 1, os⟩) : wpAny (model prog w) A (getAttr? (.ref a) "__class__") Q E ⟨h, g, d, t, os⟩ := by
  unfold getAttr? getAttrBy?
  repeat (any_goals (first | assumption | with_reducible apply class_by_fn hx hc | wp_step))
end

end
section
set_option linter.all false
theorem kitx_fn {K : Frag} {a : Addr} : KitX K (.ref a) (.type "function") (KitAt a "function") := kitx_of kitAt_ty (fun {_ _ _ _ _ s} p k => by obtain ⟨h, g, d, t, os⟩ := s; obtain ⟨o, h1, h2⟩ := p; exact class_attr_fn h1 h2 k)
theorem clsA_ok (P : Params) : ([173, 244, 344, 430, 465, 540].all fun D => plainGet (KF P) D "__class__" && (hasDictIn (KF P) D && (findIn (KF P) (.ref D) "__class__" == some (some (.builtin "object.__class__")) &&
  mroIn (KF P) D (.type "object") == some true))) = true := by kernel_rfl
theorem clsB_ok (P : Params) : (specialIn (KF P) (.builtin "object.__class__") "__get__" == some (some (.builtin "getset_descriptor.__get__")) && takesIn (KF P) (.builtin "object.__class__") == some true) = true := by kernel_rfl
theorem kitx_in {P : Params} {x D : Addr} {ox od : Obj} (m : D ∈ [173, 244, 344, 430, 465, 540]) : KitX (KF P) (.ref x) (.ref D) (fun h => InstAt h x ox D (some od)) := by
  have e := List.all_eq_true.mp (clsA_ok P) D m
  have e2 := clsB_ok P
  simp only [Bool.and_eq_true, beq_iff_eq] at e e2
  exact kitx_own e.1 e.2.1 e.2.2.1 e2.1 e2.2 e.2.2.2
theorem isI_ok (P : Params) : ([(Value.ref 430, Value.ref 430, true), (.type "function", .ref 430, false), (.ref 244, .ref 244, true), (.ref 173, .ref 244, false), (.ref 173, .ref 173, true), (.type "function", .ref 465, false), (.ref 540, .ref 465, false), (.type "dict", .type "dict", true)].all fun (p : Value × Value × Bool) => kitOne (KF P) p.1 p.2.1 == some p.2.2) = true := by kernel_rfl
theorem isi_of {P : Params} {t c : Value} {b : Bool} (m : (t, c, b) ∈ [(Value.ref 430, Value.ref 430, true), (.type "function", .ref 430, false), (.ref 244, .ref 244, true), (.ref 173, .ref 244, false), (.ref 173, .ref 173, true), (.type "function", .ref 465, false), (.ref 540, .ref 465, false), (.type "dict", .type "dict", true)]) : kitOne (KF P) t c = some b :=
  beq_iff_eq.mp (List.all_eq_true.mp (isI_ok P) _ m)
section
variable {C : Cfg} {A : Around} {E : Value → Heap → Prop} {g h : Heap} {V : Led} {en : Env} {t : Tok} {x : Addr} {c : Value} {b : Bool}
theorem W_isi {v tt : Value} {Hh : Heap → Prop} {Q : Value → Heap → Prop} (Z : KitX (KF C.w.params) v tt Hh) (X : (KF C.w.params).In h) (p : Hh h) (e : kitOne (KF C.w.params) tt c = some b) (hx : v ≠ .builtin "__main__.__loader__#opaque") (q : Q (.bool b) h) : W C A (call (.builtin "isinstance") [v, c]) Q E h := fun k =>
  kia_one (s := C.sh h k) Z X p e hx fun tk => po q
theorem W_isi_inst {D : Addr} {ks : List Str} {vs : List Value} {Q : Value → Heap → Prop} (X : (KF C.w.params).In h) (I : Inst C.w.params h x D ks vs) (m : D ∈ [173, 244, 344, 430, 465, 540]) (e : kitOne (KF C.w.params) (.ref D) c = some b) (q : Q (.bool b) h) : W C A (call (.builtin "isinstance") [.ref x, c]) Q E h := by
  obtain ⟨dx, es, n, r, I⟩ := I.at
  exact W_isi (kitx_in m) X I e (by intro q; cases q) q
theorem W_isi_fn {o : Obj} {Q : Value → Heap → Prop} (X : (KF C.w.params).In h) (ho : h.get? x = some o) (hc : o.cls = .type "function") (e : kitOne (KF C.w.params) (.type "function") c = some b) (q : Q (.bool b) h) : W C A (call (.builtin "isinstance") [.ref x, c]) Q E h :=
  W_isi kitx_fn X ⟨o, ho, hc⟩ e (by intro q; cases q) q
theorem W_isi_dict {o : Obj} {Q : Value → Heap → Prop} (X : (KF C.w.params).In h) (ho : h.get? x = some o) (hc : o.cls = .type "dict") (e : kitOne (KF C.w.params) (.type "dict") c = some b) (q : Q (.bool b) h) : W C A (call (.builtin "isinstance") [.ref x, c]) Q E h :=
  W_isi kitx_dict X ⟨o, ho, hc⟩ e (by intro q; cases q) q
theorem isL_ok (P : Params) : kitAny (KF P) (.type "list") [.type "list", .type "tuple"] = some true := by kernel_rfl
theorem W_isi_lt {tp : Addr} {Q : Value → Heap → Prop} (X : (KF C.w.params).In h) {vs : List Value} (L : Lst h x vs) (T : Tp h tp [.type "list", .type "tuple"]) (q : Q (.bool true) h) : W C A (call (.builtin "isinstance") [.ref x, .ref tp]) Q E h := fun k => by
  obtain ⟨n, e⟩ := L
  obtain ⟨n2, e2⟩ := T
  exact kia_tup (s := C.sh h k) kitx_list X ⟨_, e, rfl⟩ e2 (isL_ok _) (by intro q; cases q) fun tk => po q
theorem W_Tuple {elts : List PySem.Expr} {kk : Nat} {pos : Pos} {Q : Value → Heap → Prop} (x : W C A (spliced (backTo pos (starEach elts en))) (fun vs h1 => W C A (newTuple vs) Q E h1) E h) : W C A (eval (.Tuple elts kk pos) en) Q E h :=
  W_bind (W_standAt (W_bind x))
theorem W_List {elts : List PySem.Expr} {pos : Pos} {Q : Value → Heap → Prop} (x : W C A (spliced (backTo pos (starEach elts en))) (fun vs h1 => W C A (newList vs) Q E h1) E h) : W C A (eval (.List elts pos) en) Q E h :=
  W_bind (W_standAt (W_bind x))
theorem W_newTuple {vs : List Value} {Q : Value → Heap → Prop} (H : Hp C.w.params g V h) (hz : vs.length ≤ 1000) (q : ∀ a g' h', Le g g' → Tp g' a vs → Hp C.w.params g' V h' → Q (.ref a) h') : W C A (newTuple vs) Q E h := fun k => by
  refine wpAny_newTuple ?_ (by rw [sizeLine_eq]; omega)
  obtain ⟨g', l, e, H'⟩ := H.keep (o := { cls := .type "tuple", data := .seq vs.toArray }) rfl
  exact po (q _ g' _ l ⟨0, e⟩ H')
theorem W_unpackTup {a : Addr} {vs : List Value} {n : Nat} {Q : List Value → Heap → Prop} (hh : A.handled = none) (H : Hp C.w.params g V h) (T : Tp g a vs) (hn : n = vs.length) (q : ∀ h', Hp C.w.params g V h' → Q vs h') : W C A (unpackItems (.ref a) n none) Q E h := fun k => by
  have T' := (T.up H.le).is
  have e : n = vs.toArray.size := by simp [hn]
  rw [e]
  refine unpackItems_tuple (s := C.sh h k) hh T' fun h' hx => po (by
    have := q h' ⟨fun b o e => hx b o (fun q => by rw [q] at e; exact absurd (Heap.lt_size (H.le _ _ e)) (Nat.lt_irrefl _)) (H.le b o e), fun p hp => (H.sat p hp).of_get fun o e => hx _ o (fun q => by rw [q] at e; exact absurd (Heap.lt_size e) (Nat.lt_irrefl _)) e, H.out, H.nd⟩
    simpa using this)
theorem W_or2 {a b2 : PySem.Expr} {pos : Pos} {Q : Value → Heap → Prop} (x : W C A (eval a en) (fun v h1 => W C A (truthy v) (fun r h2 => (r = true → Q v h2) ∧ (r = false → W C A (eval b2 en) Q E h2)) E h1) E h) : W C A (eval (.BoolOp .Or [a, b2] pos) en) Q E h := by
  show W C A (boolOp pos .Or [eval a en, eval b2 en]) Q E h
  unfold boolOp
  refine W_bind (W_mono x (fun v h1 z => W_bind (W_standAt (W_bind (W_holding (W_mono z (fun r h2 y => ?_) fun _ _ z => z))))) fun _ _ z => z)
  cases r
  · exact y.2 rfl
  · exact W_pure (y.1 rfl)
theorem W_and2 {a b2 : PySem.Expr} {pos : Pos} {Q : Value → Heap → Prop} (x : W C A (eval a en) (fun v h1 => W C A (truthy v) (fun r h2 => (r = true → W C A (eval b2 en) Q E h2) ∧ (r = false → Q v h2)) E h1) E h) : W C A (eval (.BoolOp .And [a, b2] pos) en) Q E h := by
  show W C A (boolOp pos .And [eval a en, eval b2 en]) Q E h
  unfold boolOp
  refine W_bind (W_mono x (fun v h1 z => W_bind (W_standAt (W_bind (W_holding (W_mono z (fun r h2 y => ?_) fun _ _ z => z))))) fun _ _ z => z)
  cases r
  · exact W_pure (y.2 rfl)
  · exact y.1 rfl
theorem W_op_le {a b : Int} {t u : Tok} {Q : Value → Heap → Prop} (q : Q (.bool (decide (a ≤ b))) h) : W C A (call (.builtin "_operator.le") [.int a t, .int b u]) Q E h := fun k => by
  refine Calls.call_function_entry (by decide +kernel) (by decide +kernel) (show entryFor table "_operator.le" = some Builtin.«_operator.le» from entryFor_of_tree (by kernel_rfl)) (by unfold argsOk; kernel_rfl) ?_
  refine wpAny_bind (m := Builtin._operator.two "le" _) (wpAny_of_eq (a := (Value.int a t, Value.int b u)) (by kernel_rfl) ?_)
  refine wpAny_bind ?_
  show wpAny _ _ (compareOp .LtE (.int a t) (.int b u)) _ _ _
  exact PyProof.Rows.le_int (wpAny_pure ⟨_, rfl, po q⟩)
theorem W_op_ge {a b : Int} {t u : Tok} {Q : Value → Heap → Prop} (q : Q (.bool (decide (b ≤ a))) h) : W C A (call (.builtin "_operator.ge") [.int a t, .int b u]) Q E h := fun k => by
  refine Calls.call_function_entry (by decide +kernel) (by decide +kernel) (show entryFor table "_operator.ge" = some Builtin.«_operator.ge» from entryFor_of_tree (by kernel_rfl)) (by unfold argsOk; kernel_rfl) ?_
  refine wpAny_bind (m := Builtin._operator.two "ge" _) (wpAny_of_eq (a := (Value.int a t, Value.int b u)) (by kernel_rfl) ?_)
  refine wpAny_bind ?_
  show wpAny _ _ (compareOp .GtE (.int a t) (.int b u)) _ _ _
  exact PyProof.Rows.ge_int (wpAny_pure ⟨_, rfl, po q⟩)
theorem W_Join {v1 v2 : PySem.Expr} {rest : List PySem.Expr} {pos : Pos} {Q : Value → Heap → Prop} (x : W C A (joinParts Str.empty (evalEach (v1 :: v2 :: rest) en)) Q E h) : W C A (eval (.JoinedStr (v1 :: v2 :: rest) pos) en) Q E h := x
theorem W_join_nil {out : Str} {Q : Value → Heap → Prop} (hz : out.length ≤ 5000) (q : ∀ t, Q (.str out t) h) : W C A (joinParts out (evalEach [] en)) Q E h := fun k => joinParts_nil (po (q _)) (by rw [sizeLine_eq]; omega)
theorem W_join_cons {out : Str} {y : PySem.Expr} {rest : List PySem.Expr} {Q : Value → Heap → Prop} (x : W C A (eval y en) (fun v h1 => ∃ s t, v = .str s t ∧ (out ++ s).length ≤ 5000 ∧ W C A (joinParts (out ++ s) (evalEach rest en)) Q E h1) E h) : W C A (joinParts out (evalEach (y :: rest) en)) Q E h := fun k =>
  joinParts_cons (wpAny_mono (x k) (fun v s1 z => by
    obtain ⟨h1, k1, rfl, s, t, rfl, hz, z⟩ := z
    exact ⟨by rw [sizeLine_eq]; omega, z k1⟩) fun _ _ z => z)
theorem W_joinB {out : Str} {m : Nat} {y : PySem.Expr} {rest : List PySem.Expr} {Q : Value → Heap → Prop} (hm : out.length ≤ m) (x : W C A (eval y en) (fun v h1 => ∃ s t j, v = .str s t ∧ s.length ≤ j ∧ m + j ≤ 5000 ∧ ∀ out' : Str, out'.length ≤ m + j → W C A (joinParts out' (evalEach rest en)) Q E h1) E h) : W C A (joinParts out (evalEach (y :: rest) en)) Q E h :=
  W_join_cons (W_mono x (fun v h1 ⟨s, t, j, e, hs, hj, q⟩ => ⟨s, t, e, by rw [strLen_append]; omega, q _ (by rw [strLen_append]; omega)⟩) fun _ _ z => z)
theorem W_FV {e : PySem.Expr} {pos : Pos} {Q : Value → Heap → Prop} (x : W C A (eval e en) (fun v h1 => W C A (formatField v Str.empty) Q E h1) E h) : W C A (eval (.FormattedValue e (-1) none pos) en) Q E h := fun k =>
  PyProof.Rows.FormattedValue_plain (wpAny_mono (x k) (fun v s1 ⟨h1, k1, e, z⟩ => e ▸ z k1) fun _ _ z => z)
theorem W_fmt_str {s : Str} {Q : Value → Heap → Prop} (hz : s.length ≤ 5000) (q : ∀ t, Q (.str s t) h) : W C A (formatField (.str s t) Str.empty) Q E h := fun k =>
  PyProof.Rows.formatField_str (fun t' tk => po (q _)) (by rw [sizeLine_eq]; omega)
theorem W_fmt_int {i : Int} {Q : Value → Heap → Prop} (hz : i.natAbs < 1000) (q : ∀ s t, s.length ≤ 10 → Q (.str s t) h) : W C A (formatField (.int i t) Str.empty) Q E h := fun k => by
  have hl : i.natAbs.log2 < 1920 := by
    by_cases h0 : i.natAbs = 0
    · rw [h0]; decide
    · exact (Nat.log2_lt h0).mpr (Nat.lt_of_lt_of_le hz (Nat.le_trans (show 1000 ≤ 2 ^ 10 by decide) (Nat.pow_le_pow_right (by decide) (by decide))))
  refine wpAny_formatField_int (s := C.sh h k) hl (po (q _ _ ?_))
  have e := int_text_length_le10 (a := i) (k := 3) (by decide) (by simpa using hz)
  show (Str.ofString (toString i)).length ≤ 10
  rw [PySem.ofString_length]
  omega
end

end
section
set_option linter.all false
theorem lk_bool_call : typeLookup (.type "bool") "__call__" = pure none := by rw [typeLookup_type, builtinLookup_eq_fast]; kernel_rfl
section
variable {C : Cfg} {A : Around} {E : Value → Heap → Prop} {g h : Heap} {V : Led} {en : Env}
theorem W_isNone {v : Value} {Q : Value → Heap → Prop} (q : Q (.bool (v == .none)) h) : W C A (compareOp .Is v .none) Q E h := fun k => is_none (po q)
theorem W_isNotNone {v : Value} {Q : Value → Heap → Prop} (q : Q (.bool (!(v == .none))) h) : W C A (compareOp .IsNot v .none) Q E h := fun k => isNot_none (po q)
theorem same_ref {a : Addr} : isSame (.ref a) (.ref a) = (pure true : Sem Bool) := by
  unfold isSame; simp
theorem W_isRef {a : Addr} {Q : Value → Heap → Prop} (q : Q (.bool true) h) : W C A (compareOp .Is (.ref a) (.ref a)) Q E h := by
  show W C A (do return .bool (← isSame (.ref a) (.ref a))) Q E h
  rw [same_ref]; exact W_bind (W_pure (W_pure q))
theorem W_isNotRef {a : Addr} {Q : Value → Heap → Prop} (q : Q (.bool false) h) : W C A (compareOp .IsNot (.ref a) (.ref a)) Q E h := by
  show W C A (do return .bool (!(← isSame (.ref a) (.ref a)))) Q E h
  rw [same_ref]; exact W_bind (W_pure (W_pure q))
theorem W_isV {v w : Value} {b : Bool} {Q : Value → Heap → Prop} (e : isSame v w = (pure b : Sem Bool)) (q : Q (.bool b) h) : W C A (compareOp .Is v w) Q E h := by
  show W C A (do return .bool (← isSame v w)) Q E h
  rw [e]; exact W_bind (W_pure (W_pure q))
theorem W_isNotV {v w : Value} {b : Bool} {Q : Value → Heap → Prop} (e : isSame v w = (pure b : Sem Bool)) (q : Q (.bool (!b)) h) : W C A (compareOp .IsNot v w) Q E h := by
  show W C A (do return .bool (!(← isSame v w))) Q E h
  rw [e]; exact W_bind (W_pure (W_pure q))
theorem W_callable_bool {b : Bool} {Q : Value → Heap → Prop} (q : Q (.bool false) h) : W C A (call (.builtin "callable") [.bool b]) Q E h := fun k => by
  refine Calls.call_function_entry (by decide +kernel) (by decide +kernel) (show entryFor table "callable" = some Builtin.«callable» from entryFor_of_tree (by kernel_rfl)) (by unfold argsOk; kernel_rfl) ?_
  show wpAny _ _ (oneArg "callable" _ >>= _) _ _ _
  refine wpAny_bind (wpAny_of_eq (a := Value.bool b) (by kernel_rfl) ?_)
  refine wpAny_bind (wpAny_specialOf (T := "bool") (s := C.sh h k) rfl lk_bool_call ?_)
  exact wpAny_pure ⟨_, rfl, po q⟩
end

section
variable {C : Cfg} {A : Around} {E : Value → Heap → Prop} {g h : Heap} {V : Led} {en : Env} {L : Addr} {ns : List (Str × NameKind)} {xs : List Str} {cl : List (Str × Addr)}
theorem W_AssignSw2 {t e : PySem.Expr} {pos : Pos} {nms : List Str} {Q : Flow → Heap → Prop} (F : Fe en L ns xs cl)
    (hw : ∀ ge gen more lo gl ce qu fu co fr bi, swappedStores [t] e ⟨⟨.function, ns, ge, gen, more⟩, lo, gl, ce, qu, fu, co, fr, bi⟩ = pure (some nms)) (hs : swapsWith e (some t) pos.line en = pure false)
    (x : W C A (eval e en) (fun v h1 => W C A (unpackItems v nms.length none) (fun vs h2 => W C A (assignInOrder (nms.reverse.map fun n => bindName en n) vs.reverse) (fun _ h3 => Q .next h3) E h2) E h1) E h) :
    W C A (exec (.Assign [t] e pos) en) Q E h := by
  refine W_AssignSw ?_ hs x
  obtain ⟨⟨k, names, ge, gen, more⟩, lo, gl, ce, qu, fu, co, fr, bi⟩ := en
  have h1 := F.kind
  have h2 := F.names
  simp only at h1 h2
  subst h1 h2
  exact hw _ _ _ _ _ _ _ _ _ _ _
end

section
variable {C : Cfg} {A : Around} {E : Value → Heap → Prop} {g h : Heap} {V : Led} {en : Env}
theorem ae_cons {e : PySem.Expr} {rest : List PySem.Expr} (hs : isStar e = false) : assignEach (e :: rest) en = (false, assign e en) :: assignEach rest en := by
  cases e <;> first | rfl | cases hs
theorem ae_len : ∀ es : List PySem.Expr, (es.all fun e => !isStar e) = true → (assignEach es en).length = es.length ∧ (assignEach es en).findIdx? (·.1) = none
  | [], _ => ⟨rfl, rfl⟩
  | e :: r, x => by
    rw [List.all_cons, Bool.and_eq_true, Bool.not_eq_true'] at x
    have ih := ae_len r x.2
    rw [ae_cons x.1]
    exact ⟨by simp [ih.1], by simp [List.findIdx?_cons, ih.2]⟩
theorem W_asT {es : List PySem.Expr} {nn : Nat} {p : Pos} {a : Addr} {vs : List Value} {Q : Unit → Heap → Prop} (hh : A.handled = none) (H : Hp C.w.params g V h) (T : Tp g a vs) (hl : es.length = vs.length) (hs : (es.all fun e => !isStar e) = true)
    (x : ∀ h', Hp C.w.params g V h' → W C A (assignInOrder ((assignEach es en).map (·.2)) vs) Q E h') : W C A (assign (.Tuple es nn p) en (.ref a)) Q E h := by
  refine W_as_Tup (W_unpack ?_)
  rw [(ae_len es hs).1, (ae_len es hs).2]
  exact W_unpackTup hh H T hl x
theorem W_oE_nil {Q : Unit → Heap → Prop} (q : Q () h) : W C A (assignInOrder ((assignEach [] en).map (·.2)) []) Q E h := W_ord_nil q
theorem W_oE_cons {e : PySem.Expr} {rest : List PySem.Expr} {v : Value} {vs : List Value} {Q : Unit → Heap → Prop} (hs : isStar e = false) (x : W C A (assign e en v) (fun _ h1 => W C A (assignInOrder ((assignEach rest en).map (·.2)) vs) Q E h1) E h) :
    W C A (assignInOrder ((assignEach (e :: rest) en).map (·.2)) (v :: vs)) Q E h := by
  rw [ae_cons hs]; exact W_ord_cons x
end

end
section
set_option linter.all false
theorem forIn_acc {σ : Type} {s0 : σ} (f : Str × Value → σ × List (Str × Value) → Sem (ForInStep (σ × List (Str × Value)))) : ∀ (kws acc : List (Str × Value)), (∀ x ∈ kws, ∀ acc, f x (s0, acc) = pure (.yield (s0, acc ++ [x]))) → forIn kws (s0, acc) f = (pure (s0, acc ++ kws) : Sem _)
  | [], acc, _ => by rw [List.forIn_nil, List.append_nil]
  | x :: r, acc, hf => by
    rw [List.forIn_cons, hf x (.head _)]
    simp only [pure_bind]
    rw [forIn_acc f r _ fun y hy => hf y (.tail _ hy)]
    rw [List.append_assoc]; rfl
section
variable {C : Cfg} {A : Around} {E : Value → Heap → Prop} {g h : Heap} {V : Led}
theorem W_of_eq {α : Type} {m : Sem α} {a : α} {Q : α → Heap → Prop} (e : m = pure a) (q : Q a h) : W C A m Q E h := by rw [e]; exact W_pure q
theorem W_setAll {d : Addr} : ∀ (kws : List (Str × Value)) {ks : List Str} {vs : List Value} {h : Heap} {Q : PUnit → Heap → Prop}, Hp C.w.params g ((d, .sd ks vs) :: V) h → (ks ++ kws.map (·.1)).Nodup → ks.length + kws.length ≤ 1000 →
    (∀ h', Hp C.w.params g ((d, .sd (ks ++ kws.map (·.1)) (vs ++ kws.map (·.2))) :: V) h' → Q ⟨⟩ h') → W C A (forIn kws PUnit.unit fun x (_ : PUnit) => do nsSet d x.1 x.2; pure (ForInStep.yield PUnit.unit)) Q E h
  | [], ks, vs, h, Q, H, _, _, q => by
    rw [List.forIn_nil]
    exact W_pure (q h (by simpa using H))
  | (k, v) :: r, ks, vs, h, Q, H, nd, hz, q => by
    rw [List.forIn_cons]
    have nk : k ∉ ks := fun m => by
      rw [List.nodup_append] at nd
      exact nd.2.2 k m k (by simp) rfl
    refine W_bind (W_bind (W_nsSet H .head (.new nk) (by simp at hz; omega) fun h' H' => W_pure ?_))
    refine W_setAll r H' (by simpa using nd) (by simp at hz ⊢; omega) fun h' H'' => q h' (by simpa using H'')
def starBinds (va ka : Option Arg) (tv dv : Value) : List (Str × Value) := (match va with | some a => [(a.arg, tv)] | none => []) ++ (match ka with | some a => [(a.arg, dv)] | none => [])
theorem W_bind0 {fd : FuncData} {a : Arg} {pos : List Value} {Q : List (Str × Value) → Heap → Prop} (hp : fd.params = ⟨[], [], some a, [], [], none, []⟩) (hd : fd.defaults = .none) (H : Hp C.w.params g V h) (hz : pos.length ≤ 1000)
    (q : ∀ t g' h', Le g g' → Tp g' t pos → Hp C.w.params g' V h' → Q [(a.arg, .ref t)] h') : W C A (bindArgs fd ⟨pos, []⟩) Q E h := by
  unfold bindArgs
  rw [hp, hd]
  dsimp only [List.map, List.nil_append]
  refine W_bind (W_of_eq (a := ([], [])) rfl ?_)
  refine W_bind (W_of_eq (a := none) rfl ?_)
  dsimp only [Option.isNone, Bool.and_false]
  rw [if_neg (by simp)]
  simp only [List.length_nil, Nat.zero_sub, List.drop_nil, List.take_nil, List.filter_nil, List.isEmpty_nil, Bool.not_true, Bool.false_eq_true, if_false, List.zip_nil_left, List.forIn_nil, pure_bind, List.append_nil, List.filterMap_nil, List.drop_zero, List.nil_append]
  refine W_bind (W_newTuple H hz fun t g' h' l T H' => ?_)
  exact W_pure (q t g' h' l T H')
theorem W_bind0k {fd : FuncData} {a b : Arg} {pos : List Value} {kws : List (Str × Value)} {Q : List (Str × Value) → Heap → Prop} (hp : fd.params = ⟨[], [], some a, [], [], some b, []⟩) (hd : fd.defaults = .none) (H : Hp C.w.params g V h) (Wd : Wld C g) (hz : pos.length ≤ 1000)
    (nd : (kws.map (·.1)).Nodup) (hk : kws.length ≤ 1000)
    (q : ∀ t d g' h', Le g g' → Tp g' t pos → Hp C.w.params g' ((d, .sd (kws.map (·.1)) (kws.map (·.2))) :: V) h' → Q [(a.arg, .ref t), (b.arg, .ref d)] h') : W C A (bindArgs fd ⟨pos, kws⟩) Q E h := by
  unfold bindArgs
  rw [hp, hd]
  dsimp only [List.map, List.nil_append]
  refine W_bind (W_of_eq (a := ([], kws)) ?_ ?_)
  · refine (forIn_acc _ kws [] fun x _ acc => ?_).trans (by rw [List.nil_append]; rfl)
    rfl
  refine W_bind (W_of_eq (a := none) rfl ?_)
  dsimp only [Option.isNone, Bool.and_false]
  rw [if_neg (by simp)]
  simp only [List.length_nil, Nat.zero_sub, List.drop_nil, List.take_nil, List.filter_nil, List.isEmpty_nil, Bool.not_true, Bool.false_eq_true, if_false, List.zip_nil_left, List.forIn_nil, pure_bind, List.append_nil, List.filterMap_nil, List.drop_zero, List.nil_append]
  refine W_bind (W_newTuple H hz fun t g' h' l T H' => ?_)
  rw [if_neg (by rw [sizeLine_eq]; omega)]
  refine W_bind (W_alloc ?_)
  have H2 := H'.own (s := .sd [] []) (o := { cls := .type "dict", data := .dict #[] }) ⟨[], 0, Heap.get?_push_size _ rfl, .nil, (Wd.up l).ne1 H'.le⟩
  refine W_bind (W_setAll kws H2 (by simpa using nd) (by simp; omega) fun h' H3 => ?_)
  exact W_pure (q t _ g' h' l T (by simpa using H3))
theorem W_bind1k {fd : FuncData} {a1 b : Arg} {va : Option Arg} {v : Value} {pos : List Value} {kws : List (Str × Value)} {Q : List (Str × Value) → Heap → Prop} (hp : fd.params = ⟨[], [a1], va, [], [], some b, []⟩) (hd : fd.defaults = .none) (H : Hp C.w.params g V h) (Wd : Wld C g) (hz : pos.length ≤ 1000)
    (hv : va = none → pos = []) (nd : (kws.map (·.1)).Nodup) (hk : kws.length ≤ 1000) (hn : a1.arg ∉ kws.map (·.1))
    (q1 : ∀ a, va = some a → ∀ t d g' h', Le g g' → Tp g' t pos → Hp C.w.params g' ((d, .sd (kws.map (·.1)) (kws.map (·.2))) :: V) h' → Q [(a1.arg, v), (a.arg, .ref t), (b.arg, .ref d)] h')
    (q2 : va = none → ∀ d h', Hp C.w.params g ((d, .sd (kws.map (·.1)) (kws.map (·.2))) :: V) h' → Q [(a1.arg, v), (b.arg, .ref d)] h') : W C A (bindArgs fd ⟨v :: pos, kws⟩) Q E h := by
  unfold bindArgs
  rw [hp, hd]
  dsimp only [List.map, List.nil_append]
  refine W_bind (W_of_eq (a := ([(a1.arg, v)], kws)) ?_ ?_)
  · refine (forIn_acc _ kws [] fun x hx acc => ?_).trans (by rw [List.nil_append]; rfl)
    have : a1.arg ≠ x.1 := fun e => hn (by rw [e]; exact List.mem_map_of_mem (f := (·.1)) hx)
    exact (if_neg (by simp [Ne.symm this])).trans (if_pos rfl)
  refine W_bind (W_of_eq (a := none) rfl ?_)
  dsimp only
  have c1 : (decide ((v :: pos).length > [a1.arg].length) && va.isNone) = false := by
    cases va with
    | none => simp [hv rfl]
    | some _ => simp
  rw [if_neg (by rw [c1]; exact Bool.false_ne_true)]
  simp only [Option.getD_none, List.length_nil, List.length_cons, Nat.zero_add, Nat.zero_sub, List.drop_nil, List.take_nil, Nat.sub_zero, List.take_succ_cons, List.filter_cons, List.lookup_cons, beq_self_eq_true, Option.isNone_some, Bool.false_eq_true, if_false, List.filter_nil, List.isEmpty_nil, Bool.not_true, List.zip_nil_right, List.forIn_nil, pure_bind, List.append_nil, List.filterMap_cons, Option.map_some, List.filterMap_nil, List.drop_succ_cons, List.drop_zero]
  cases va with
  | some a =>
    refine W_bind (W_newTuple H hz fun t g' h' l T H' => ?_)
    rw [if_neg (by rw [sizeLine_eq]; omega)]
    refine W_bind (W_alloc ?_)
    have H2 := H'.own (s := .sd [] []) (o := { cls := .type "dict", data := .dict #[] }) ⟨[], 0, Heap.get?_push_size _ rfl, .nil, (Wd.up l).ne1 H'.le⟩
    refine W_bind (W_setAll kws H2 (by simpa using nd) (by simp; omega) fun h' H3 => ?_)
    exact W_pure (q1 a rfl t _ g' h' l T (by simpa using H3))
  | none =>
    dsimp only
    rw [if_neg (by rw [sizeLine_eq]; omega)]
    refine W_bind (W_alloc ?_)
    have H2 := H.own (s := .sd [] []) (o := { cls := .type "dict", data := .dict #[] }) ⟨[], 0, Heap.get?_push_size _ rfl, .nil, Wd.ne1 H.le⟩
    refine W_bind (W_setAll kws H2 (by simpa using nd) (by simp; omega) fun h' H3 => ?_)
    exact W_pure (q2 rfl _ h' (by simpa using H3))
end

section
variable {C : Cfg} {A : Around} {E : Value → Heap → Prop} {h g : Heap} {V : Led}
def En (C : Cfg) (A : Around) (fd : FuncData) (f : Addr) (ns : List (Str × NameKind)) (xs : List Str) (body : List Stmt) (R : Result → Heap → Prop) (n : Nat) (g : Heap) (binds : List (Str × Value)) (h1 : Heap) : Prop :=
  ∃ g1 V1 vs, Le g g1 ∧ Hp C.w.params g1 V1 h1 ∧ Stk A V1 ∧ (binds.all fun y => ns.lookup y.1 == some .local) = true ∧ xs.map (fun x => binds.reverse.lookup x) = vs ∧
    ∀ L en A' h', Hp C.w.params g1 ((L, .frm xs vs) :: V1) h' → Fe en L ns xs fd.closure → en.func = some f ∧ en.qual = fd.qualname ++ ".<locals>." ∧ en.code = fd.code → en.scope = fd.scope → Sb A' en L V1 → Rm A' n → W C A' (execs body en) (Bq R) (Be C A' en R) h'
theorem CW_fnB {f : Addr} {o : Obj} {fd : FuncData} {body : List Stmt} {args : Args} {R : Result → Heap → Prop} {ns : List (Str × NameKind)} {xs : List Str} {n : Nat}
    (le : Le g h) (Wd : Wld C g) (r : Rm A (n + 1)) (ho : g.get? f = some o) (hd : o.data = .func fd) (hcd : g.CodeRec fd.code fd.qualname) (hbody : fd.body = .stmts body)
    (hns : fd.scope.names = ns) (hgl : fd.globals = mainGlobals ∧ fd.builtins = builtinsNs)
    (hco : (fd.scope.isCoroutine = false ∧ fd.scope.isGenerator = false) ∧ fd.scope.kind = .function)
    (hcell : (ns.all fun x => x.2 != .cell) = true)
    (hxs : (xs.all fun x => ns.lookup x == some .local && !(x == ("__debug__" : Str))) = true) (hnd : xs.Nodup)
    (bind : W C A.in1 (bindArgs fd args) (fun binds h1 => En C A fd f ns xs body R n g binds h1) No h) :
    CW C A (.call (.ref f) args) R h := fun k => by
  refine codeAny_call_function (s := C.sh h k) r.lim (le _ _ ho) hd hco.1.1 hco.1.2 hbody (hcd.keeps le) ?_
  refine wpAny_mono (bind k) (fun binds s1 z => ?_) fun e s1 z => no_of z
  obtain ⟨h1, k1, rfl, g1, V1, vs, lg, H, S, hloc, hvs, x⟩ := z
  refine wpAny_newFunctionEnv (fun x hx q => ?_) (fun y hy => ?_) (fun h' hn hs => ⟨?_, ?_⟩) hco.2
  · rw [hns] at hx
    have := List.all_eq_true.mp hcell x hx
    rw [q] at this; cases this
  · rw [hns]; exact beq_iff_eq.mp (List.all_eq_true.mp hloc y hy)
  · exact ((Wd.up lg).lim.keeps H.le).fresh _ hs
  · have F : Fe (newEnv fd.scope h1.objs.size fd.globals fd.closure (fd.qualname ++ ".<locals>.") (some f) fd.code none fd.builtins) h1.objs.size ns xs fd.closure := by
      refine ⟨hco.2, hns, rfl, hgl.1, hgl.2, rfl, fun y hy => ?_, hnd⟩
      have := List.all_eq_true.mp hxs y hy
      simp only [Bool.and_eq_true, beq_iff_eq, Bool.not_eq_true'] at this
      exact this
    have ot : ∀ b x, b ≠ h1.objs.size → (h1.push { cls := .type "frame", data := .dict #[] }).get? b = some x → h'.get? b = some x := fun b x hb e => (hs.2 b hb).trans e
    have H' : Hp C.w.params g1 ((h1.objs.size, .frm xs vs) :: V1) h' := by
      have H1 := H.own (s := .frm [] []) (o := { cls := .type "frame", data := .dict #[] }) ⟨_, Heap.Ns.new _ _, rfl, fun i x v e _ => by simp at e⟩
      refine H1.upd .head ⟨_, hn, ?_⟩ ot
      rw [← hvs]
      refine ⟨by simp, fun i y v a b => ?_⟩
      rw [List.getElem?_map, a] at b
      exact Option.some.inj b
    have S' : Sb (A.deeper (newEnv fd.scope h1.objs.size fd.globals fd.closure (fd.qualname ++ ".<locals>.") (some f) fd.code none fd.builtins)) (newEnv fd.scope h1.objs.size fd.globals fd.closure (fd.qualname ++ ".<locals>.") (some f) fd.code none fd.builtins) h1.objs.size V1 := by
      obtain ⟨envs, e, s⟩ := S
      exact ⟨_, Around.frames_deeper e, by rw [F.kind]; decide, rfl, s⟩
    exact CW_func (x _ _ _ _ H' F ⟨rfl, rfl, rfl⟩ rfl S' r.deeper) _
end

section
variable {C : Cfg} {A : Around} {E : Value → Heap → Prop} {h g : Heap} {V V' : Led}
theorem W_extend {l b : Addr} {items more : List Value} {Q : Value → Heap → Prop} (H : Hp C.w.params g V h) (U : Up l (.lst items) (.lst (items ++ more)) V V') (hb : Lst h b more) (hz : items.length + more.length ≤ 1000)
    (q : ∀ h', Hp C.w.params g V' h' → Q .none h') : W C A (call (.builtin "list.extend") [.ref l, .ref b]) Q E h := fun k => by
  have Ls : Lst h l items := H.at U.mem
  obtain ⟨n, e⟩ := Ls
  obtain ⟨n2, e2⟩ := hb
  have hs : items.toArray.size + more.toArray.size ≤ 1000 := by simpa using hz
  refine call_meets (s := C.sh h k) F.slot_list_extend ⟨_, e, rfl⟩ F.entry_list_extend (F.args_list_extend_2 _ _) (PySem.AutoSeq1.list_extend_list_list_0 l items.toArray n b more.toArray n2 ?_ (by rw [sizeLine_eq]; omega) (by rw [sizeLine_eq]; omega)) ⟨e, e2, ?_⟩
  · have hlt : Builtin.List.listTooLong (items.toArray.size + more.toArray.size) = false := by
      unfold Builtin.List.listTooLong
      rw [sizeLine_eq]
      exact decide_eq_false (by omega)
    rw [hlt, Bool.and_false]
    exact Bool.false_ne_true
  refine po (q _ (H.upd U ?_ (upd_other h l _)))
  have e3 := Heap.get?_update_self (h := h) (Obj.mapSeq fun x => x ++ more.toArray) e rfl
  simp only [Obj.mapSeq, List.append_toArray] at e3
  exact ⟨_, e3⟩
theorem W_tuple_list {l : Addr} {items : List Value} {Q : Value → Heap → Prop} (H : Hp C.w.params g V h) (L : Lst h l items) (hz : items.length ≤ 1000) (q : ∀ a g' h', Le g g' → Tp g' a items → Hp C.w.params g' V h' → Q (.ref a) h') : W C A (call (.type "tuple") [.ref l]) Q E h := fun k => by
  refine call_tuple_list (s := C.sh h k) L.is (fun h' kp => ?_) (by rw [List.size_toArray, sizeLine_eq]; omega)
  have kp : ∀ b o, h.get? b = some o → h'.get? b = some o := kp
  have H1 : Hp C.w.params g V h' := ⟨fun b o e => kp b o (H.le b o e), fun p hp => (H.sat p hp).of_get fun o e => kp _ o e, H.out, H.nd⟩
  obtain ⟨g', l', e, H'⟩ := H1.keep (o := { cls := .type "tuple", data := .seq items.toArray }) rfl
  exact po (q _ g' _ l' ⟨0, e⟩ H')
end

end
section
set_option linter.all false
section
variable {C : Cfg} {A : Around} {E : Value → Heap → Prop} {g h : Heap} {V : Led} {en : Env}
def Sq (h : Heap) (a : Addr) (vs : List Value) : Prop := Lst h a vs ∨ Tp h a vs
theorem W_collect {a : Addr} {vs : List Value} {Q : List Value → Heap → Prop} (H : Hp C.w.params g V h) (s : Sq h a vs) (hz : vs.length ≤ 1000) (q : ∀ h', Hp C.w.params g V h' → Q vs h') : W C A (collect (.ref a)) Q E h := fun k => by
  have fin : ∀ h', (∀ b o', (C.sh h k).heap.get? b = some o' → h'.get? b = some o') → Po C Q vs.toArray.toList { C.sh h k with heap := h' } := fun h' kp => by
    have kp : ∀ b o, h.get? b = some o → h'.get? b = some o := kp
    exact po (q h' ⟨fun b o e => kp b o (H.le b o e), fun p hp => (H.sat p hp).of_get fun o e => kp _ o e, H.out, H.nd⟩)
  have hz' : vs.toArray.size ≤ sizeLine := by rw [List.size_toArray, sizeLine_eq]; omega
  rcases s with ⟨n, e⟩ | ⟨n, e⟩
  · exact wpAny_collect_seq (s := C.sh h k) a (T := "list") (.inl rfl) e rfl rfl fin hz'
  · exact wpAny_collect_seq (s := C.sh h k) a (T := "tuple") (.inr rfl) e rfl rfl fin hz'
theorem W_nia {a : Addr} {vs : List Value} {Q : Bool → Heap → Prop} (s : Sq h a vs) (q : Q false h) : W C A (notIterableAtAll (.ref a)) Q E h := fun k => by
  unfold notIterableAtAll
  rcases s with ⟨n, e⟩ | ⟨n, e⟩
  · exact wpAny_bind (wpAny_specialOf (s := C.sh h k) (T := "list") ⟨_, e, rfl⟩ PySem.F.slot_list_iter.lookup (wpAny_pure (po q)))
  · exact wpAny_bind (wpAny_specialOf (s := C.sh h k) (T := "tuple") ⟨_, e, rfl⟩ PySem.F.slot_tuple_iter.lookup (wpAny_pure (po q)))
theorem W_argsLone {e : PySem.Expr} {p pos : Pos} {f : Value} {Q : Args → Heap → Prop} (x : W C A (eval e en) (fun v h1 => ∃ a vs g1 V1, v = .ref a ∧ Sq h1 a vs ∧ Hp C.w.params g1 V1 h1 ∧ vs.length ≤ 1000 ∧ ∀ h', Hp C.w.params g1 V1 h' → Q ⟨vs, []⟩ h') E h) :
    W C A (evalArgs f true (backTo pos (starEach [.Starred e p] en)) (backToKw pos (keywordEach [] en))) Q E h := fun k => by
  refine ks_lone (x := eval e en) (pos := pos) (wpAny_mono (x k) (fun v s1 z => ?_) fun _ _ z => z)
  obtain ⟨h1, k1, rfl, a, vs, g1, V1, rfl, s, H, hz, q⟩ := z
  unfold StarOf
  refine wpAny_mono (W_nia (C := C) (A := A) (E := E) (Q := fun b h' => b = false ∧ h' = h1) s ⟨rfl, rfl⟩ k1) (fun b s2 z => ?_) fun _ _ z => z
  obtain ⟨h2, k2, rfl, rfl, rfl⟩ := z
  exact ⟨rfl, wpAny_mono (W_collect (C := C) (A := A) (E := E) (Q := fun vs' h' => vs' = vs ∧ Hp C.w.params g1 V1 h') H s hz (fun h' H' => ⟨rfl, H'⟩) k2) (fun vs' s3 ⟨h3, k3, e3, e4, H3⟩ => by subst e3 e4; exact po (q h3 H3)) fun _ _ z => z⟩
theorem W_truthy_list {l : Addr} {vs : List Value} {Q : Bool → Heap → Prop} (L : Lst h l vs) (hz : vs.length ≤ 1000) (q : Q (!vs.isEmpty) h) : W C A (truthy (.ref l)) Q E h := fun k =>
  wpAny_truthy_list (s := C.sh h k) L.is (by simp; omega) (by simpa using po q)
theorem lk_fn_bool : typeLookup (.type "function") "__bool__" = pure none := by rw [typeLookup_type, builtinLookup_eq_fast]; kernel_rfl
theorem lk_fn_len : typeLookup (.type "function") "__len__" = pure none := by rw [typeLookup_type, builtinLookup_eq_fast]; kernel_rfl
theorem W_truthy_obj {a : Addr} {t : Value} {Q : Bool → Heap → Prop} (T : Looks C.M h (typeOf (.ref a)) t) (L1 : Looks C.M h (typeLookup t "__bool__") none) (L2 : Looks C.M h (typeLookup t "__len__") none) (q : Q true h) : W C A (truthy (.ref a)) Q E h := fun k => by
  unfold truthy
  refine wpAny_bind (m := callSpecial? (.ref a) (Str.ofString "__bool__")) (wpAny_bind (wpAny_bind (T.here (s := C.sh h k) (L1.here (wpAny_pure ?_)))))
  refine wpAny_bind (wpAny_bind (T.here (s := C.sh h k) (L2.here ?_)))
  exact wpAny_pure (po q)
theorem W_truthy_fn {a : Addr} {o : Obj} {Q : Bool → Heap → Prop} (ho : h.get? a = some o) (hc : o.cls = .type "function") (q : Q true h) : W C A (truthy (.ref a)) Q E h :=
  W_truthy_obj (kitAt_ty _ _ ⟨o, ho, hc⟩) (Looks.of_pure lk_fn_bool) (Looks.of_pure lk_fn_len) q
theorem tr_ok (P : Params) : ([430, 465].all fun c => findIn (KF P) (.ref c) "__bool__" == some none && findIn (KF P) (.ref c) "__len__" == some none) = true := by kernel_rfl
theorem W_truthy_inst {a c : Addr} {ks : List Str} {vs : List Value} {Q : Bool → Heap → Prop} (X : (KF C.w.params).In h) (I : Inst C.w.params h a c ks vs) (m : c ∈ [430, 465]) (q : Q true h) : W C A (truthy (.ref a)) Q E h := by
  obtain ⟨dx, es, n, r, I⟩ := I.at
  have e := List.all_eq_true.mp (tr_ok C.w.params) c m
  simp only [Bool.and_eq_true, beq_iff_eq] at e
  exact W_truthy_obj I.type (looks_findIn X e.1) (looks_findIn X e.2) q
theorem isLN_ok (P : Params) : (kitAny (KF P) (.type "function") [.type "list", .type "tuple"] == some false && kitAny (KF P) (.ref 430) [.type "list", .type "tuple"] == some false) = true := by kernel_rfl
theorem W_isi_ltF {x tp : Addr} {o : Obj} {Q : Value → Heap → Prop} (X : (KF C.w.params).In h) (ho : h.get? x = some o) (hc : o.cls = .type "function") (T : Tp h tp [.type "list", .type "tuple"]) (q : Q (.bool false) h) : W C A (call (.builtin "isinstance") [.ref x, .ref tp]) Q E h := fun k => by
  obtain ⟨n2, e2⟩ := T
  have e := isLN_ok C.w.params
  simp only [Bool.and_eq_true, beq_iff_eq] at e
  exact kia_tup (s := C.sh h k) kitx_fn X ⟨o, ho, hc⟩ e2 e.1 (by intro q; cases q) fun tk => po q
theorem W_isi_ltI {x tp : Addr} {ks : List Str} {vs : List Value} {Q : Value → Heap → Prop} (X : (KF C.w.params).In h) (I : Inst C.w.params h x 430 ks vs) (T : Tp h tp [.type "list", .type "tuple"]) (q : Q (.bool false) h) : W C A (call (.builtin "isinstance") [.ref x, .ref tp]) Q E h := fun k => by
  obtain ⟨n2, e2⟩ := T
  obtain ⟨dx, es, n, r, I⟩ := I.at
  have e := isLN_ok C.w.params
  simp only [Bool.and_eq_true, beq_iff_eq] at e
  exact kia_tup (s := C.sh h k) (kitx_in (by decide)) X I e2 e.2 (by intro q; cases q) fun tk => po q
theorem W_cut {s : Stmt} {K : Heap → Prop} {Q : Flow → Heap → Prop} (Mid : Heap → Prop) (x : W C A (exec s en) (fun f h' => f = .next ∧ Mid h') E h) (k : ∀ h', Mid h' → K h') : W C A (exec s en) (Fl Q K) E h :=
  W_mono x (fun f h' ⟨e, m⟩ => by subst e; exact k h' m) fun _ _ z => z
end

end
section
set_option linter.all false
section
variable {C : Cfg} {A : Around} {E : Value → Heap → Prop} {g h : Heap} {V : Led} {en : Env}
theorem W_addL {a b : Addr} {xs ys : List Value} {Q : Value → Heap → Prop} (H : Hp C.w.params g V h) (L1 : Lst h a xs) (L2 : Lst h b ys) (hz : xs.length + ys.length ≤ 1000) (q : ∀ D h', Hp C.w.params g ((D, .lst (xs ++ ys)) :: V) h' → Q (.ref D) h') : W C A (binaryOp .Add (.ref a) (.ref b)) Q E h := fun k => by
  obtain ⟨n1, e1⟩ := L1
  obtain ⟨n2, e2⟩ := L2
  refine PySem.P.add_list (s := C.sh h k) (items := xs.toArray) (items2 := ys.toArray) (n := n1) (n2 := n2) e1 e2 ?_ (by simp only [List.size_toArray]; rw [sizeLine_eq]; omega)
  have := H.own (s := .lst (xs ++ ys)) (o := { cls := .type "list", data := .seq (xs.toArray ++ ys.toArray) }) ⟨0, by rw [List.append_toArray]; exact Heap.get?_push_size _ rfl⟩
  exact po (q _ _ this)
theorem W_While0 {test : PySem.Expr} {body : List Stmt} {pos : Pos} {Q : Flow → Heap → Prop} (x : W C A (isTrue test en (eval test en)) (fun b h' => b = false ∧ Q .next h') No h) : W C A (exec (.While test body [] pos) en) Q E h := fun k => by
  refine wpAny_While (codeAny_whileLoop (fun m s => s = C.sh h k) (fun m s hs => ?_) 0 rfl)
  subst hs
  refine wpAny_mono (x k) (fun b s2 z => ?_) fun e s2 z => no_of z
  obtain ⟨h2, k2, rfl, rfl, z⟩ := z
  rw [if_neg Bool.false_ne_true]
  exact wpAny_pure (po z)
def isFrm : Sp → Bool
  | .frm _ _ => true
  | _ => false
theorem Sb.less {L : Addr} {p : Addr × Sp} (s : Sb A en L (p :: V)) (e : isFrm p.2 = false) : Sb A en L V := by
  obtain ⟨envs, a, k, f, r⟩ := s
  refine ⟨envs, a, k, f, fun x hx => ?_⟩
  obtain ⟨k', L', xs, vs, f', m⟩ := r x hx
  refine ⟨k', L', xs, vs, f', ?_⟩
  cases m with
  | head => cases e
  | tail _ m => exact m
theorem W_Dict0 {pos : Pos} {Q : Value → Heap → Prop} (H : Hp C.w.params g V h) (Wd : Wld C g) (q : ∀ a h', Hp C.w.params g ((a, .sd [] []) :: V) h' → Q (.ref a) h') : W C A (eval (.Dict [] [] pos) en) Q E h := fun k =>
  wpAny_Dict_empty (po (q _ _ (H.own (s := .sd [] []) ⟨[], 0, Heap.get?_push_size _ rfl, .nil, Wd.ne1 H.le⟩)))
end

end
section
set_option linter.all false
section
variable {C : Cfg} {A : Around} {E : Value → Heap → Prop} {g h : Heap} {V : Led} {en : Env} {L : Addr}
theorem W_Try {T : String} {body : List Stmt} {t : PySem.Expr} {b0 : Stmt} {suite : List Stmt} {hp pos : Pos} {Q : Flow → Heap → Prop}
    (hexc : isSubtype (.type T) (.type "BaseException") = pure true) (hnt : isSubtype (.type ((Manifest.find? T).elim "type" fun x => x.metatype)) (.type "tuple") = pure false)
    (x : W C A (execs body en) Q (fun e h' => ∃ ea X st g V, e = .ref ea ∧ isSubtype (.type X) (.type T) = pure true ∧ Ex C.w.params (.type X) ea st g V h' ∧ (st = none ∨ st = some .none ∨ st = some (rawInt L)) ∧ Sf A en L V ∧
      ∀ h1, Ex C.w.params (.type X) ea (some .none) g V h1 → W C (A.mark (some (.ref ea))) (eval t en) (fun c h2 => c = .type T ∧ ∃ fl g2 V2, Ex C.w.params (.type X) ea (some fl) g2 V2 h2 ∧ ∀ h3, Ex C.w.params (.type X) ea (some .none) g2 V2 h3 → W C (A.mark (some (.ref ea))) (execs (b0 :: suite) en) Q No h3) No h1) h) :
    W C A (exec (.Try body [.ExceptHandler (some t) none (b0 :: suite) hp] [] [] pos) en) Q E h := fun k => by
  refine wpAny_Try_except (wpAny_mono (x k) (fun f s1 z => ?_) fun e s1 z => ?_)
  · obtain ⟨h1, k1, rfl, z⟩ := z
    cases f <;> first | exact po z | exact wpAny_pure (po z)
  · obtain ⟨h1, k1, rfl, ea, X, st, g, V, rfl, hsub, ex, hst, S, q⟩ := z
    refine wpAny_mono (W_note (C := C) (A := A) (E := E) (Q := fun _ h' => Ex C.w.params (.type X) ea (some (rawInt L)) g V h') S ex hst (fun h' X' => X') k1) (fun _ s2 z => ?_) fun _ _ z => z
    obtain ⟨h2, k2, rfl, ex2⟩ := z
    refine wpAny_mono (W_flight (C := C) (A := A) (E := E) (fr := none) (Q := fun _ h' => Ex C.w.params (.type X) ea (some .none) g V h') ex2 (fun h' X' => X') k2) (fun _ s3 z => ?_) fun _ _ z => z
    obtain ⟨h3, k3, rfl, ex3⟩ := z
    refine wpAny_handleBy_builtin (X := X) (b := true) hexc hnt hsub (wpAny_mono (q h3 ex3 k3) (fun c s4 z => ?_) fun _ _ z => no_of z)
    obtain ⟨h4, k4, rfl, rfl, fl, g2, V2, ex4, q4⟩ := z
    refine ⟨rfl, ?_, ?_⟩
    · obtain ⟨_, _, _, oe, vs, a0, he, hc, _⟩ := ex4
      exact ⟨oe, he, hc⟩
    · refine wpAny_mono (W_flight (C := C) (A := A.mark (some (.ref ea))) (E := No) (fr := none) (Q := fun _ h' => Ex C.w.params (.type X) ea (some .none) g2 V2 h') ex4 (fun h' X' => X') k4) (fun _ s5 z => ?_) fun _ _ z => no_of z
      obtain ⟨h5, k5, rfl, ex5⟩ := z
      exact wpAny_mono (q4 h5 ex5 k5) (fun f s6 z => z) fun _ _ z => no_of z
theorem W_neg {a : Int} {t : Tok} {Q : Value → Heap → Prop} (q : ∀ k, Q (.int (-a) k) h) : W C A (unaryOp .USub (.int a t)) Q E h := fun _ => PyProof.Rows.neg_int (po (q _))
theorem W_sub_listL {ve se : PySem.Expr} {l : Addr} {vs : List Value} {x : Value} {t : Tok} {Q : Value → Heap → Prop} (T : Lst h l vs) (hx : vs[vs.length - 1]? = some x) (q : Q x h) : W C A (subscriptTail ve se (.ref l) (.int (-1) t)) Q E h := by
  have hl : 0 < vs.length := by
    cases vs with
    | nil => simp at hx
    | cons _ _ => simp
  refine W_tail (fun _ => T.is.typeIs) slot_list_getitem.lookup fun k => wpAny_getItem_list_neg (s := C.sh h k) T.is (by decide) (by simp; omega) (by decide) ?_ (po q)
  have e : ((-1 : Int) + (vs.toArray.size : Int)).toNat = vs.length - 1 := by rw [List.size_toArray]; omega
  rw [e]; simpa using hx
theorem W_notv {v : Value} {Q : Value → Heap → Prop} (x : W C A (truthy v) (fun b h' => Q (.bool (!b)) h') E h) : W C A (unaryOp .Not v) Q E h := by
  unfold unaryOp
  refine W_holding ?_
  show W C A (if (UnaryOp.Not == UnaryOp.Not) = true then (do return .bool (!(← truthy v))) else _) Q E h
  rw [if_pos (by decide)]
  exact W_bind (W_mono x (fun _ _ z => W_pure z) fun _ _ z => z)
theorem W_range1 {n : Int} {t : Tok} {Q : Value → Heap → Prop} (H : Hp C.w.params g V h) (q : ∀ r g' h', Le g g' → Rg g' r 0 n 1 → Hp C.w.params g' V h' → Q (.ref r) h') : W C A (call (.type "range") [.int n t]) Q E h := fun k => by
  refine call_range_1 (s := C.sh h k) ?_
  obtain ⟨g', l, e, H'⟩ := H.keep (o := { cls := .type "range", data := .fields #[.int 0 k, .int n t, .int 1 (k + 1)] }) rfl
  exact po (q _ g' _ l ⟨_, _, _, e⟩ H')
end

end
section
set_option linter.all false
structure Dr (C : Cfg) (A : Around) (it : Value) (n : Nat) (S : Nat → Led) (P : Nat → Value → Prop) (g0 : Heap) : Prop where
  next : ∀ {i : Nat} {g h : Heap} {V : Led} {Q : Value → Heap → Prop} {E : Value → Heap → Prop}, i < n → Le g0 g → Hp C.w.params g (V ++ S i) h → (∀ v h', P i v → Hp C.w.params g (V ++ S (i + 1)) h' → Q v h') → W C A (Builtin.SmallTypes.nextOf it) Q E h
  done : ∀ {g h : Heap} {V : Led} {Q : Value → Heap → Prop} {E : Value → Heap → Prop}, Le g0 g → Hp C.w.params g (V ++ S n) h → (∀ e h', Hp C.w.params g V h' → (∃ o, h'.get? e = some o ∧ o.cls = .type "StopIteration") → E (.ref e) h') → W C A (Builtin.SmallTypes.nextOf it) Q E h
section
variable {prog : Program} {w : World} {A : Around} {E : Value → Shared → Prop} {s : Shared}
theorem nextOf_tup {it t : Addr} {i : Nat} {items : Array Value} {x : Value} {Q : Value → Shared → Prop} (hit : s.heap.IsTupleIter it t i) (ht : s.heap.IsTuple t items) (hx : items[i]? = some x)
    (hQ : ∀ h', h'.IsTupleIter it t (i + 1) → Heap.SameBut it s.heap h' → Q x { s with heap := h' }) : wpAny (model prog w) A (Builtin.SmallTypes.nextOf (.ref it)) Q E s := by
  have T := hit.typeIs
  obtain ⟨o, ho, hc, hd⟩ := hit
  obtain ⟨ol, hol, _, nl, hdl⟩ := ht
  unfold Builtin.SmallTypes.nextOf
  refine wpAny_bind (wpAny_callSpecial?_slot (name := Str.ofString "__next__") T F.slot_tuple_iterator_next (wpAny_call_entry F.slot_tuple_iterator_next T F.entry_tuple_iterator_next ?_ (F.args_tuple_iterator_next_1 _)))
  show wpAny _ _ (field (.ref it) 0 >>= _) _ _ s
  refine wpAny_bind (wpAny_field ho hd (x := .ref t) rfl ?_)
  show wpAny _ _ (if (Value.ref t == Value.none) = true then _ else _) _ _ s
  rw [if_neg (show ¬ ((Value.ref t == Value.none) = true) from Bool.false_ne_true)]
  show wpAny _ _ (field (.ref it) 1 >>= _) _ _ s
  refine wpAny_bind (wpAny_field ho hd (x := .int i 0) rfl ?_)
  show wpAny _ _ (seqItems? (.ref t) >>= _) _ _ s
  refine wpAny_bind (wpAny_seqItems hol hdl ?_)
  simp only [Int.toNat_natCast, hx]
  refine wpAny_bind (wpAny_setField ho hd (by simp) (wpAny_pure ⟨x, rfl, wpAny_pure (hQ _ ?_ (Heap.SameBut.update ..))⟩))
  exact ⟨_, Heap.get?_update_self _ ho (Obj.isFreed_of_fields (Obj.data_mapFields hd _)), (Obj.cls_mapFields ..).trans hc, by rw [Obj.data_mapFields hd]; simp [rawInt]⟩
theorem nextOf_tup_end {it t : Addr} {i : Nat} {items : Array Value} {Q : Value → Shared → Prop} (hh : A.handled = none) (hit : s.heap.IsTupleIter it t i) (ht : s.heap.IsTuple t items) (hx : items[i]? = none)
    (hE : ∀ h' e, Heap.ExtBut it s.heap h' → (∃ o, h'.get? e = some o ∧ o.cls = .type "StopIteration") → E (.ref e) { s with heap := h' }) : wpAny (model prog w) A (Builtin.SmallTypes.nextOf (.ref it)) Q E s := by
  have T := hit.typeIs
  obtain ⟨o, ho, hc, hd⟩ := hit
  obtain ⟨ol, hol, _, nl, hdl⟩ := ht
  unfold Builtin.SmallTypes.nextOf
  refine wpAny_bind (wpAny_callSpecial?_slot (name := Str.ofString "__next__") T F.slot_tuple_iterator_next (wpAny_call_entry F.slot_tuple_iterator_next T F.entry_tuple_iterator_next ?_ (F.args_tuple_iterator_next_1 _)))
  show wpAny _ _ (field (.ref it) 0 >>= _) _ _ s
  refine wpAny_bind (wpAny_field ho hd (x := .ref t) rfl ?_)
  show wpAny _ _ (if (Value.ref t == Value.none) = true then _ else _) _ _ s
  rw [if_neg (show ¬ ((Value.ref t == Value.none) = true) from Bool.false_ne_true)]
  show wpAny _ _ (field (.ref it) 1 >>= _) _ _ s
  refine wpAny_bind (wpAny_field ho hd (x := .int i 0) rfl ?_)
  show wpAny _ _ (seqItems? (.ref t) >>= _) _ _ s
  refine wpAny_bind (wpAny_seqItems hol hdl ?_)
  simp only [Int.toNat_natCast, hx]
  refine wpAny_bind (wpAny_rule (wpAny_bind (wpAny_setField ho hd (by simp) ?_)))
  show wpAny _ _ (newExc (.type "StopIteration") [] >>= _) _ _ _
  refine wpAny_bind ?_
  simp only [newExc, newTuple]
  refine wpAny_bind (wpAny_newObj_type ?_ (by size_fits))
  refine wpAny_bind (m := firstArgMember _ _) (wpAny_of_eq (a := Value.none) (by first | rfl | (simp only [firstArgMember]; rfl)) ?_)
  refine wpAny_newObj_type ?_ (by size_fits)
  simp only [raiseNew]
  refine wpAny_bind (wpAny_handled ?_)
  first | rw [show A.in1.handled = none from hh] | rw [hh]
  refine wpAny_bind (wpAny_pure (wpAny_throw ?_))
  exact hE _ _ (((Heap.SameBut.update ..).extBut.push _).push _) ⟨_, Heap.get?_push_size _ rfl, rfl⟩
theorem nextOf_list_end {it l : Addr} {i : Nat} {items : Array Value} {Q : Value → Shared → Prop} (hh : A.handled = none) (hit : s.heap.IsListIter it l i) (hl : s.heap.IsList l items) (hx : items[i]? = none)
    (hE : ∀ h' e, Heap.ExtBut it s.heap h' → (∃ o, h'.get? e = some o ∧ o.cls = .type "StopIteration") → E (.ref e) { s with heap := h' }) : wpAny (model prog w) A (Builtin.SmallTypes.nextOf (.ref it)) Q E s :=
  wpAny_nextOf_list_end hh hit hl hx hE
end

theorem draws_tup {prog : Program} {w : World} {A : Around} (hh : A.handled = none) (it l : Addr) (hne : l ≠ it) (items : Array Value) :
    Draws prog w A it [it, l] items.size (fun i v => items[i]? = some v) (fun i h => h.IsTupleIter it l i ∧ h.IsTuple l items) where
  live := fun _ _ st => let ⟨o, ho, _⟩ := st.1; ⟨o, ho⟩
  frame := fun _ _ _ st hk => ⟨let ⟨o, e, r⟩ := st.1; ⟨o, hk it (by simp) o e, r⟩, let ⟨o, e, r⟩ := st.2; ⟨o, hk l (by simp) o e, r⟩⟩
  item := fun i s Q E hi st hQ => by
    refine nextOf_tup st.1 st.2 (x := items[i]) (by simp [hi]) fun h' hit' hs' => ?_
    exact hQ _ h' s.toks (by simp [hi]) ⟨hit', st.2.extBut hs'.extBut hne⟩ hs'
  done := fun s Q E st hE => nextOf_tup_end hh st.1 st.2 (by simp) hE
section
variable {C : Cfg} {A : Around} {E : Value → Heap → Prop} {g g0 h : Heap} {V : Led} {n : Nat} {S : Nat → Led}
theorem Dr.of {I : Addr} {fp : List Addr} {p P : Nat → Value → Prop} {St : Nat → Heap → Prop} (D : Draws C.prog C.w A I fp n p St) (hS : ∀ i g h, Le g0 g → Hp C.w.params g (S i) h → St i h)
    (hS' : ∀ i g h, St i h → ∀ p ∈ S i, Sat C.w.params g h p.1 p.2) (keys : ∀ i, (S i).map (·.1) = [I]) (hY : ∀ i v, i < n → p i v → P i v) : Dr C A (.ref I) n S P g0 where
  next := fun {i g h V Q E} hi le H q => fun k => by
    refine D.item i _ _ _ hi (hS i g h le H.right) fun v h' tk hp hst sb => ⟨h', tk, rfl, ?_⟩
    exact q v h' (hY i v hi hp) (H.turn ((keys _).trans (keys _).symm) (hS' _ g h' hst) fun b x hb e => (sb.2 b (fun q => hb (by rw [keys i, q]; exact .head _))).trans e)
  done := fun {g h V Q E} le H q => fun k => by
    refine D.done _ _ _ (hS n g h le H.right) fun h' e ex st => ⟨h', _, rfl, q e h' ?_ st⟩
    have ot' : ∀ b x, b ∉ (S n).map (·.1) → h.get? b = some x → h'.get? b = some x := fun b x hb e => ex b x (fun q => hb (by rw [keys n, q]; exact .head _)) e
    have nd := H.nd
    rw [List.map_append] at nd
    refine ⟨fun b x e => ot' b x (fun m => ?_) (H.le b x e), fun p hp => (H.sat p (List.mem_append_left _ hp)).of_get fun o e => ot' _ o (fun m => ?_) e, H.left.out, H.left.nd⟩
    · obtain ⟨p, hp, rfl⟩ := List.mem_map.mp m
      have := H.out p (List.mem_append_right _ hp)
      rw [e] at this; cases this
    · exact (List.nodup_append.mp nd).2.2 _ (List.mem_map_of_mem (f := (·.1)) hp) _ m rfl
def liS (I l : Addr) (i : Nat) : Led := [(I, .any fun o => o.cls = .type "list_iterator" ∧ o.data = .fields #[.ref l, .int i 0])]
def tiS (I l : Addr) (i : Nat) : Led := [(I, .any fun o => o.cls = .type "tuple_iterator" ∧ o.data = .fields #[.ref l, .int i 0])]
theorem Dr.lst (hh : A.handled = none) {I l : Addr} {vals : List Value} (hne : l ≠ I) (Ls : Lst g0 l vals) : Dr C A (.ref I) vals.length (liS I l) (fun i v => vals[i]? = some v) g0 := by
  have D := Draws.list (prog := C.prog) (w := C.w) hh I l hne vals.toArray
  rw [List.size_toArray] at D
  refine Dr.of D (fun i g' h' le H' => ⟨?_, (Ls.up (le.trans H'.le)).is⟩) (fun i g' h' st p hp => ?_) (fun i => rfl) (fun i v hi hv => by simpa using hv)
  · exact H'.at (s := .any _) (.head _)
  · cases hp with
    | head => exact st.1
    | tail _ hp => cases hp
theorem Dr.tup (hh : A.handled = none) {I l : Addr} {vals : List Value} (hne : l ≠ I) (Ls : Tp g0 l vals) : Dr C A (.ref I) vals.length (tiS I l) (fun i v => vals[i]? = some v) g0 := by
  have D := draws_tup (prog := C.prog) (w := C.w) hh I l hne vals.toArray
  rw [List.size_toArray] at D
  refine Dr.of D (fun i g' h' le H' => ⟨?_, (Ls.up (le.trans H'.le)).ist⟩) (fun i g' h' st p hp => ?_) (fun i => rfl) (fun i v hi hv => by simpa using hv)
  · exact H'.at (s := .any _) (.head _)
  · cases hp with
    | head => exact st.1
    | tail _ hp => cases hp

abbrev zipO (TI TO : Addr) (f0 : Value) : Obj := { cls := .type "zip", dict := none, data := .fields #[f0, .bool false, .bool false, .ref TI, .ref TO], slots := #[] }
abbrev pairO (a b : Value) : Obj := { cls := .type "tuple", data := .seq #[a, b] }
def zS (z TI TO : Addr) (i1 i2 : Value) (S1 S2 : Nat → Led) (i : Nat) : Led := (z, .obj (zipO TI TO .none)) :: (TI, .obj (pairO i1 i2)) :: (TO, .any fun o => ∃ a b, o = pairO a b) :: (S1 i ++ S2 i)
theorem zperm1 {V X Y : Led} {a b c : Addr × Sp} : (V ++ (a :: b :: c :: (X ++ Y))).Perm ((V ++ (a :: b :: c :: Y)) ++ X) := by
  rw [List.append_assoc]
  exact List.Perm.append_left V ((((List.perm_append_comm (l₁ := X) (l₂ := Y)).cons c).cons b).cons a)
theorem zperm2 {V X Y : Led} {a b c : Addr × Sp} : (V ++ (a :: b :: c :: (X ++ Y))) = ((V ++ (a :: b :: c :: X)) ++ Y) := by simp
theorem Up.app {a : Addr} {s s' : Sp} {V W W' : Led} (u : Up a s s' W W') : Up a s s' (V ++ W) (V ++ W') := by
  induction V with
  | nil => exact u
  | cons p r ih => exact .tail ih
theorem Up.apr {a : Addr} {s s' : Sp} {V W W' : Led} (u : Up a s s' W W') : Up a s s' (W ++ V) (W' ++ V) := by
  induction u with
  | head => exact .head
  | tail _ ih => exact .tail ih
theorem W_field {a : Addr} {o : Obj} {vs : Array Value} {k : Nat} {x : Value} {Q : Value → Heap → Prop} (ho : h.get? a = some o) (hd : o.data = .fields vs) (hk : vs[k]? = some x) (q : Q x h) : W C A (field (.ref a) k) Q E h := fun _ => wpAny_field ho hd hk (po q)
theorem W_setFieldO {a : Addr} {cls x : Value} {vs : Array Value} {k : Nat} {V' : Led} {Q : Unit → Heap → Prop} (H : Hp C.w.params g V h) (U : Up a (.obj { cls := cls, dict := none, data := .fields vs, slots := #[] }) (.obj { cls := cls, dict := none, data := .fields (vs.setIfInBounds k x), slots := #[] }) V V')
    (hk : k < vs.size) (q : ∀ h', Hp C.w.params g V' h' → Q () h') : W C A (setField (.ref a) k x) Q E h := fun _ => by
  have ho : h.get? a = some _ := H.at U.mem
  exact wpAny_setField_rec ho hk fun h' h1 sb => po (q h' (H.upd U h1 fun b o hb e => (sb.2 b hb).trans e))
theorem W_setPair {a : Addr} {p1 p2 x : Value} {k : Nat} {V' : Led} {Q : Unit → Heap → Prop} {s : Sp} (H : Hp C.w.params g V h) (ho : h.get? a = some (pairO p1 p2)) (U : Up a s s V V') (hs : ∀ h' b1 b2, h'.get? a = some (pairO b1 b2) → Sat C.w.params g h' a s)
    (q : ∀ h', h'.get? a = some { cls := .type "tuple", data := .seq ((#[p1, p2] : Array Value).setIfInBounds k x) } → Hp C.w.params g V' h' → Q () h') : W C A (updateSeq a (·.setIfInBounds k x)) Q E h := fun _ => by
  refine wpAny_updateSeq_pair ho fun h' h1 sb => po (q h' h1 (H.upd U ?_ fun b o hb e => (sb.2 b hb).trans e))
  by_cases k0 : k = 0
  · subst k0; exact hs h' _ _ h1
  · by_cases k1 : k = 1
    · subst k1; exact hs h' _ _ h1
    · rw [show (#[p1, p2] : Array Value).setIfInBounds k x = #[p1, p2] from by
        unfold Array.setIfInBounds; rw [dif_neg (by simp; omega)]] at h1
      exact hs h' _ _ h1
end

end
section
set_option linter.all false
section
variable {C : Cfg} {A : Around} {E : Value → Heap → Prop} {g g0 h : Heap} {V : Led} {n n1 n2 i : Nat} {S1 S2 : Nat → Led} {P1 P2 : Nat → Value → Prop} {z TI TO : Addr} {i1 i2 : Value}
theorem W_seqItems {a : Addr} {o : Obj} {vs : Array Value} {m : Nat} {Q : Option (Array Value) → Heap → Prop} (ho : h.get? a = some o) (hd : o.data = .seq vs m) (q : Q (some vs) h) : W C A (seqItems? (.ref a)) Q E h := fun _ => wpAny_seqItems ho hd (po q)
theorem W_letGo {a b : List Value} {Q : Unit → Heap → Prop} (q : Q () h) : W C A (letGo a b) Q E h := fun _ => wpAny_letGo (po q)
theorem W_updPair {a : Addr} {p1 p2 x : Value} {k : Nat} {Q : Unit → Heap → Prop} (ho : h.get? a = some (pairO p1 p2)) (q : ∀ h', h'.get? a = some { cls := .type "tuple", data := .seq ((#[p1, p2] : Array Value).setIfInBounds k x) } → Heap.SameBut a h h' → Q () h') : W C A (updateSeq a (·.setIfInBounds k x)) Q E h := fun _ =>
  wpAny_updateSeq_pair ho fun h' h1 sb => po (q h' h1 sb)
theorem W_newTup0 {vs : List Value} {Q : Value → Heap → Prop} (hz : vs.length ≤ 1000) (q : Q (.ref h.objs.size) (h.push { cls := .type "tuple", data := .seq vs.toArray })) : W C A (newTuple vs) Q E h := fun _ => wpAny_newTuple (po q) (by rw [sizeLine_eq]; omega)
theorem zmem {f0 : Value} {X : Led} {p : Addr × Sp} (m : p ∈ X) : p ∈ V ++ X := List.mem_append_right _ m
def zM (z TI TO : Addr) (f0 i1 i2 : Value) (X : Led) : Led := (z, .obj (zipO TI TO f0)) :: (TI, .obj (pairO i1 i2)) :: (TO, .any fun o => ∃ a b, o = pairO a b) :: X
theorem W_zip_next {Q : Fin → Heap → Prop} (D1 : Dr C A i1 n1 S1 P1 g0) (D2 : Dr C A i2 n2 S2 P2 g0) (hi1 : i < n1) (hi2 : i < n2) (le : Le g0 g) (H : Hp C.w.params g (V ++ zM z TI TO .none i1 i2 (S1 i ++ S2 i)) h)
    (q : ∀ T g' h' x y, Le g g' → P1 i x → P2 i y → g'.get? T = some (pairO x y) → Hp C.w.params g' (V ++ zM z TI TO (rawInt T) i1 i2 (S1 (i + 1) ++ S2 (i + 1))) h' → Q (.done (.ret (.ref T))) h') : W C A (Builtin.«zip.__next__» ⟨[.ref z], []⟩) Q E h := by
  show W C A (field (.ref z) 2 >>= _) _ _ _
  have hz : h.get? z = some (zipO TI TO .none) := H.at (s := .obj _) (zmem (f0 := .none) (.head _))
  have hTI : h.get? TI = some (pairO i1 i2) := H.at (s := .obj _) (zmem (f0 := .none) (.tail _ (.head _)))
  refine W_bind (W_field hz rfl (x := .bool false) rfl ?_)
  show W C A (field (.ref z) 3 >>= _) _ _ _
  refine W_bind (W_field hz rfl (x := .ref TI) rfl ?_)
  refine W_bind (W_seqItems hTI rfl ?_)
  show W C A (Builtin.SmallTypes.ownedTupleIsFree (.ref z) >>= _) _ _ _
  refine W_bind ?_
  unfold Builtin.SmallTypes.ownedTupleIsFree
  refine W_bind (W_field hz rfl (x := .none) rfl (W_pure ?_))
  simp only [if_true]
  refine W_bind (W_rule ?_)
  refine W_bind (W_field hz rfl (x := .ref TO) rfl ?_)
  refine W_bind (W_setFieldO (V' := V ++ zM z TI TO .ellipsis i1 i2 (S1 i ++ S2 i)) H (Up.app .head) (by simp) fun h1 H1 => ?_)
  refine W_bind ?_
  simp only [List.zipIdx_cons, List.zipIdx_nil, List.forIn_cons, List.forIn_nil]
  refine W_bind (W_bind (W_onRaise ?_))
  show W C A (Builtin.SmallTypes.nextOf i1 >>= _) _ _ _
  refine W_bind (D1.next hi1 le (H1.perm zperm1) fun x h2 px H2 => W_pure ?_)
  have H2' := H2.perm (zperm1.symm)
  obtain ⟨oTO, hTO, a, b, rfl⟩ := H2'.at (s := .any _) (zmem (f0 := .none) (.tail _ (.tail _ (.head _))))
  refine W_bind (W_seqItems hTO rfl ?_)
  refine W_bind (W_setPair (V' := V ++ zM z TI TO .ellipsis i1 i2 (S1 (i + 1) ++ S2 i)) H2' hTO (Up.app (.tail (.tail .head))) (fun h' b1 b2 e => ⟨_, e, b1, b2, rfl⟩) fun h3 hTO3 H3 => ?_)
  replace hTO3 : h3.get? TO = some (pairO x b) := hTO3
  refine W_bind (W_letGo (W_pure ?_))
  refine W_bind (W_bind (W_onRaise ?_))
  show W C A (Builtin.SmallTypes.nextOf i2 >>= _) _ _ _
  have H3' : Hp C.w.params g ((V ++ zM z TI TO .ellipsis i1 i2 (S1 (i + 1))) ++ S2 i) h3 := by
    have := H3
    unfold zM at this ⊢
    rwa [zperm2] at this
  have H3'' : Hp C.w.params g (((V ++ (z, .obj (zipO TI TO .ellipsis)) :: (TI, .obj (pairO i1 i2)) :: (TO, .obj (pairO x b)) :: S1 (i + 1))) ++ S2 i) h3 := by
    refine ⟨H3'.le, fun p hp => ?_, fun p hp => ?_, ?_⟩
    · rcases List.mem_append.mp hp with hp | hp
      · rcases List.mem_append.mp hp with hp | hp
        · exact H3'.sat p (List.mem_append_left _ (List.mem_append_left _ hp))
        · cases hp with
          | head => exact H3'.sat _ (List.mem_append_left _ (List.mem_append_right _ (.head _)))
          | tail _ hp => cases hp with
            | head => exact H3'.sat _ (List.mem_append_left _ (List.mem_append_right _ (.tail _ (.head _))))
            | tail _ hp => cases hp with
              | head => exact hTO3
              | tail _ hp => exact H3'.sat _ (List.mem_append_left _ (List.mem_append_right _ (.tail _ (.tail _ (.tail _ hp)))))
      · exact H3'.sat p (List.mem_append_right _ hp)
    · have key : ∃ p' ∈ (V ++ zM z TI TO .ellipsis i1 i2 (S1 (i + 1))) ++ S2 i, p'.1 = p.1 := by
        have : p.1 ∈ (((V ++ (z, Sp.obj (zipO TI TO .ellipsis)) :: (TI, Sp.obj (pairO i1 i2)) :: (TO, Sp.obj (pairO x b)) :: S1 (i + 1))) ++ S2 i).map (·.1) := List.mem_map_of_mem (f := (·.1)) hp
        have e : (((V ++ (z, Sp.obj (zipO TI TO .ellipsis)) :: (TI, Sp.obj (pairO i1 i2)) :: (TO, Sp.obj (pairO x b)) :: S1 (i + 1))) ++ S2 i).map (·.1) = ((V ++ zM z TI TO .ellipsis i1 i2 (S1 (i + 1))) ++ S2 i).map (·.1) := by simp [zM]
        rw [e] at this
        obtain ⟨p', hp', e'⟩ := List.mem_map.mp this
        exact ⟨p', hp', e'⟩
      obtain ⟨p', hp', e'⟩ := key
      rw [← e']; exact H3'.out p' hp'
    · have := H3'.nd
      simpa [zM] using this
  refine W_bind (D2.next hi2 le H3'' fun y h4 py H4 => W_pure ?_)
  have hTO4 : h4.get? TO = some (pairO x b) := H4.at (s := .obj _) (List.mem_append_left _ (List.mem_append_right _ (.tail _ (.tail _ (.head _)))))
  refine W_bind (W_seqItems hTO4 rfl ?_)
  have H4' : Hp C.w.params g (V ++ (z, Sp.obj (zipO TI TO .ellipsis)) :: (TI, Sp.obj (pairO i1 i2)) :: (TO, Sp.obj (pairO x b)) :: (S1 (i + 1) ++ S2 (i + 1))) h4 := by rw [zperm2]; exact H4
  refine W_bind (W_updPair hTO4 fun h5 hTO5 sb => ?_)
  replace hTO5 : h5.get? TO = some (pairO x y) := hTO5
  have H5 : Hp C.w.params g (V ++ zM z TI TO .ellipsis i1 i2 (S1 (i + 1) ++ S2 (i + 1))) h5 := H4'.upd (Up.app (.tail (.tail .head))) ⟨_, hTO5, x, y, rfl⟩ fun b o hb e => (sb.2 b hb).trans e
  refine W_bind (W_letGo (W_pure (W_pure ?_)))
  refine W_bind (W_seqItems hTO5 rfl ?_)
  refine W_bind (W_newTup0 (by simp) ?_)
  obtain ⟨g6, l6, e6, H6⟩ := H5.keep (o := pairO x y) rfl
  show W C A (Builtin.SmallTypes.ownedTupleHandOut (.ref z) (.ref h5.objs.size) >>= _) _ _ _
  refine W_bind ?_
  unfold Builtin.SmallTypes.ownedTupleHandOut
  refine W_bind (W_setFieldO (V' := V ++ zM z TI TO (rawInt h5.objs.size) i1 i2 (S1 (i + 1) ++ S2 (i + 1))) H6 (Up.app .head) (by simp) fun h7 H7 => ?_)
  refine W_setFieldO (V' := V ++ zM z TI TO (rawInt h5.objs.size) i1 i2 (S1 (i + 1) ++ S2 (i + 1))) H7 (Up.app .head) (by simp) fun h8 H8 => ?_
  refine W_pure ?_
  exact q h5.objs.size g6 h8 x y l6 px py e6 H8
theorem W_zip_end {Q : Fin → Heap → Prop} (D1 : Dr C A i1 n1 S1 P1 g0) (D2 : Dr C A i2 n2 S2 P2 g0) (hn : i = min n1 n2) (le : Le g0 g) (H : Hp C.w.params g (V ++ zM z TI TO .none i1 i2 (S1 i ++ S2 i)) h)
    (q : ∀ e h', Hp C.w.params g V h' → (∃ o, h'.get? e = some o ∧ o.cls = .type "StopIteration") → E (.ref e) h') : W C A (Builtin.«zip.__next__» ⟨[.ref z], []⟩) Q E h := by
  show W C A (field (.ref z) 2 >>= _) _ _ _
  have hz : h.get? z = some (zipO TI TO .none) := H.at (s := .obj _) (zmem (f0 := .none) (.head _))
  have hTI : h.get? TI = some (pairO i1 i2) := H.at (s := .obj _) (zmem (f0 := .none) (.tail _ (.head _)))
  refine W_bind (W_field hz rfl (x := .bool false) rfl ?_)
  show W C A (field (.ref z) 3 >>= _) _ _ _
  refine W_bind (W_field hz rfl (x := .ref TI) rfl ?_)
  refine W_bind (W_seqItems hTI rfl ?_)
  show W C A (Builtin.SmallTypes.ownedTupleIsFree (.ref z) >>= _) _ _ _
  refine W_bind ?_
  unfold Builtin.SmallTypes.ownedTupleIsFree
  refine W_bind (W_field hz rfl (x := .none) rfl (W_pure ?_))
  simp only [if_true]
  refine W_bind (W_rule ?_)
  refine W_bind (W_field hz rfl (x := .ref TO) rfl ?_)
  refine W_bind (W_setFieldO (V' := V ++ zM z TI TO .ellipsis i1 i2 (S1 i ++ S2 i)) H (Up.app .head) (by simp) fun h1 H1 => ?_)
  refine W_bind ?_
  simp only [List.zipIdx_cons, List.zipIdx_nil, List.forIn_cons, List.forIn_nil]
  refine W_bind (W_bind (W_onRaise ?_))
  show W C A (Builtin.SmallTypes.nextOf i1 >>= _) _ _ _
  have fin : ∀ {X : Led} {h2 : Heap} {e : Addr}, Hp C.w.params g (V ++ zM z TI TO .ellipsis i1 i2 X) h2 → (∃ o, h2.get? e = some o ∧ o.cls = .type "StopIteration") → W C A (setField (.ref z) 0 .none) (fun _ h'' => E (.ref e) h'') E h2 := fun {X h2 e} H2 st => by
    have hz2 : h2.get? z = some (zipO TI TO .ellipsis) := H2.at (s := .obj _) (zmem (f0 := .none) (.head _))
    obtain ⟨o, ho, hc⟩ := st
    have hne : e ≠ z := fun x => by subst x; rw [hz2] at ho; cases ho; simp at hc
    intro k
    refine wpAny_setField_rec hz2 (by simp) fun h3 h31 sb => po (q e h3 ?_ ⟨o, (sb.2 e hne).trans ho, hc⟩)
    have H3 : Hp C.w.params g (V ++ zM z TI TO .none i1 i2 X) h3 := H2.upd (Up.app .head) h31 fun b o hb e => (sb.2 b hb).trans e
    exact H3.left
  by_cases hi1 : i < n1
  · have hi2 : i = n2 := by omega
    refine W_bind (D1.next hi1 le (H1.perm zperm1) fun x h2 px H2 => W_pure ?_)
    have H2' := H2.perm (zperm1.symm)
    obtain ⟨oTO, hTO, a, b, rfl⟩ := H2'.at (s := .any _) (zmem (f0 := .none) (.tail _ (.tail _ (.head _))))
    refine W_bind (W_seqItems hTO rfl ?_)
    refine W_bind (W_setPair (V' := V ++ zM z TI TO .ellipsis i1 i2 (S1 (i + 1) ++ S2 i)) H2' hTO (Up.app (.tail (.tail .head))) (fun h' b1 b2 e => ⟨_, e, b1, b2, rfl⟩) fun h3 hTO3 H3 => ?_)
    refine W_bind (W_letGo (W_pure ?_))
    refine W_bind (W_bind (W_onRaise ?_))
    show W C A (Builtin.SmallTypes.nextOf i2 >>= _) _ _ _
    have H3' : Hp C.w.params g ((V ++ zM z TI TO .ellipsis i1 i2 (S1 (i + 1))) ++ S2 n2) h3 := by
      have := H3
      rw [hi2] at this ⊢
      unfold zM at this ⊢
      rwa [zperm2] at this
    exact W_bind (D2.done le H3' fun e h4 H4 st => fin H4 st)
  · have hi2 : i = n1 := by omega
    have H1' : Hp C.w.params g ((V ++ zM z TI TO .ellipsis i1 i2 (S2 i)) ++ S1 n1) h1 := by rw [← hi2]; exact H1.perm zperm1
    exact W_bind (D1.done le H1' fun e h4 H4 st => fin H4 st)
end

section
variable {C : Cfg} {A : Around} {E : Value → Heap → Prop} {g g0 h : Heap} {V : Led} {n n1 n2 i : Nat} {S1 S2 : Nat → Led} {P1 P2 : Nat → Value → Prop} {z TI TO : Addr} {i1 i2 : Value}
theorem zM_eq : zS z TI TO i1 i2 S1 S2 i = zM z TI TO .none i1 i2 (S1 i ++ S2 i) := rfl
theorem Ity.zip {elts : List PySem.Expr} {x1 : Nat} {tp : Pos} (D1 : Dr C A.in1 i1 n1 S1 P1 g0) (D2 : Dr C A.in1 i2 n2 S2 P2 g0) :
    Ity C A (.Tuple elts x1 tp) (.ref z) (min n1 n2) (zS z TI TO i1 i2 S1 S2) (fun i g' v => ∃ a x y, v = .ref a ∧ P1 i x ∧ P2 i y ∧ Tp g' a [x, y]) g0 where
  next := fun {i g h V Q E E'} hi le H q => by
    have hz : h.get? z = some (zipO TI TO .none) := H.at (s := .obj _) (zmem (f0 := .none) (.head _))
    have body := W_zip_next (C := C) (A := A.in1) (E := No) (Q := fun r h1 => ∃ v, r = .done (.ret v) ∧ W C A (letOwnedTupleGo (.Tuple elts x1 tp) (.ref z) v) (fun _ h2 => Q v h2) E h1) D1 D2 (by omega) (by omega) le H fun T g' h' x y l px py hT H' => ⟨_, rfl, by
      intro k
      have hz' : h'.get? z = some (zipO TI TO (rawInt T)) := H'.at (s := .obj _) (zmem (f0 := .none) (.head _))
      refine wpAny_letOwnedTupleGo_zip (s := C.sh h' k) hz' fun h2 hz2 sb => po (q _ g' h2 l ⟨T, x, y, rfl, px, py, ⟨_, hT⟩⟩ ?_)
      exact H'.upd (Up.app .head) hz2 fun b o hb e => (sb.2 b hb).trans e⟩
    intro k
    have hT : (C.sh h k).TypeIs (.ref z) "zip" := ⟨_, hz, rfl⟩
    unfold pyNext
    refine wpAny_bind (wpAny_attempt (wpAny_callSpecial?_slot (name := Str.ofString "__next__") hT F.slot_zip_next (wpAny_call_entry F.slot_zip_next hT F.entry_zip_next (wpAny_mono (body k) (fun fin s' z1 => ?_) fun _ _ z1 => no_of z1) (F.args_zip_next_1 _))))
    obtain ⟨h1, k1, rfl, v, rfl, z1⟩ := z1
    exact ⟨v, rfl, wpAny_pure (po ⟨v, rfl, z1⟩)⟩
  done := fun {g h V Q E} le H q => by
    have hz : h.get? z = some (zipO TI TO .none) := H.at (s := .obj _) (zmem (f0 := .none) (.head _))
    have body := W_zip_end (C := C) (A := A.in1) (E := fun e h1 => ∃ a, e = .ref a ∧ (∃ o, h1.get? a = some o ∧ o.cls = .type "StopIteration") ∧ Q h1) (Q := fun _ _ => False) D1 D2 rfl le H fun e h' H' st => ⟨e, rfl, st, q h' H'⟩
    intro k
    have hT : (C.sh h k).TypeIs (.ref z) "zip" := ⟨_, hz, rfl⟩
    unfold pyNext
    refine wpAny_bind (wpAny_attempt (wpAny_callSpecial?_slot (name := Str.ofString "__next__") hT F.slot_zip_next (wpAny_call_entry F.slot_zip_next hT F.entry_zip_next (wpAny_mono (body k) (fun fin s' z1 => ?_) fun e s' z1 => ?_) (F.args_zip_next_1 _))))
    · obtain ⟨_, _, _, z1⟩ := z1; exact z1.elim
    · obtain ⟨h1, k1, rfl, a, rfl, ⟨o, ho, hc⟩, z1⟩ := z1
      refine wpAny_bind (wpAny_isInstance (T := "StopIteration") (b := true) ⟨o, ho, hc⟩ isSubtype_stop ?_)
      exact wpAny_pure (po ⟨rfl, z1⟩)
  self := fun {g h V Q E} le H q => fun k => by
    have hz : h.get? z = some (zipO TI TO .none) := H.at (s := .obj _) (zmem (f0 := .none) (.head _))
    exact wpAny_pyIter_zip hz (po q)
theorem meets_zip_tl (l1 l2 : Addr) (xs ys : Array Value) : Meets (Builtin.«zip.__new__» ⟨[.type "zip", .ref l1, .ref l2], []⟩) (fun _ R s => s.heap.IsTuple l1 xs ∧ s.heap.IsList l2 ys ∧
      R (.ok (.ret (.ref (s.heap.objs.size + 4)))) { s with heap := ((((s.heap.push { cls := .type "tuple_iterator", data := .fields #[.ref l1, .int 0 0] }).push { cls := .type "list_iterator", data := .fields #[.ref l2, .int 0 0] }).push (pairO (.ref s.heap.objs.size) (.ref (s.heap.objs.size + 1)))).push (pairO .none .none)).push (zipO (s.heap.objs.size + 2) (s.heap.objs.size + 3) .none) }) :=
  .of_wp fun prog w A R s h => by
    obtain ⟨hp, g, d, tk, os⟩ := s; obtain ⟨hl1, hl2, h⟩ := h
    have hsub := sub_zip
    have hL1 : Heap.IsTuple (Shared.heap ⟨hp, g, d, tk, os⟩) l1 xs := hl1
    have hL2 : Heap.IsList (Shared.heap ⟨hp.push { cls := .type "tuple_iterator", data := .fields #[.ref l1, .int 0 0] }, g, d, tk, os⟩) l2 ys := Heap.IsList.push hl2 _
    wp_walk using wpAny_pyIter_tuple hL1, wpAny_pyIter_list hL2
    simp only [Heap.size_push] at h ⊢
    exact ⟨_, rfl, h⟩
theorem meets_zip_lt (l1 l2 : Addr) (xs ys : Array Value) : Meets (Builtin.«zip.__new__» ⟨[.type "zip", .ref l1, .ref l2], []⟩) (fun _ R s => s.heap.IsList l1 xs ∧ s.heap.IsTuple l2 ys ∧
      R (.ok (.ret (.ref (s.heap.objs.size + 4)))) { s with heap := ((((s.heap.push { cls := .type "list_iterator", data := .fields #[.ref l1, .int 0 0] }).push { cls := .type "tuple_iterator", data := .fields #[.ref l2, .int 0 0] }).push (pairO (.ref s.heap.objs.size) (.ref (s.heap.objs.size + 1)))).push (pairO .none .none)).push (zipO (s.heap.objs.size + 2) (s.heap.objs.size + 3) .none) }) :=
  .of_wp fun prog w A R s h => by
    obtain ⟨hp, g, d, tk, os⟩ := s; obtain ⟨hl1, hl2, h⟩ := h
    have hsub := sub_zip
    have hL1 : Heap.IsList (Shared.heap ⟨hp, g, d, tk, os⟩) l1 xs := hl1
    have hL2 : Heap.IsTuple (Shared.heap ⟨hp.push { cls := .type "list_iterator", data := .fields #[.ref l1, .int 0 0] }, g, d, tk, os⟩) l2 ys := Heap.IsTuple.push hl2 _
    wp_walk using wpAny_pyIter_list hL1, wpAny_pyIter_tuple hL2
    simp only [Heap.size_push] at h ⊢
    exact ⟨_, rfl, h⟩
theorem zip_own {o1 o2 : Obj} {s1 s2 : Sp} (H : Hp C.w.params g V h) (k1 : ∀ h' : Heap, h'.get? h.objs.size = some o1 → Sat C.w.params g h' h.objs.size s1) (k2 : ∀ h' : Heap, h'.get? (h.objs.size + 1) = some o2 → Sat C.w.params g h' (h.objs.size + 1) s2) (f1 : o1.isFreed = false) (f2 : o2.isFreed = false) :
    Hp C.w.params g (V ++ ((h.objs.size + 4, Sp.obj (zipO (h.objs.size + 2) (h.objs.size + 3) .none)) :: (h.objs.size + 2, Sp.obj (pairO (.ref h.objs.size) (.ref (h.objs.size + 1)))) :: (h.objs.size + 3, Sp.any fun o => ∃ a b, o = pairO a b) :: ([(h.objs.size, s1)] ++ [(h.objs.size + 1, s2)])))
      (((((h.push o1).push o2).push (pairO (.ref h.objs.size) (.ref (h.objs.size + 1)))).push (pairO .none .none)).push (zipO (h.objs.size + 2) (h.objs.size + 3) .none)) := by
  have H1 := H.own (s := s1) (o := o1) (k1 _ (Heap.get?_push_size _ f1))
  have H2 := H1.own (s := s2) (o := o2) (by have := Heap.get?_push_size (h := h.push o1) (o := o2) f2; rw [Heap.size_push] at this ⊢; exact k2 _ this)
  have H3 := H2.own (s := .obj (pairO (.ref h.objs.size) (.ref (h.objs.size + 1)))) (o := pairO (.ref h.objs.size) (.ref (h.objs.size + 1))) (Heap.get?_push_size _ rfl)
  have H4 := H3.own (s := .any fun o => ∃ a b, o = pairO a b) (o := pairO .none .none) ⟨_, Heap.get?_push_size _ rfl, _, _, rfl⟩
  have H5 := H4.own (s := .obj (zipO (h.objs.size + 2) (h.objs.size + 3) .none)) (o := zipO (h.objs.size + 2) (h.objs.size + 3) .none) (Heap.get?_push_size _ rfl)
  simp only [Heap.size_push] at H5
  refine H5.perm (List.Perm.trans ?_ List.perm_append_comm)
  simp only [List.cons_append, List.nil_append]
  refine List.Perm.cons _ ?_
  exact (List.Perm.swap _ _ _).trans (List.Perm.cons _ (List.Perm.cons _ (List.Perm.swap _ _ _)))
theorem zip_lt {a : Addr} {o : Obj} (H : Hp C.w.params g V h) (e : g.get? a = some o) : a ≠ h.objs.size ∧ a ≠ h.objs.size + 1 :=
  have := Heap.lt_size (H.le _ _ e)
  ⟨Nat.ne_of_lt this, Nat.ne_of_lt (Nat.lt_succ_of_lt this)⟩
theorem zip_top {o1 o2 : Obj} : (((((h.push o1).push o2).push (pairO (.ref h.objs.size) (.ref (h.objs.size + 1)))).push (pairO .none .none)).push (zipO (h.objs.size + 2) (h.objs.size + 3) .none)).get? (h.objs.size + 4) = some (zipO (h.objs.size + 2) (h.objs.size + 3) .none) := by
  have := Heap.get?_push_size ((((h.push o1).push o2).push (pairO (.ref h.objs.size) (.ref (h.objs.size + 1)))).push (pairO .none .none)) (o := zipO (h.objs.size + 2) (h.objs.size + 3) .none) rfl
  simp only [Heap.size_push] at this
  exact this
def Zy (xs ys : List Value) (i : Nat) (g' : Heap) (v : Value) : Prop := ∃ a x y, v = .ref a ∧ xs[i]? = some x ∧ ys[i]? = some y ∧ Tp g' a [x, y]
theorem W_zip_tl {l1 l2 : Addr} {xs ys : List Value} {Q : Value → Heap → Prop} (p1 : Tp g l1 xs) (p2 : Lst g l2 ys) (H : Hp C.w.params g V h)
    (q : ∀ z S h', (∀ A' elts x1 tp, A'.handled = none → Ity C A' (.Tuple elts x1 tp) (.ref z) (min xs.length ys.length) S (Zy xs ys) g) → Hp C.w.params g (V ++ S 0) h' → Q (.ref z) h') : W C A (call (.type "zip") [.ref l1, .ref l2]) Q E h := fun k => by
  refine callType_new F.called_zip (by decide) (F.typeCall_zip_2 _ _) (F.newCall_zip_2 _ _) (fun obj => F.args_object_init_3 obj _ _) F.entry_zip_new (meets_zip_tl l1 l2 xs.toArray ys.toArray) ⟨(p1.up H.le).ist, (p2.up H.le).is, ?_⟩
  show _ ∧ _
  refine ⟨⟨_, zip_top, rfl⟩, ?_⟩
  obtain ⟨n1, e1⟩ := p1
  obtain ⟨n2, e2⟩ := p2
  refine po (q _ (zS (h.objs.size + 4) (h.objs.size + 2) (h.objs.size + 3) (.ref h.objs.size) (.ref (h.objs.size + 1)) (tiS h.objs.size l1) (liS (h.objs.size + 1) l2)) _ (fun A' elts x1 tp hA => ?_) ?_)
  · exact Ity.zip (Dr.tup (A := A'.in1) hA (zip_lt H e1).1 ⟨n1, e1⟩) (Dr.lst (A := A'.in1) hA (zip_lt H e2).2 ⟨n2, e2⟩)
  · exact zip_own (C := C) H (fun h' e => ⟨_, e, rfl, rfl⟩) (fun h' e => ⟨_, e, rfl, rfl⟩) rfl rfl
theorem W_zip_lt {l1 l2 : Addr} {xs ys : List Value} {Q : Value → Heap → Prop} (p1 : Lst g l1 xs) (p2 : Tp g l2 ys) (H : Hp C.w.params g V h)
    (q : ∀ z S h', (∀ A' elts x1 tp, A'.handled = none → Ity C A' (.Tuple elts x1 tp) (.ref z) (min xs.length ys.length) S (Zy xs ys) g) → Hp C.w.params g (V ++ S 0) h' → Q (.ref z) h') : W C A (call (.type "zip") [.ref l1, .ref l2]) Q E h := fun k => by
  refine callType_new F.called_zip (by decide) (F.typeCall_zip_2 _ _) (F.newCall_zip_2 _ _) (fun obj => F.args_object_init_3 obj _ _) F.entry_zip_new (meets_zip_lt l1 l2 xs.toArray ys.toArray) ⟨(p1.up H.le).is, (p2.up H.le).ist, ?_⟩
  show _ ∧ _
  refine ⟨⟨_, zip_top, rfl⟩, ?_⟩
  obtain ⟨n1, e1⟩ := p1
  obtain ⟨n2, e2⟩ := p2
  refine po (q _ (zS (h.objs.size + 4) (h.objs.size + 2) (h.objs.size + 3) (.ref h.objs.size) (.ref (h.objs.size + 1)) (liS h.objs.size l1) (tiS (h.objs.size + 1) l2)) _ (fun A' elts x1 tp hA => ?_) ?_)
  · exact Ity.zip (Dr.lst (A := A'.in1) hA (zip_lt H e1).1 ⟨n1, e1⟩) (Dr.tup (A := A'.in1) hA (zip_lt H e2).2 ⟨n2, e2⟩)
  · exact zip_own (C := C) H (fun h' e => ⟨_, e, rfl, rfl⟩) (fun h' e => ⟨_, e, rfl, rfl⟩) rfl rfl
end

end
section
set_option linter.all false
theorem Br_t {b : Bool} {P Q : Prop} (hb : b = true) (p : P) : (b = true → P) ∧ (b = false → Q) := ⟨fun _ => p, fun e => absurd (hb.symm.trans e) (by decide)⟩
theorem Br_f {b : Bool} {P Q : Prop} (hb : b = false) (p : Q) : (b = true → P) ∧ (b = false → Q) := ⟨fun e => absurd (hb.symm.trans e) (by decide), fun _ => p⟩
theorem Ite_t {b : Bool} {P Q : Prop} (hb : b = true) (p : P) : if b = true then P else Q := by rw [if_pos hb]; exact p
theorem Ite_f {b : Bool} {P Q : Prop} (hb : b = false) (p : Q) : if b = true then P else Q := by rw [if_neg (by rw [hb]; decide)]; exact p
theorem Ite_b {b : Bool} {P Q : Prop} (p : b = true → P) (q : b = false → Q) : if b = true then P else Q := by
  cases b
  · rw [if_neg (by decide)]; exact q rfl
  · rw [if_pos rfl]; exact p rfl
section
variable {C : Cfg} {A : Around} {E : Value → Heap → Prop} {g g0 h : Heap} {V : Led} {en : Env}
theorem range_small {n : Nat} (hn : n ≤ 1000) : Builtin.Range.small 0 (n : Int) 1 = true ∧ Builtin.Range.rangeSize 0 (n : Int) 1 = (n : Int) := by
  refine ⟨small_one (by omega) (by omega) (by omega) (by omega), ?_⟩
  rw [rangeSize_one]
  split <;> omega
def Ri (i : Nat) (_ : Heap) (v : Value) : Prop := ∃ t, v = .int (i : Int) t
theorem W_iter_rangeN {r : Addr} {n : Nat} {k : Int} {Q : Value → Heap → Prop} (hh : A.handled = none) (R : Rg g r 0 k 1) (hk : k = (n : Int)) (hn : n ≤ 1000) (H : Hp C.w.params g V h)
    (q : ∀ I S h', (∀ tx tpos, Ity C A (.Name tx tpos) (.ref I) n S Ri g) → Hp C.w.params g (V ++ S 0) h' → Q (.ref I) h') : W C A (pyIter (.ref r)) Q E h := by
  subst hk
  refine W_iter_range hh R (range_small hn).1 (range_small hn).2 H fun I h' T H' => q I (fun i => [(I, .any fun o => o = { cls := .type "range_iterator", dict := none, data := .fields #[rawInt (0 + (i : Nat) * 1), rawInt ((n : Int) - (i : Nat)), rawInt 1], slots := #[] })]) h' (fun tx tpos => ?_) H'
  have T := T tx tpos
  refine ⟨fun hi le H q => T.next hi le H fun v g' h' l y H' => q v g' h' l ?_ H', T.done, T.self⟩
  obtain ⟨t, rfl⟩ := y
  exact ⟨t, by congr 1; omega⟩
theorem one_of {P : Params} {L : Addr} {x : Str} {cvs : List (Option Value)} (H : Hp P g ((L, .frm [x] cvs) :: V) h) : ∃ c, cvs = [c] := by
  obtain ⟨m, _, lo⟩ := H.at (s := .frm _ _) (.head _)
  match cvs, lo.1 with
  | [c], _ => exact ⟨c, rfl⟩
theorem two_of {P : Params} {L : Addr} {x y : Str} {cvs : List (Option Value)} (H : Hp P g ((L, .frm [x, y] cvs) :: V) h) : ∃ c d, cvs = [c, d] := by
  obtain ⟨m, _, lo⟩ := H.at (s := .frm _ _) (.head _)
  match cvs, lo.1 with
  | [c, d], _ => exact ⟨c, d, rfl⟩
end
theorem ints_at {vs : List Value} {ns : List Int} (hi : IntsAre vs ns) {j : Nat} (hj : j < ns.length) : ∃ t, vs[j]? = some (.int (ns.getD j 0) t) := by
  have hvl : vs.length = ns.length := hi.length
  have e1 : vs[j]? = some vs[j] := List.getElem?_eq_getElem (by omega)
  obtain ⟨t, e2⟩ := hi.int_at _ _ e1
  exact ⟨t, by rw [e1, e2]⟩

end
section
set_option linter.all false
section
variable {C : Cfg} {A : Around} {E : Value → Heap → Prop} {g g0 h : Heap} {V : Led} {en : Env} {d m : Addr} {ks : List Str} {vs : List Value}
theorem sd_kvs {h' : Heap} (hd : h'.DictOf (strKind C.prog C.w) d (ks.zip vs)) (n : (d == sysModules) = false) (e : vs.length = ks.length) : Sd C.w.params h' d ks vs := by
  have := sd_of (C := C) hd n
  rwa [(zip_keys e).1, (zip_keys e).2] at this
theorem Ents.mem_is {P : Params} {es : List DictEntry} (e : Ents P ks vs es) {e1 : DictEntry} (h1 : e1 ∈ es) {x : Str} (hc : (strKind C.prog C.w).is x e1.key = true) : x ∈ ks := by
  induction e with
  | nil => cases h1
  | @cons k2 t2 v2 ks2 vs2 es2 e2 ih =>
    cases h1 with
    | head =>
      obtain ⟨u, e⟩ := Value.isStrOf_shape (x := x) (v := Value.str k2 t2) hc
      cases e
      exact .head _
    | tail _ he => exact .tail _ (ih he)
theorem W_updateD {Q : Value → Heap → Prop} {V' : Led} (H : Hp C.w.params g V h) (U : Up d (.sd [] []) (.sd ks vs) V V') (s : Sd C.w.params g m ks vs) (nd : ks.Nodup) (hz : ks.length ≤ 1000) (q : ∀ h', Hp C.w.params g V' h' → Q .none h') : W C A (call (.builtin "dict.update") [.ref d, .ref m]) Q E h := fun k => by
  have s0 : Sd C.w.params h d [] [] := H.at U.mem
  have s1 := s.up H.le
  have e := s1.len (C := C)
  have dO := s0.dictOf (C := C) List.nodup_nil
  have mO := s1.dictOf (C := C) nd
  have hne : d ≠ m := fun q => by
    have := H.out _ U.mem
    obtain ⟨_, _, x, _⟩ := s
    rw [show (d, Sp.sd [] []).1 = d from rfl, q, x] at this; cases this
  have zl : (ks.zip vs).length = ks.length := by rw [List.length_zip, e, Nat.min_self]
  refine call_meetsIn (s := C.sh h k) F.slot_dict_update dO.typeIs F.entry_dict_update (F.args_dict_update_2 _ _) (meets_dict_update (strKind C.prog C.w) d m hne s1.ne)
    ⟨_, _, dO, mO, by rw [zl, sizeLine_eq]; simp; omega, fun h' hm _ hs => ?_⟩
  have nd' : ((ks.zip vs).map (·.1)).Nodup := by rw [(zip_keys e).1]; exact nd
  rw [show ([] : List Str).zip ([] : List Value) = [] from rfl, merged_nil_of_nodup _ nd'] at hm
  exact po (q h' (H.upd U (sd_kvs hm s0.ne e) fun b o hb e => (hs.2 b hb).trans e))
theorem W_put {x : Str} {t : Tok} {v : Value} {V' : Led} {Q : Unit → Heap → Prop} (H : Hp C.w.params g V h) (U : Up d (.sd ks vs) (.sd (ks ++ [x]) (vs ++ [v])) V V') (nk : x ∉ ks) (hz : ks.length ≤ 1000)
    (q : ∀ h', Hp C.w.params g V' h' → Q () h') : W C A (dictPut d (PyData.keyHash C.w.params x) (.str x t) v) Q E h := fun k => by
  obtain ⟨es, n, ho, e, ne⟩ := H.at U.mem
  have hl := e.len.1
  have hk : KeysOf (strKind C.prog C.w) es.toArray := (pairs_of e).2
  unfold dictPut
  refine wpAny_bind (wpAny_dictFind_of (knd := strKind C.prog C.w) (s := C.sh h k) (k := x) (key := .str x t) (strKind_is C.prog C.w x t) ho rfl hk ?_)
  have non : (es.toArray.findIdx? fun e => (strKind C.prog C.w).is x e.key) = none := by
    rw [Array.findIdx?_eq_none_iff]
    intro e1 he1
    exact Bool.eq_false_iff.mpr fun hc => nk (e.mem_is (C := C) (List.mem_toArray.mp he1) hc)
  rw [non]
  refine wpAny_updateDictKeys ho rfl (po (q _ (H.upd U ⟨es ++ [⟨PyData.keyHash C.w.params x, .str x t, v⟩], n + 1, ?_, e.snoc t, ne⟩ (upd_other h d _)))) (by rw [List.size_toArray, sizeLine_eq]; omega)
  have := Heap.get?_update_self (h := h) (Obj.mapDictKeys (·.push ⟨PyData.keyHash C.w.params x, .str x t, v⟩)) ho rfl
  simp only [Obj.mapDictKeys, List.push_toArray] at this
  exact this
theorem range_split (n i : Nat) (h : i < n) : List.range' i (n - i) = i :: List.range' (i + 1) (n - (i + 1)) := by
  have e : n - i = (n - (i + 1)) + 1 := by omega
  rw [e, List.range'_succ]
theorem W_findNone {x : Str} {t : Tok} {Q : Option Nat → Heap → Prop} (s : Sd C.w.params h d ks vs) (nk : x ∉ ks) (q : Q none h) : W C A (dictFind d (.str x t) (PyData.keyHash C.w.params x)) Q E h := fun k => by
  obtain ⟨es, n, ho, e, ne⟩ := s
  have hk : KeysOf (strKind C.prog C.w) es.toArray := (pairs_of e).2
  refine wpAny_dictFind_of (knd := strKind C.prog C.w) (s := C.sh h k) (k := x) (key := .str x t) (strKind_is C.prog C.w x t) ho rfl hk ?_
  have non : (es.toArray.findIdx? fun e => (strKind C.prog C.w).is x e.key) = none := by
    rw [Array.findIdx?_eq_none_iff]
    intro e1 he1
    exact Bool.eq_false_iff.mpr fun hc => nk (e.mem_is (C := C) (List.mem_toArray.mp he1) hc)
  rw [non]
  exact po q
theorem Ents.at {P : Params} {es : List DictEntry} (e : Ents P ks vs es) {i : Nat} (hi : i < ks.length) : ∃ x t v, ks[i]? = some x ∧ vs[i]? = some v ∧ es[i]? = some ⟨PyData.keyHash P x, .str x t, v⟩ := by
  induction e generalizing i with
  | nil => cases hi
  | @cons k t v ks vs es e ih =>
    cases i with
    | zero => exact ⟨k, t, v, rfl, rfl, rfl⟩
    | succ i => simpa using ih (i := i) (by simpa using hi)
theorem W_isInst {v : Value} {T U : String} {b : Bool} {Q : Bool → Heap → Prop} (hT : ∀ k, (C.sh h k).TypeIs v T) (hs : isSubtype (.type T) (.type U) = pure b) (q : Q b h) : W C A (isInstance v (.type U)) Q E h := fun k => wpAny_isInstance (hT k) hs (po q)
theorem W_special {v : Value} {T : String} {name : Str} {r : Option Value} {Q : Option Value → Heap → Prop} (hT : ∀ k, (C.sh h k).TypeIs v T) (hl : typeLookup (.type T) name = pure r) (q : Q r h) : W C A (specialOf v name) Q E h := fun k => wpAny_specialOf (hT k) hl (po q)
theorem W_dEnts {a : Addr} {es : List DictEntry} {n : Nat} {Q : Array DictEntry → Heap → Prop} (ho : h.get? a = some (dictOf es n)) (q : Q es.toArray h) : W C A (dictEntries a) Q E h := fun k => wpAny_dictEntries ho rfl (po q)
theorem W_dEpo {a : Addr} {es : List DictEntry} {n : Nat} {Q : Nat → Heap → Prop} (ho : h.get? a = some (dictOf es n)) (q : Q n h) : W C A (dictEpoch a) Q E h := fun k => wpAny_dictEpoch ho rfl (po q)
theorem forIn_skip {α : Type} (f : α → PUnit → Sem (ForInStep PUnit)) : ∀ l : List α, (∀ e ∈ l, f e PUnit.unit = pure (.yield PUnit.unit)) → forIn l PUnit.unit f = (pure PUnit.unit : Sem PUnit)
  | [], _ => by rw [List.forIn_nil]
  | e :: r, hf => by
    rw [List.forIn_cons, hf e (.head _), pure_bind]
    exact forIn_skip f r fun e he => hf e (.tail _ he)
theorem Ents.strs {P : Params} {es : List DictEntry} (e : Ents P ks vs es) {e1 : DictEntry} (h1 : e1 ∈ es) : ∃ x t, e1.key = .str x t := by
  induction e with
  | nil => cases h1
  | cons e2 ih =>
    cases h1 with
    | head => exact ⟨_, _, rfl⟩
    | tail _ he => exact ih he
theorem W_merge {u : Bool} {Q : Unit → Heap → Prop} (H : Hp C.w.params g ((d, .sd [] []) :: V) h) (s : Sd C.w.params g m ks vs) (nd : ks.Nodup) (hz : ks.length ≤ 1000) (q : ∀ h', Hp C.w.params g ((d, .sd ks vs) :: V) h' → Q () h') : W C A (mergeMapping d (.ref m) u) Q E h := by
  obtain ⟨es, n, ho, e, ne⟩ := s
  have hl := e.len
  have at_ : ∀ {h' : Heap} {W' : Led}, Hp C.w.params g W' h' → h'.get? m = some (dictOf es n) := fun H' => H'.le _ _ ho
  have ents : ∀ {h' : Heap} {W' : Led} {Q' : Array DictEntry → Heap → Prop}, Hp C.w.params g W' h' → Q' es.toArray h' → W C A (dictEntries m) Q' E h' := fun H' q' => fun k => wpAny_dictEntries (at_ H') rfl (po q')
  have epo : ∀ {h' : Heap} {W' : Led} {Q' : Nat → Heap → Prop}, Hp C.w.params g W' h' → Q' n h' → W C A (dictEpoch m) Q' E h' := fun H' q' => fun k => wpAny_dictEpoch (at_ H') rfl (po q')
  have hT : ∀ k, (C.sh h k).TypeIs (.ref m) "dict" := fun k => ⟨_, at_ H, rfl⟩
  unfold mergeMapping
  refine W_bind (W_isInst hT isSubtype_dict_dict ?_)
  rw [if_pos rfl]
  refine W_bind (W_special hT F.slot_dict_iter.lookup (W_bind (W_pure ?_)))
  rw [show ((some (Value.builtin "dict.__iter__") : Option Value) == some (.builtin "dict.__iter__")) = true from by decide +kernel]
  dsimp only
  rw [if_neg (by rw [ne]; exact Bool.false_ne_true)]
  obtain ⟨es0, n0, ho0, e0, ne0⟩ := H.at (s := .sd [] []) (.head _)
  cases e0
  refine W_bind (W_dEnts ho0 ?_)
  rw [if_pos (by simp)]
  have hom : h.get? m = some (dictOf es n) := H.le _ _ ho
  refine W_bind (W_dEnts hom ?_)
  rw [List.forIn_toArray]
  refine W_bind (W_of_eq (forIn_skip _ es fun e1 h1 => ?_) ?_)
  · obtain ⟨x, t, hx⟩ := e.strs h1
    rw [hx]
  refine W_bind (W_dEnts hom ?_)
  refine W_bind (W_dEpo hom ?_)
  rw [List.size_toArray, List.range_eq_range']
  suffices hs : ∀ (j i : Nat) (h' : Heap), i + j = es.length → Hp C.w.params g ((d, .sd (ks.take i) (vs.take i)) :: V) h' → W C A (forIn (List.range' i j) PUnit.unit _) (fun _ h'' => Hp C.w.params g ((d, .sd ks vs) :: V) h'') E h' from
    W_bind (W_mono (hs es.length 0 h (by omega) H) (fun _ h2 H2 => W_pure (q h2 H2)) fun _ _ z => z)
  intro j
  induction j with
  | zero =>
    intro i h' hij H'
    rw [List.range'_zero, List.forIn_nil]
    refine W_pure ?_
    rw [List.take_of_length_le (by omega), List.take_of_length_le (by omega)] at H'
    exact H'
  | succ j ih =>
    intro i h' hij H'
    rw [List.range'_succ, List.forIn_cons]
    have hom' : h'.get? m = some (dictOf es n) := H'.le _ _ ho
    obtain ⟨x, t, v, e1, e2, e3⟩ := e.at (i := i) (by omega)
    refine W_bind (W_bind (W_dEnts hom' ?_))
    rw [List.getElem?_toArray, e3]
    dsimp only
    have nk : x ∉ ks.take i := fun mm => by
      obtain ⟨j2, hj2, ej⟩ := List.getElem_of_mem mm
      rw [List.length_take] at hj2
      have h3 : ks[j2]? = some x := by
        rw [List.getElem_take] at ej
        rw [← ej]; exact List.getElem?_eq_getElem (by omega)
      have := (List.getElem?_inj (by omega) nd).mp (h3.trans e1.symm)
      omega
    have tk : ks.take (i + 1) = ks.take i ++ [x] := by rw [List.take_add_one, e1]; rfl
    have tv : vs.take (i + 1) = vs.take i ++ [v] := by rw [List.take_add_one, e2]; rfl
    refine W_bind (W_holding ?_)
    have put : W C A (dictPut d (PyData.keyHash C.w.params x) (.str x t) v) (fun _ h2 => Hp C.w.params g ((d, .sd (ks.take (i + 1)) (vs.take (i + 1))) :: V) h2) E h' := by
      rw [tk, tv]
      exact W_put H' .head nk (by rw [List.length_take]; omega) fun h2 H2 => H2
    refine W_mono (Q := fun _ h2 => Hp C.w.params g ((d, .sd (ks.take (i + 1)) (vs.take (i + 1))) :: V) h2) ?_ (fun _ h2 H2 => W_bind (W_dEpo (H2.le _ _ ho) ?_)) fun _ _ z => z
    · cases u with
      | false => exact put
      | true =>
        refine W_bind (W_findNone (H'.at (s := .sd _ _) (.head _)) nk ?_)
        exact put
    · rw [if_neg (by simp)]
      exact W_pure (ih (i + 1) h2 (by omega) H2)
end

end
section
set_option linter.all false
section
variable {C : Cfg} {A : Around} {E : Value → Heap → Prop} {g g0 h : Heap} {V : Led} {en : Env} {d m : Addr} {ks : List Str} {vs : List Value}
theorem W_mk {f : Value} {x : Sem Value} {Q : Addr → Heap → Prop} (H : Hp C.w.params g V h) (Wd : Wld C g)
    (hx : ∀ d h0, Hp C.w.params g ((d, .sd [] []) :: V) h0 → W C A x (fun v h1 => ∃ m ks vs g1 V1, v = .ref m ∧ Sd C.w.params g1 m ks vs ∧ ks.Nodup ∧ ks.length ≤ 1000 ∧ Hp C.w.params g1 ((d, .sd [] []) :: V1) h1 ∧ ∀ h', Hp C.w.params g1 ((d, .sd ks vs) :: V1) h' → Q d h') E h0) :
    W C A (mergedKeywords f [(none, x)]) Q E h := by
  unfold mergedKeywords
  refine W_bind (W_alloc ?_)
  have H2 := H.own (s := .sd [] []) (o := { cls := .type "dict", data := .dict #[] }) ⟨[], 0, Heap.get?_push_size _ rfl, .nil, Wd.ne1 H.le⟩
  refine W_bind (W_holding ?_)
  dsimp only
  rw [List.forIn_cons, if_pos (show ([] : List (Str × Sem Value)).isEmpty = true from rfl)]
  refine W_bind (W_bind (W_bind (W_pure ?_)))
  refine W_bind (W_mono (hx _ _ H2) (fun v h1 z => ?_) fun _ _ z => z)
  obtain ⟨m, ks, vs, g1, V1, rfl, s, nd, hz, H3, q⟩ := z
  refine W_bind (W_onRaise (W_holding (W_tryCatch (W_onRaise (W_merge H3 s nd hz fun h' H4 => ?_)))))
  refine W_pure ?_
  dsimp only
  rw [List.forIn_nil]
  refine W_pure ?_
  rw [if_pos (show ([] : List (Str × Sem Value)).isEmpty = true from rfl)]
  exact W_pure (W_pure (q h' H4))
theorem forIn_kw {P : Params} (f : DictEntry → List (Str × Value) → Sem (ForInStep (List (Str × Value)))) (hf : ∀ hsh x t v acc, f ⟨hsh, .str x t, v⟩ acc = pure (.yield (acc ++ [(x, v)]))) {es : List DictEntry} (e : Ents P ks vs es) :
    ∀ acc, forIn es acc f = (pure (acc ++ ks.zip vs) : Sem (List (Str × Value))) := by
  induction e with
  | nil => intro acc; rw [List.forIn_nil]; simp
  | cons e ih =>
    intro acc
    rw [List.forIn_cons, hf, pure_bind]
    dsimp only
    rw [ih]
    simp
theorem W_kwIn {f : Value} {Q : List (Str × Value) → Heap → Prop} (s : Sd C.w.params h d ks vs) (q : Q (ks.zip vs) h) : W C A (keywordsIn f d) Q E h := by
  obtain ⟨es, n, ho, e, ne⟩ := s
  unfold keywordsIn
  refine W_bind (W_dEnts ho ?_)
  rw [List.forIn_toArray]
  refine W_bind (W_of_eq (forIn_kw (ks := ks) (vs := vs) _ (fun hsh x t v acc => rfl) e []) ?_)
  exact W_pure (by simpa using q)
theorem Sq.up {h h' : Heap} {a : Addr} {vs : List Value} (s : Sq h a vs) (le : Le h h') : Sq h' a vs := s.imp (·.up le) (·.up le)
theorem W_argsSK {e1 e2 : PySem.Expr} {p p2 pos : Pos} {f : Value} {Q : Args → Heap → Prop} (x : W C A (eval e1 en) (fun v h1 => ∃ a ws g1 V1, v = .ref a ∧ Sq g1 a ws ∧ ws.length ≤ 1000 ∧ Hp C.w.params g1 V1 h1 ∧ Wld C g1 ∧
      ∀ d h2, Hp C.w.params g1 ((d, .sd [] []) :: V1) h2 → W C A (eval e2 en) (fun v2 h3 => ∃ m ks vs, v2 = .ref m ∧ Sd C.w.params g1 m ks vs ∧ ks.Nodup ∧ ks.length ≤ 1000 ∧ Hp C.w.params g1 ((d, .sd [] []) :: V1) h3 ∧ ∀ h', Hp C.w.params g1 V1 h' → Q ⟨ws, ks.zip vs⟩ h') E h2) E h) :
    W C A (evalArgs f true (backTo pos (starEach [.Starred e1 p] en)) (backToKw pos (keywordEach [⟨none, e2, p2⟩] en))) Q E h := by
  show W C A (evalArgs f true [(true, (do let v ← eval e1 en; standAt pos; pure v))] [(none, (do let v ← eval e2 en; standAt pos; pure v))]) Q E h
  unfold evalArgs
  refine W_bind (W_bind (W_mono x (fun v h1 z => W_bind (W_standAt (W_pure (W_bind (W_pure ?_))))) fun _ _ z => z))
  obtain ⟨a, ws, g1, V1, rfl, s, hz, H, Wd, k⟩ := z
  refine W_holding ?_
  dsimp only
  rw [if_neg (by simp)]
  refine W_bind (W_mono (W_mk (Q := fun d h' => ∃ ks vs, Hp C.w.params g1 ((d, .sd ks vs) :: V1) h' ∧ ∀ h', Hp C.w.params g1 V1 h' → Q ⟨ws, ks.zip vs⟩ h') H Wd fun d h2 H2 => ?_) (fun d h2 z => ?_) fun _ _ z => z)
  · refine W_bind (W_mono (k d h2 H2) (fun v h3 z => W_bind (W_standAt (W_pure ?_))) fun _ _ z => z)
    obtain ⟨m, ks, vs, rfl, s1, nd, hk, H3, q⟩ := z
    exact ⟨m, ks, vs, g1, V1, rfl, s1, nd, hk, H3, fun h' H4 => ⟨ks, vs, H4, q⟩⟩
  · obtain ⟨ks, vs, H2, q⟩ := z
    refine W_bind (W_bind (W_nia (s.up H2.le) ?_))
    rw [if_neg Bool.false_ne_true]
    refine W_holding (W_collect H2 (s.up H2.le) hz fun h3 H3 => ?_)
    refine W_bind (W_holding (W_kwIn (H3.at (s := .sd ks vs) (.head _)) ?_))
    exact W_pure (q h3 H3.drop)
theorem W_argsK {e2 : PySem.Expr} {p2 pos : Pos} {f : Value} {Q : Args → Heap → Prop} (H : Hp C.w.params g V h) (Wd : Wld C g)
    (x : ∀ d h2, Hp C.w.params g ((d, .sd [] []) :: V) h2 → W C A (eval e2 en) (fun v2 h3 => ∃ m ks vs g1 V1, v2 = .ref m ∧ Sd C.w.params g1 m ks vs ∧ ks.Nodup ∧ ks.length ≤ 1000 ∧ Hp C.w.params g1 ((d, .sd [] []) :: V1) h3 ∧ ∀ h', Hp C.w.params g1 V1 h' → Q ⟨[], ks.zip vs⟩ h') E h2) :
    W C A (evalArgs f true (backTo pos (starEach [] en)) (backToKw pos (keywordEach [⟨none, e2, p2⟩] en))) Q E h := by
  show W C A (evalArgs f true [] [(none, (do let v ← eval e2 en; standAt pos; pure v))]) Q E h
  unfold evalArgs
  refine W_bind (W_bind (W_spl_nil (W_pure (W_bind (W_pure ?_)))))
  refine W_holding ?_
  dsimp only
  rw [if_neg (by simp)]
  refine W_bind (W_mono (W_mk (Q := fun d h' => ∃ ks vs g1 V1, Hp C.w.params g1 ((d, .sd ks vs) :: V1) h' ∧ ∀ h', Hp C.w.params g1 V1 h' → Q ⟨[], ks.zip vs⟩ h') H Wd fun d h2 H2 => ?_) (fun d h2 z => ?_) fun _ _ z => z)
  · refine W_bind (W_mono (x d h2 H2) (fun v h3 z => W_bind (W_standAt (W_pure ?_))) fun _ _ z => z)
    obtain ⟨m, ks, vs, g1, V1, rfl, s1, nd, hk, H3, q⟩ := z
    exact ⟨m, ks, vs, g1, V1, rfl, s1, nd, hk, H3, fun h' H4 => ⟨ks, vs, g1, V1, H4, q⟩⟩
  · obtain ⟨ks, vs, g1, V1, H2, q⟩ := z
    refine W_bind (W_pure ?_)
    refine W_bind (W_holding (W_kwIn (H2.at (s := .sd ks vs) (.head _)) ?_))
    exact W_pure (q h2 H2.drop)
end

end
section
set_option linter.all false
section
variable {C : Cfg} {A : Around} {E : Value → Heap → Prop} {g g0 h : Heap} {V : Led} {en : Env} {t : Tok}
theorem cm_a (P : Params) : specialIn (KF P) (.ref 344) "__getattribute__" = some (some (.builtin "type.__getattribute__")) := by kernel_rfl
theorem cm_b (P : Params) : readsIn (KF P) 344 (.type "type") = true := by kernel_rfl
theorem cm_c (P : Params) : findCls (KF P) (.ref 344) (.type "type") (Str.ofString "from_counting_attr") = some (.get (.builtin "classmethod.__get__") (.ref 333) .none (.ref 344)) := by kernel_rfl
theorem cm_d (P : Params) : (recIn (KF P) 333 "classmethod").map (fun l => l.head? == some (.ref 331)) = some true := by kernel_rfl
theorem cm_e (P : Params) : ∃ r, recIn (KF P) 333 "classmethod" = some (.ref 331 :: r) := by
  have e := cm_d P
  cases q : recIn (KF P) 333 "classmethod" with
  | none => rw [q] at e; cases e
  | some l =>
    rw [q] at e
    cases l with
    | nil => simp at e
    | cons a r => exact ⟨r, by simpa using e⟩
theorem W_methCM {pl : Sem Bool} {Q : Value × List Value → Heap → Prop} (H : Hp C.w.params g V h) (Wd : Wld C g) (q : ∀ m g' h', Le g g' → g'.get? m = some (methodObj (.ref 331) (.ref 344)) → Hp C.w.params g' V h' → Q (.ref m, []) h') :
    W C A (getMethod (.ref 344) "from_counting_attr" pl) Q E h := fun k => by
  have X := Wd.K.keeps H.le
  obtain ⟨r, e⟩ := cm_e C.w.params
  obtain ⟨g', l, e', H'⟩ := H.keep (o := methodObj (.ref 331) (.ref 344)) rfl
  refine method_cls (s := C.sh h k) X (cm_a _) ?_
  exact cls_bind (s := C.sh h k) X (cm_b _) (cm_c _) (wpAny_call (cm_get (s := C.sh h (k + 1)) X e (handed_on rfl (po (q _ g' _ l e' H')))))
theorem CW_method {m f c : Addr} {pos : List Value} {kw : List (Str × Value)} {R : Result → Heap → Prop} (ho : h.get? m = some (methodObj (.ref f) (.ref c))) (x : CW C A (.call (.ref f) ⟨.ref c :: pos, kw⟩) R h) : CW C A (.call (.ref m) ⟨pos, kw⟩) R h := fun k =>
  method_call (s := C.sh h k) ho (x k)
theorem Kpr.meth {m f c : Addr} {o : Obj} {fd : FuncData} (e : h.get? m = some (methodObj (.ref f) (.ref c))) (ef : h.get? f = some o) (d : o.data = .func fd) : Kpr C (.ref m) h := ⟨h, .boundFrame, Le.refl _, by
  unfold keeperOf
  refine (Looks.ld (part := none) e).andThen ?_
  dsimp only
  rw [if_neg (by decide)]
  refine (Looks.ld (part := none) ef).andThen ?_
  rw [d]; exact .now⟩
theorem strs_of {vs : List Value} {xs : List Str} (s : Mine.StrsAre vs xs) : PyProof.Rows.StrsAre vs xs := by
  obtain ⟨l, at_⟩ := s
  induction xs generalizing vs with
  | nil => cases vs with
    | nil => exact .nil
    | cons _ _ => simp at l
  | cons x xs ih => cases vs with
    | nil => simp at l
    | cons v vs =>
      obtain ⟨t, e⟩ := at_ 0 x rfl
      cases e
      exact .cons x t (ih (by simpa using l) fun i y e => by simpa using at_ (i + 1) y (by simpa using e))
theorem any_mem {x : Str} {xs : List Str} : (xs.any (· == x)) = decide (x ∈ xs) := by
  by_cases h : x ∈ xs
  · rw [decide_eq_true h, List.any_eq_true]; exact ⟨x, h, by simp⟩
  · rw [decide_eq_false h, List.any_eq_false]; intro y hy q; exact h (by rw [← beq_iff_eq.mp q]; exact hy)
theorem W_inL {l : Addr} {vs : List Value} {xs : List Str} {x : Str} {Q : Value → Heap → Prop} (L : Lst h l vs) (s : Mine.StrsAre vs xs) (q : Q (.bool (decide (x ∈ xs))) h) : W C A (compareOp .In (.str x t) (.ref l)) Q E h := fun k => by
  rw [← any_mem] at q
  exact in_list_strs (s := C.sh h k) L.is (strs_of s) (po q)
theorem W_notInL {l : Addr} {vs : List Value} {xs : List Str} {x : Str} {Q : Value → Heap → Prop} (L : Lst h l vs) (s : Mine.StrsAre vs xs) (q : Q (.bool (!decide (x ∈ xs))) h) : W C A (compareOp .NotIn (.str x t) (.ref l)) Q E h := fun k => by
  rw [← any_mem] at q
  exact notin_list_strs (s := C.sh h k) L.is (strs_of s) (po q)
theorem W_FVr {e : PySem.Expr} {pos : Pos} {Q : Value → Heap → Prop} (x : W C A (eval e en) (fun v h1 => W C A (pyReprObj v) (fun r h2 => W C A (formatField r Str.empty) Q E h2) E h1) E h) : W C A (eval (.FormattedValue e 114 none pos) en) Q E h := fun k =>
  wpAny_FormattedValue_repr (wpAny_mono (x k) (fun v s1 ⟨h1, k1, e, z⟩ => e ▸ wpAny_mono (z k1) (fun _ _ ⟨h2, k2, e2, z2⟩ => e2 ▸ z2 k2) fun _ _ z => z) fun _ _ z => z)
theorem W_reprS {x : Str} {Q : Value → Heap → Prop} (hz : (reprText x).length ≤ 1000) (q : ∀ t, Q (.str (reprText x) t) h) : W C A (pyReprObj (.str x t)) Q E h := fun k =>
  wpAny_pyReprObj_str (po (q _)) (by rw [sizeLine_eq]; omega)
def Shrt (x : Str) : Prop := x.length ≤ 10 ∧ (reprText x).length ≤ 200
end

end
section
set_option linter.all false
section
variable {C : Cfg} {A : Around} {E : Value → Heap → Prop} {g g0 h : Heap} {V : Led} {en cen : Env} {L Cf D : Addr} {ns ns' : List (Str × NameKind)} {xs cxs : List Str} {vs vs' cvs : List (Option Value)} {cl cl' : List (Str × Addr)} {tg iter elt : PySem.Expr} {it : Value} {n : Nat} {S : Nat → Led} {Y : Nat → Heap → Value → Prop} {pos : Pos} {scope : Scope} {ifs : List PySem.Expr}
theorem Hp.rot2 {P : Params} {a b c : Addr × Sp} (H : Hp P g (a :: b :: c :: V) h) : Hp P g (c :: a :: b :: V) h := H.perm ((List.Perm.swap _ _ _).cons _ |>.trans (.swap _ _ _))
theorem CW_compLV {R : Result → Heap → Prop} (T : Ity C A tg it n S Y g0) (J : Nat → Heap → List Value → Led → Prop) (mono : ∀ i g g' acc W, Le g g' → J i g acc W → J i g' acc W) (hn : n ≤ 1000)
    (H : Hp C.w.params g ((Cf, .frm cxs cvs) :: (D, .lst []) :: (V ++ S 0)) h) (le : Le g0 g) (h0 : J 0 g [] V)
    (step : ∀ i g acc W1 cvs h v, Le g0 g → i < n → J i g acc W1 → Y i g v → Hp C.w.params g ((Cf, .frm cxs cvs) :: (D, .lst acc) :: (W1 ++ S (i + 1))) h →
      W C A (assign tg cen v) (fun _ h2 => W C A (tests ifs cen) (fun ok h3 =>
        if ok = true then W C A (eval elt cen) (fun y h4 => ∃ g' cvs' W', Le g g' ∧ J (i + 1) g' (acc ++ [y]) W' ∧ Hp C.w.params g' ((Cf, .frm cxs cvs') :: (D, .lst acc) :: (W' ++ S (i + 1))) h4) No h3
        else ∃ g' cvs' W', Le g g' ∧ J (i + 1) g' acc W' ∧ Hp C.w.params g' ((Cf, .frm cxs cvs') :: (D, .lst acc) :: (W' ++ S (i + 1))) h3) No h2) No h)
    (done : ∀ g acc W cvs h, Le g0 g → J n g acc W → Hp C.w.params g ((Cf, .frm cxs cvs) :: (D, .lst acc) :: W) h → R (.ok .next) h) :
    CW C A (.compLoop (.ListComp elt [⟨tg, iter, ifs, 0⟩] scope pos) 0 it (.ref D) cen) R h := fun k => by
  refine codeAny_loop rfl (fun m s' => ∃ i h' k' g' acc W cvs, s' = C.sh h' k' ∧ i + m = n ∧ acc.length ≤ i ∧ Le g0 g' ∧ J i g' acc W ∧ Hp C.w.params g' ((Cf, .frm cxs cvs) :: (D, .lst acc) :: (W ++ S i)) h') (fun m s' => ?_) n ⟨0, h, k, g, [], V, cvs, rfl, by omega, by simp, le, h0, H⟩
  rintro ⟨i, h', k', g', acc, W1, cvs', rfl, hm, ha, le', hI, H'⟩
  show wpAny _ A ((compTurn (.ListComp elt [⟨tg, iter, ifs, 0⟩] scope pos) 0 it (.ref D) cen).onRaise (fun x => do noteFrame x cen; theTreesLotGoes x)) _ _ (C.sh h' k')
  refine wpAny_onRaise ?_
  rw [compTurn_list]
  refine wpAny_bind (wpAny_standAt (wpAny_bind ?_))
  by_cases hi : i < n
  · refine wpAny_mono (T.next (E := No) (E' := No) hi le' (V := (Cf, .frm cxs cvs') :: (D, .lst acc) :: W1) H' (Q := fun v h1 => W C A (assign tg cen v) (fun _ h2 => W C A (tests ifs cen) (fun ok h3 =>
        if ok = true then W C A (eval elt cen) (fun y h4 => ∃ g' cvs' W', Le g0 g' ∧ J (i + 1) g' (acc ++ [y]) W' ∧ Hp C.w.params g' ((Cf, .frm cxs cvs') :: (D, .lst acc) :: (W' ++ S (i + 1))) h4) No h3
        else ∃ g' cvs' W', Le g0 g' ∧ J (i + 1) g' acc W' ∧ Hp C.w.params g' ((Cf, .frm cxs cvs') :: (D, .lst acc) :: (W' ++ S (i + 1))) h3) No h2) No h1) ?_ k') (fun r s1 z => ?_) fun e s1 z => no_of z
    · intro v g2 h2 le2 hy H2
      refine W_mono (step i g2 acc W1 cvs' h2 v (le'.trans le2) hi (mono _ _ _ _ _ le2 hI) hy H2) (fun _ h3 z => W_mono z (fun ok h4 z => ?_) fun _ _ z => z) fun _ _ z => z
      split at z
      · rename_i q
        rw [if_pos q]
        exact W_mono z (fun y h5 ⟨g5, c5, W5, l5, z⟩ => ⟨g5, c5, W5, (le'.trans le2).trans l5, z⟩) fun _ _ z => z
      · rename_i q
        rw [if_neg q]
        obtain ⟨g5, c5, W5, l5, z⟩ := z
        exact ⟨g5, c5, W5, (le'.trans le2).trans l5, z⟩
    · obtain ⟨h1, k1, rfl, v, rfl, z⟩ := z
      refine wpAny_bind (wpAny_mono (z k1) (fun _ s2 z => ?_) fun e s2 z => no_of z)
      obtain ⟨h2, k2, rfl, z⟩ := z
      refine wpAny_bind (wpAny_mono (z k2) (fun _ s3 z => ?_) fun e s3 z => no_of z)
      obtain ⟨h3, k3, rfl, z⟩ := z
      refine wpAny_bind (wpAny_mono (z k3) (fun ok s4 z => ?_) fun e s4 z => no_of z)
      obtain ⟨h4, k4, rfl, z⟩ := z
      cases ok with
      | false =>
        obtain ⟨g5, c5, W5, l5, j5, H5⟩ := z
        exact wpAny_pure ⟨rfl, m - 1, by omega, i + 1, h4, k4, g5, acc, W5, c5, rfl, by omega, by omega, l5, j5, H5⟩
      | true =>
        refine wpAny_bind (wpAny_bind (wpAny_mono (z k4) (fun y s5 z => ?_) fun e s5 z => no_of z))
        obtain ⟨h5, k5, rfl, g5, c5, W5, l5, j5, H5⟩ := z
        refine wpAny_bind (wpAny_mono (W_append (C := C) (A := A) (E := No) (x := y) (Q := fun _ h6 => Hp C.w.params g5 ((Cf, .frm cxs c5) :: (D, .lst (acc ++ [y])) :: (W5 ++ S (i + 1))) h6) H5 (.tail .head) (by omega) (fun h6 H6 => H6) k5) (fun _ s6 z => ?_) fun e s6 z => no_of z)
        obtain ⟨h6, k6, rfl, H6⟩ := z
        exact wpAny_pure (wpAny_pure ⟨rfl, m - 1, by omega, i + 1, h6, k6, g5, acc ++ [y], W5, c5, rfl, by omega, by rw [List.length_append]; simp; omega, l5, j5, H6⟩)
  · have : i = n := by omega
    subst this
    refine wpAny_mono ((T.done (E := No) le' (V := (Cf, .frm cxs cvs') :: (D, .lst acc) :: W1) H' (Q := fun h1 => R (.ok .next) h1) (fun h1 H1 => done g' acc W1 cvs' h1 le' hI H1)) k') (fun r s1 z => ?_) fun e s1 z => no_of z
    obtain ⟨h1, k1, rfl, rfl, z⟩ := z
    exact wpAny_pure (po z)
def LcV (C : Cfg) (A : Around) (tg elt : PySem.Expr) (ifs : List PySem.Expr) (ns' : List (Str × NameKind)) (cxs : List Str) (cl' : List (Str × Addr)) (K : Heap → Led → Addr → List Value → Prop) (it : Value) (h : Heap) : Prop :=
  ∃ V n S Y g, ∃ J : Nat → Heap → List Value → Led → Prop, Ity C A tg it n S Y g ∧ n ≤ 1000 ∧ Hp C.w.params g (V ++ S 0) h ∧ J 0 g [] V ∧ (∀ i g g' acc W, Le g g' → J i g acc W → J i g' acc W) ∧
    (∀ i g' acc W1 Cf D cen cvs v h3, Le g g' → i < n → J i g' acc W1 → Y i g' v → Fe cen Cf ns' cxs cl' → Hp C.w.params g' ((Cf, .frm cxs cvs) :: (D, .lst acc) :: (W1 ++ S (i + 1))) h3 →
      W C A (assign tg cen v) (fun _ h2 => W C A (tests ifs cen) (fun ok h3 =>
        if ok = true then W C A (eval elt cen) (fun y h4 => ∃ g'' cvs' W', Le g' g'' ∧ J (i + 1) g'' (acc ++ [y]) W' ∧ Hp C.w.params g'' ((Cf, .frm cxs cvs') :: (D, .lst acc) :: (W' ++ S (i + 1))) h4) No h3
        else ∃ g'' cvs' W', Le g' g'' ∧ J (i + 1) g'' acc W' ∧ Hp C.w.params g'' ((Cf, .frm cxs cvs') :: (D, .lst acc) :: (W' ++ S (i + 1))) h3) No h2) No h3) ∧
    (∀ g' D acc W1, Le g g' → J n g' acc W1 → K g' W1 D acc)
theorem W_AssignLCV {y : Str} {py spos : Pos} {Q : Flow → Heap → Prop} (F : Fe en L ns xs cl) (X : Cx scope ns ns' cl cl' cxs)
    (hsw : swapsWith (.ListComp elt [⟨tg, iter, ifs, 0⟩] scope pos) (some (.Name y py)) spos.line en = pure true)
    (x : W C A (eval iter en) (fun xv h1 => W C A (pyIter xv) (fun it h2 => LcV C A tg elt ifs ns' cxs cl' (fun g' W D acc => ∃ V vs vs', W = (L, .frm xs vs) :: V ∧ St xs vs y (.ref D) vs' ∧ ∀ h', Hp C.w.params g' ((L, .frm xs vs') :: (D, .lst acc) :: V) h' → Q .next h') it h2) E h1) E h)
    (hs : ∀ x, foldedSetIterable iter en x = pure x) : W C A (exec (.Assign [.Name y py] (.ListComp elt [⟨tg, iter, ifs, 0⟩] scope pos) spos) en) Q E h := fun k => by
  rw [exec_Assign_Name_used _ _ _ _ hsw]
  refine wpAny_bind (wpAny_standAt (wpAny_bind ?_))
  show wpAny _ A (do let _ ← comprehension (.ListComp elt [⟨tg, iter, ifs, 0⟩] scope pos) scope en _ (newList []) false (eval iter en) (some (assign (.Name y py) en))) _ _ (C.sh h k)
  refine wpAny_bind (wpAny_mono (Q := fun _ => Po C Q .next) ?_ (fun _ s' hq => wpAny_pure (wpAny_pure hq)) fun _ _ e => e)
  have noc := fun y hy => List.all_eq_true.mp X.noc y hy
  refine wpAny_comprehension_free (use := some (assign (.Name y py) en)) (Q := fun _ s' => Po C Q .next s') rfl hs (clos_of (by rw [F.cells]; exact X.clo)) X.kind (fun y hy hl => ?_) (wpAny_mono (x k) (fun xv s1 z => ?_) fun _ _ z => z)
  · have := noc y hy
    rw [hl] at this
    simpa using this
  obtain ⟨h1, k1, rfl, z⟩ := z
  refine wpAny_mono (z k1) (fun it s2 z => ?_) fun _ _ z => z
  obtain ⟨h2, k2, rfl, V, n, S, Y, g, J, T, hn, H, h0, mono, step, done⟩ := z
  refine wpAny_mono (W_newList (C := C) (A := A) (E := E) (Q := fun a h' => ∃ D, a = .ref D ∧ Hp C.w.params g ((D, .lst []) :: (V ++ S 0)) h') H (by simp) (fun a h' H' => ⟨a, rfl, H'⟩) k2) (fun acc s3 z => ?_) fun _ _ z => z
  obtain ⟨h3, k3, rfl, D, rfl, H3⟩ := z
  have z := (comp_frame (e := .ListComp elt [⟨tg, iter, ifs, 0⟩] scope pos) (it := it) (acc := .ref D) (C := C) (A := A) (E := E) (R := fun Cf r h' => r = .ok .next ∧ ∃ g' acc W1 cvs, Le g g' ∧ J n g' acc W1 ∧ Hp C.w.params g' ((Cf, .frm cxs cvs) :: (D, .lst acc) :: W1) h') F X H3 (fun Cf cen h4 Fc H4 => by
    refine CW_compStart (fun k' => ?_) ?_
    · exact T.self (V := (Cf, .frm cxs _) :: (D, .lst []) :: V) (Le.refl g) H4 ⟨rfl, rfl⟩ k'
    · refine CW_compLV T J mono hn H4 (Le.refl g) h0 (fun i g' acc W1 cvs h5 v le hi hj hy H5 => step i g' acc W1 Cf D cen cvs v h5 le hi hj hy Fc H5) (fun g' acc W1 cvs h5 le hj H5 => ⟨rfl, g', acc, W1, cvs, le, hj, H5⟩))) k3
  refine wpAny_mono z (fun cenv s4 z => ?_) fun _ _ z => z
  · refine codeAny_mono z fun r s5 z => ?_
    obtain ⟨h5, k5, rfl, rfl, g', acc, W1, cvs, le, hj, H5⟩ := z
    obtain ⟨V2, vs, vs', rfl, hst, q⟩ := done g' D acc W1 le hj
    show wpAny _ A (assign (.Name y py) en (.ref D)) _ _ _
    have H6 : Hp C.w.params g' ((L, .frm xs vs) :: (cenv.locals, .frm cxs cvs) :: (D, .lst acc) :: V2) h5 := H5.rot2
    have z : W C A (assign (.Name y py) en (.ref D)) (fun _ h' => Hp C.w.params g' ((L, .frm xs vs') :: (cenv.locals, .frm cxs cvs) :: (D, .lst acc) :: V2) h') E h5 := W_as_Name (W_bindL F H6 hst (fun h' H' => H'))
    refine wpAny_mono (z k5) (fun _ s6 z => ?_) fun _ _ z => z
    obtain ⟨h6, k6, rfl, H7⟩ := z
    have H8 := H7.swap
    obtain ⟨m, hm, _⟩ := H8.at (s := .frm _ _) (.head _)
    exact ⟨m, hm, fun h9 hs9 => po (q h9 (H8.drop_ns hs9))⟩
end

end
section
set_option linter.all false
def setP (pr : Program) (w : World) (n : Nat) (o : Obj) : Prop := ∃ (S : Str → Bool) (es : Array (Int × Value)) (ep : Nat) (t : SetTable), o.ExactSet ∧ o.data = .set es ep t ∧ ElemsOf (strKind pr w) es.toList ∧ (∀ k, S k = true ↔ ∃ e ∈ es.toList, (strKind pr w).is k e.2 = true) ∧ es.size < scanBound ∧ t.fits es.size = true ∧ es.size ≤ n
theorem setP_of {pr : Program} {w : World} {h : Heap} {a : Addr} {o : Obj} {n : Nat} (e : h.get? a = some o) (p : setP pr w n o) : ∃ S m, h.SetOf (strKind pr w) a S m ∧ m ≤ n :=
  let ⟨S, es, ep, t, a1, a2, a3, a4, a5, a6, a7⟩ := p; ⟨S, _, ⟨o, es, ep, t, e, a1, a2, a3, a4, a5, a6, rfl⟩, a7⟩
theorem setP_to {pr : Program} {w : World} {h : Heap} {a : Addr} {S : Str → Bool} {m n : Nat} (s : h.SetOf (strKind pr w) a S m) (l : m ≤ n) : ∃ o, h.get? a = some o ∧ setP pr w n o :=
  let ⟨o, es, ep, t, e, a1, a2, a3, a4, a5, a6, a7⟩ := s; ⟨o, e, S, es, ep, t, a1, a2, a3, a4, a5, a6, by omega⟩
theorem compTurn_set (elt target iter : PySem.Expr) (ifs : List PySem.Expr) (scope : Scope) (pos : Pos) (it acc : Value) (env : Env) :
    compTurn (.SetComp elt [⟨target, iter, ifs, 0⟩] scope pos) 0 it acc env = (do
      standAt iter.pos
      match ← pyNext it with
      | none => pure (.done .next)
      | some v =>
        letOwnedTupleGo target it v
        assign target env v
        let mut ok := true
        for c in ifs do
          if ok then ok ← isTrue c env (eval c env)
        if ok then
          (do let v ← eval elt env; standAt elt.pos; let _ ← call (.builtin "set.add") [acc, v])
        again (.compLoop (.SetComp elt [⟨target, iter, ifs, 0⟩] scope pos) 0 it acc env)) := by rfl
theorem codeAny_compStart_set {prog : Program} {w : World} {A : Around} {R : Result → Shared → Prop} {s : Shared} {elt target iter ifs rest scope pos it acc env}
    (h0 : codeAny (model prog w) A (.compLoop (.SetComp elt (⟨target, iter, ifs, 0⟩ :: rest) scope pos) 0 it acc env) R s)
    (h : wpAny (model prog w) A (pyIter it) (fun it' s' => codeAny (model prog w) A (.compLoop (.SetComp elt (⟨target, iter, ifs, 0⟩ :: rest) scope pos) 0 it' acc env) R s')
      (notedBy (model prog w) A env fun x s' => R (.error x) s') s) :
    codeAny (model prog w) A (.compStart (.SetComp elt (⟨target, iter, ifs, 0⟩ :: rest) scope pos) 0 it acc env) R s := by
  refine codeAny_of_tree ?_
  show wpAny _ _ ((compStart (.SetComp elt (⟨target, iter, ifs, 0⟩ :: rest) scope pos) 0 it acc env).onRaise (fun x => do noteFrame x env; standAt theWindowsPlace)) _ _ s
  refine wpAny_notedAt ?_
  unfold compStart
  show wpAny _ _ (ask >>= _) _ _ s
  refine wpAny_bind (wpAny_askSetting (wpAny_ite ?_))
  split
  · first
      | exact wpAny_bind (wpAny_pure (wpAny_pure (And.intro rfl h0)))
      | exact wpAny_pure (And.intro rfl h0)
  · refine wpAny_bind (wpAny_rule ?_)
    show wpAny _ _ (standAt iter.pos >>= _) _ _ s
    exact wpAny_bind (wpAny_standAt (wpAny_bind (wpAny_mono h (fun it' s' h' => wpAny_pure (And.intro rfl h')) fun _ _ x => x)))
section
variable {C : Cfg} {A : Around} {E : Value → Heap → Prop} {g g0 h : Heap} {V : Led} {en cen : Env} {L Cf D : Addr} {ns ns' : List (Str × NameKind)} {xs cxs : List Str} {vs vs' cvs : List (Option Value)} {cl cl' : List (Str × Addr)} {tg iter elt : PySem.Expr} {it : Value} {n : Nat} {S : Nat → Led} {Y : Nat → Heap → Value → Prop} {pos : Pos} {scope : Scope}
theorem W_setAdd {x : Str} {t : Tok} {V' : Led} {n : Nat} {Q : Value → Heap → Prop} (H : Hp C.w.params g V h) (U : Up D (.any (setP C.prog C.w n)) (.any (setP C.prog C.w (n + 1))) V V') (hz : n < 1000)
    (q : ∀ h', Hp C.w.params g V' h' → Q .none h') : W C A (call (.builtin "set.add") [.ref D, .str x t]) Q E h := fun k => by
  obtain ⟨o, ho, p⟩ := H.at U.mem
  obtain ⟨Sx, m, s, hm⟩ := setP_of ho p
  refine call_set_add (s := C.sh h k) (knd := strKind C.prog C.w) (k := x) (strKind_is C.prog C.w x t) rfl s (by have : scanBound = 4096 := rfl; omega) fun h' sb s' => po (q h' (H.upd U ?_ fun b o hb e => (sb.2 b hb).trans e))
  exact setP_to s' (by split <;> omega)
theorem CW_compS {R : Result → Heap → Prop} (T : Ity C A tg it n S Y g0) (hn : n ≤ 900)
    (H : Hp C.w.params g ((Cf, .frm cxs cvs) :: (D, .any (setP C.prog C.w 0)) :: (V ++ S 0)) h) (le : Le g0 g)
    (step : ∀ i g cvs p h v, Le g0 g → i < n → Y i g v → Hp C.w.params g ((Cf, .frm cxs cvs) :: (D, .any p) :: (V ++ S (i + 1))) h →
      W C A (assign tg cen v) (fun _ h2 => W C A (eval elt cen) (fun y h4 => ∃ g' cvs' x t, y = .str x t ∧ Le g g' ∧ Hp C.w.params g' ((Cf, .frm cxs cvs') :: (D, .any p) :: (V ++ S (i + 1))) h4) No h2) No h)
    (done : ∀ g cvs h, Le g0 g → Hp C.w.params g ((Cf, .frm cxs cvs) :: (D, .any (setP C.prog C.w n)) :: V) h → R (.ok .next) h) :
    CW C A (.compLoop (.SetComp elt [⟨tg, iter, [], 0⟩] scope pos) 0 it (.ref D) cen) R h := fun k => by
  refine codeAny_loop rfl (fun m s' => ∃ i h' k' g' cvs, s' = C.sh h' k' ∧ i + m = n ∧ Le g0 g' ∧ Hp C.w.params g' ((Cf, .frm cxs cvs) :: (D, .any (setP C.prog C.w i)) :: (V ++ S i)) h') (fun m s' => ?_) n ⟨0, h, k, g, cvs, rfl, by omega, le, H⟩
  rintro ⟨i, h', k', g', cvs', rfl, hm, le', H'⟩
  show wpAny _ A ((compTurn (.SetComp elt [⟨tg, iter, [], 0⟩] scope pos) 0 it (.ref D) cen).onRaise (fun x => do noteFrame x cen; theTreesLotGoes x)) _ _ (C.sh h' k')
  refine wpAny_onRaise ?_
  rw [compTurn_set]
  refine wpAny_bind (wpAny_standAt (wpAny_bind ?_))
  by_cases hi : i < n
  · refine wpAny_mono (T.next (E := No) (E' := No) hi le' (V := (Cf, .frm cxs cvs') :: (D, .any (setP C.prog C.w i)) :: V) H' (Q := fun v h1 => W C A (assign tg cen v) (fun _ h2 => W C A (eval elt cen) (fun y h4 => ∃ g' cvs' x t, y = .str x t ∧ Le g0 g' ∧ Hp C.w.params g' ((Cf, .frm cxs cvs') :: (D, .any (setP C.prog C.w i)) :: (V ++ S (i + 1))) h4) No h2) No h1) ?_ k') (fun r s1 z => ?_) fun e s1 z => no_of z
    · intro v g2 h2 le2 hy H2
      refine W_mono (step i g2 cvs' _ h2 v (le'.trans le2) hi hy H2) (fun _ h3 z => ?_) fun _ _ z => z
      exact W_mono z (fun y h5 ⟨g5, c5, x, t, e, l5, z⟩ => ⟨g5, c5, x, t, e, (le'.trans le2).trans l5, z⟩) fun _ _ z => z
    · obtain ⟨h1, k1, rfl, v, rfl, z⟩ := z
      refine wpAny_bind (wpAny_mono (z k1) (fun _ s2 z => ?_) fun e s2 z => no_of z)
      obtain ⟨h2, k2, rfl, z⟩ := z
      refine wpAny_bind (wpAny_mono (z k2) (fun _ s3 z => ?_) fun e s3 z => no_of z)
      obtain ⟨h3, k3, rfl, z⟩ := z
      dsimp only
      rw [List.forIn_nil]
      refine wpAny_bind (wpAny_pure ?_)
      rw [if_pos rfl]
      refine wpAny_bind (wpAny_bind (wpAny_mono (z k3) (fun y s5 z => ?_) fun e s5 z => no_of z))
      obtain ⟨h5, k5, rfl, g5, c5, x, t, rfl, l5, H5⟩ := z
      refine wpAny_bind (wpAny_standAt (wpAny_bind (wpAny_mono (W_setAdd (C := C) (A := A) (E := No) (x := x) (t := t) (n := i) (Q := fun _ h6 => Hp C.w.params g5 ((Cf, .frm cxs c5) :: (D, .any (setP C.prog C.w (i + 1))) :: (V ++ S (i + 1))) h6) H5 (.tail .head) (by omega) (fun h6 H6 => H6) k5) (fun _ s6 z => ?_) fun e s6 z => no_of z)))
      obtain ⟨h6, k6, rfl, H6⟩ := z
      exact wpAny_pure (wpAny_pure ⟨rfl, m - 1, by omega, i + 1, h6, k6, g5, c5, rfl, by omega, l5, H6⟩)
  · have : i = n := by omega
    subst this
    refine wpAny_mono ((T.done (E := No) le' (V := (Cf, .frm cxs cvs') :: (D, .any (setP C.prog C.w i)) :: V) H' (Q := fun h1 => R (.ok .next) h1) (fun h1 H1 => done g' cvs' h1 le' H1)) k') (fun r s1 z => ?_) fun e s1 z => no_of z
    obtain ⟨h1, k1, rfl, rfl, z⟩ := z
    exact wpAny_pure (po z)
theorem W_newSet {Q : Value → Heap → Prop} (H : Hp C.w.params g V h) (q : ∀ a h', Hp C.w.params g ((a, .any (setP C.prog C.w 0)) :: V) h' → Q (.ref a) h') : W C A (newSet (.type "set")) Q E h := fun k =>
  wpAny_newSet_of (s := C.sh h k) (knd := strKind C.prog C.w) fun led s => po (q _ _ (H.own (s := .any _) (setP_to s (Nat.le_refl _))))
theorem W_SetComp {Q : Value → Heap → Prop} (F : Fe en L ns xs cl) (X : Cx scope ns ns' cl cl' cxs)
    (x : W C A (eval iter en) (fun xv h1 => W C A (pyIter xv) (fun it h2 => ∃ V n S Y g, Ity C A tg it n S Y g ∧ n ≤ 900 ∧ Hp C.w.params g (V ++ S 0) h2 ∧
      (∀ i g' Cf D cen cvs p v h3, Le g g' → i < n → Y i g' v → Fe cen Cf ns' cxs cl' → Hp C.w.params g' ((Cf, .frm cxs cvs) :: (D, .any p) :: (V ++ S (i + 1))) h3 →
        W C A (assign tg cen v) (fun _ h2 => W C A (eval elt cen) (fun y h4 => ∃ g'' cvs' x t, y = .str x t ∧ Le g' g'' ∧ Hp C.w.params g'' ((Cf, .frm cxs cvs') :: (D, .any p) :: (V ++ S (i + 1))) h4) No h2) No h3) ∧
      (∀ g' D h', Le g g' → Hp C.w.params g' V h' → Q (.ref D) h')) E h1) E h)
    (hs : ∀ x, foldedSetIterable iter en x = pure x) : W C A (eval (.SetComp elt [⟨tg, iter, [], 0⟩] scope pos) en) Q E h := fun k => by
  rw [arm_eval_SetComp]
  have noc := fun y hy => List.all_eq_true.mp X.noc y hy
  refine wpAny_comprehension_free (use := none) rfl hs (clos_of (by rw [F.cells]; exact X.clo)) X.kind (fun y hy hl => ?_) (wpAny_mono (x k) (fun xv s1 z => ?_) fun _ _ z => z)
  · have := noc y hy
    rw [hl] at this
    simpa using this
  obtain ⟨h1, k1, rfl, z⟩ := z
  refine wpAny_mono (z k1) (fun it s2 z => ?_) fun _ _ z => z
  obtain ⟨h2, k2, rfl, V, n, S, Y, g, T, hn, H, step, done⟩ := z
  refine wpAny_mono (W_newSet (C := C) (A := A) (E := E) (Q := fun a h' => ∃ D, a = .ref D ∧ Hp C.w.params g ((D, .any (setP C.prog C.w 0)) :: (V ++ S 0)) h') H (fun a h' H' => ⟨a, rfl, H'⟩) k2) (fun acc s3 z => ?_) fun _ _ z => z
  obtain ⟨h3, k3, rfl, D, rfl, H3⟩ := z
  have z := (comp_frame (e := .SetComp elt [⟨tg, iter, [], 0⟩] scope pos) (it := it) (acc := .ref D) (C := C) (A := A) (E := E) (R := fun Cf r h' => r = .ok .next ∧ ∃ g' cvs, Le g g' ∧ Hp C.w.params g' ((Cf, .frm cxs cvs) :: (D, .any (setP C.prog C.w n)) :: V) h') F X H3 (fun Cf cen h4 Fc H4 k' => by
    refine codeAny_compStart_set ?_ ?_
    · exact CW_compS T hn H4 (Le.refl g) (fun i g' cvs p h5 v le hi hy H5 => step i g' Cf D cen cvs p v h5 le hi hy Fc H5) (fun g' cvs h5 le H5 => ⟨rfl, g', cvs, le, H5⟩) k'
    · refine wpAny_mono (T.self (E := No) (V := (Cf, .frm cxs _) :: (D, .any (setP C.prog C.w 0)) :: V) (Le.refl g) H4 (Q := fun v h' => v = it ∧ h' = h4) ⟨rfl, rfl⟩ k') (fun v s1 z => ?_) fun e s1 z => no_of z
      obtain ⟨h5, k5, rfl, rfl, rfl⟩ := z
      exact CW_compS T hn H4 (Le.refl g) (fun i g' cvs p h5 v le hi hy H5 => step i g' Cf D cen cvs p v h5 le hi hy Fc H5) (fun g' cvs h5 le H5 => ⟨rfl, g', cvs, le, H5⟩) k5)) k3
  refine wpAny_mono z (fun cenv s4 z => ?_) fun _ _ z => z
  · refine codeAny_mono z fun r s5 z => ?_
    obtain ⟨h5, k5, rfl, rfl, g', cvs, le, H5⟩ := z
    obtain ⟨m, hm, _⟩ := H5.at (s := .frm _ _) (.head _)
    exact ⟨m, hm, fun h6 hs6 => po (done g' D h6 le (H5.drop_ns hs6).drop)⟩
end

end
section
set_option linter.all false
section
variable {C : Cfg} {A : Around} {E : Value → Heap → Prop} {g g0 h : Heap} {V : Led} {en : Env}
theorem W_part {e : PySem.Expr} {Q : Value → Heap → Prop} (x : W C A (eval e en) Q E h) : W C A (evalPart (some e) en) Q E h := x
theorem W_part0 {Q : Value → Heap → Prop} (q : Q .none h) : W C A (evalPart none en) Q E h := W_pure q
theorem W_SliceE {lower upper : Option PySem.Expr} {p : Pos} {Q : Value → Heap → Prop}
    (x : W C A (evalPart lower en) (fun vl h2 => W C A (evalPart upper en) (fun vu h3 => ∃ g V, Hp C.w.params g V h3 ∧ ∀ sl g' h', Le g g' → g'.IsSliceOf sl vl vu .none → Hp C.w.params g' V h' → Q (.ref sl) h') E h2) E h) : W C A (eval (.Slice lower upper none p) en) Q E h := fun k => by
  refine wpAny_Slice (wpAny_mono (x k) (fun vl s2 z => ?_) fun _ _ z => z)
  obtain ⟨h2, k2, rfl, z⟩ := z
  refine wpAny_mono (z k2) (fun vu s3 z => ?_) fun _ _ z => z
  obtain ⟨h3, k3, rfl, g, V, H, q⟩ := z
  obtain ⟨g', l', e, H2⟩ := H.keep (o := { cls := .type "slice", data := .fields #[vl, vu, .none] }) rfl
  exact wpAny_pure (po (q _ g' _ l' ⟨_, e, rfl, rfl⟩ H2))
theorem W_subSl {ve se : PySem.Expr} {l sl : Addr} {items : List Value} {vl vu : Value} {lo hi : Option Int} {Q : Value → Heap → Prop} (H : Hp C.w.params g V h) (L : Lst h l items) (hz : items.length ≤ 1000) (hs : g.IsSliceOf sl vl vu .none) (p1 : IsPart vl lo) (p2 : IsPart vu hi)
    (q : ∀ D g' h', Le g g' → Lst g' D (slicePick items.toArray lo hi none).toList → Hp C.w.params g' V h' → Q (.ref D) h') : W C A (subscriptTail ve se (.ref l) (.ref sl)) Q E h :=
  W_tail (fun _ => L.is.typeIs) slot_list_getitem.lookup fun k => by
    have hs' : h.IsSliceOf sl vl vu .none := let ⟨o, e, r⟩ := hs; ⟨o, H.le _ _ e, r⟩
    obtain ⟨g', l', e, H2⟩ := H.keep (o := { cls := .type "list", data := .seq (slicePick items.toArray lo hi none) }) rfl
    exact wpAny_getItem_list_slice (s := C.sh h k) L.is hs' p1 p2 .none (by simp) (po (q _ g' _ l' ⟨0, by simpa using e⟩ H2)) (by rw [List.size_toArray, sizeLine_eq]; omega)
theorem W_truthy_str {x : Str} {t : Tok} {Q : Bool → Heap → Prop} (hz : x.length ≤ 1000) (q : Q (decide (x.length ≠ 0)) h) : W C A (truthy (.str x t)) Q E h := fun k => by
  refine PySem.P.truthy_str (by omega) ?_
  rw [show ((x.length : Int) != 0) = decide (x.length ≠ 0) from by
    by_cases e : x.length = 0
    · simp [e]
    · rw [decide_eq_true (by exact e), bne_iff_ne]; omega]
  exact po q
theorem noneof {n : Nat} {P : Nat → Prop} (h : n = 0) : ∀ i, i < n → P i := fun i hi => absurd hi (by omega)
end

end
section
set_option linter.all false
theorem Fe.env {en : Env} {L : Addr} {ns : List (Str × NameKind)} {xs : List Str} {cl : List (Str × Addr)} {P : Env → Prop} (F : Fe en L ns xs cl) (h : ∀ ge gen more lo gl ce qu fu co fr bi, P ⟨⟨.function, ns, ge, gen, more⟩, lo, gl, ce, qu, fu, co, fr, bi⟩) : P en := by
  obtain ⟨⟨k, names, ge, gen, more⟩, lo, gl, ce, qu, fu, co, fr, bi⟩ := en
  have h1 := F.kind
  have h2 := F.names
  simp only at h1 h2
  subst h1 h2
  exact h _ _ _ _ _ _ _ _ _ _ _
section
variable {C : Cfg} {A : Around} {E : Value → Heap → Prop} {g g0 h : Heap} {V : Led} {en : Env} {d : Addr} {ks : List Str} {vs : List Value} {it : Value} {n : Nat} {S : Nat → Led} {Y : Nat → Heap → Value → Prop}
theorem Ity.conv {e1 e2 : List PySem.Expr} {x1 x2 : Nat} {t1 t2 : Pos} (T : Ity C A (.Tuple e1 x1 t1) it n S Y g0) : Ity C A (.Tuple e2 x2 t2) it n S Y g0 :=
  ⟨fun hi le H q => T.next hi le H q, T.done, T.self⟩
def Yi (ks : List Str) (vs : List Value) (i : Nat) (g' : Heap) (v : Value) : Prop := ∃ a k t x, v = .ref a ∧ ks[i]? = some k ∧ vs[i]? = some x ∧ IsTup g' a [.str k t, x].toArray
theorem W_iter_itemsN {va : Addr} {Q : Value → Heap → Prop} (hh : A.handled = none) (s : Sd C.w.params g d ks vs) (nd : ks.Nodup) (vw : Vw g va d) (H : Hp C.w.params g V h)
    (q : ∀ I S h', (∀ elts x1 tp, Ity C A (.Tuple elts x1 tp) (.ref I) ks.length S (Yi ks vs) g) → Hp C.w.params g (V ++ S 0) h' → Q (.ref I) h') : W C A (pyIter (.ref va)) Q E h := by
  refine W_iter_items (elts := []) (x1 := 0) (tp := default) hh s nd vw H fun I ep h' T H' => q I _ h' (fun e x t => ?_) H'
  have T := T.conv (e2 := e) (x2 := x) (t2 := t)
  refine ⟨fun hi le H q => T.next hi le H fun v g' h' l y H' => q v g' h' l ?_ H', T.done, T.self⟩
  obtain ⟨a, k, t, x, e1, e2, e3, e4⟩ := y
  exact ⟨a, k, t, x, e1, e2, e3, e4⟩
theorem W_unpackI {a : Addr} {vs : List Value} {n : Nat} {Q : List Value → Heap → Prop} (hh : A.handled = none) (H : Hp C.w.params g V h) (T : IsTup g a vs.toArray) (hn : n = vs.length) (q : ∀ h', Hp C.w.params g V h' → Q vs h') : W C A (unpackItems (.ref a) n none) Q E h := fun k => by
  have T' : IsTup h a vs.toArray := T.keeps fun b o e => H.le b o e
  have e : n = vs.toArray.size := by simp [hn]
  rw [e]
  refine unpackItems_tuple (s := C.sh h k) hh T' fun h' hx => po (by
    have := q h' ⟨fun b o e => hx b o (fun q => by rw [q] at e; exact absurd (Heap.lt_size (H.le _ _ e)) (Nat.lt_irrefl _)) (H.le b o e), fun p hp => (H.sat p hp).of_get fun o e => hx _ o (fun q => by rw [q] at e; exact absurd (Heap.lt_size e) (Nat.lt_irrefl _)) e, H.out, H.nd⟩
    simpa using this)
theorem W_asI {es : List PySem.Expr} {nn : Nat} {p : Pos} {a : Addr} {vs : List Value} {Q : Unit → Heap → Prop} (hh : A.handled = none) (H : Hp C.w.params g V h) (T : IsTup g a vs.toArray) (hl : es.length = vs.length) (hs : (es.all fun e => !isStar e) = true)
    (x : ∀ h', Hp C.w.params g V h' → W C A (assignInOrder ((assignEach es en).map (·.2)) vs) Q E h') : W C A (assign (.Tuple es nn p) en (.ref a)) Q E h := by
  refine W_as_Tup (W_unpack ?_)
  rw [(ae_len es hs).1, (ae_len es hs).2]
  exact W_unpackI hh H T hl x
end
theorem Hp.giveL {P : Params} {g h : Heap} {X Y V : Led} (H : Hp P g (X ++ (Y ++ V)) h) : ∃ g', Le g g' ∧ (∀ p ∈ Y, Sat P g' g' p.1 p.2) ∧ Hp P g' (X ++ V) h := by
  have nd := H.nd
  rw [List.map_append, List.map_append, List.nodup_append, List.nodup_append] at nd
  obtain ⟨n1, ⟨n2, n3, n4⟩, n5⟩ := nd
  have H2 : Hp P g (X ++ V) h := by
    refine ⟨H.le, fun p hp => ?_, fun p hp => ?_, ?_⟩
    · rcases List.mem_append.mp hp with hp | hp
      · exact H.sat p (List.mem_append_left _ hp)
      · exact H.sat p (List.mem_append_right _ (List.mem_append_right _ hp))
    · rcases List.mem_append.mp hp with hp | hp
      · exact H.out p (List.mem_append_left _ hp)
      · exact H.out p (List.mem_append_right _ (List.mem_append_right _ hp))
    · rw [List.map_append, List.nodup_append]
      exact ⟨n1, n3, fun a ha b hb => n5 a ha b (List.mem_append_right _ hb)⟩
  obtain ⟨l, H3⟩ := H2.frz
  refine ⟨_, l, fun p hp => ?_, H3⟩
  refine ((H.sat p (List.mem_append_right _ (List.mem_append_left _ hp))).of_get fun o e => frz_get e ?_).up l
  rw [List.map_append]
  intro m
  have mp : p.1 ∈ Y.map (·.1) := List.mem_map_of_mem (f := (·.1)) hp
  rcases List.mem_append.mp m with m | m
  · exact n5 _ m _ (List.mem_append_left _ mp) rfl
  · exact n4 _ mp _ m rfl
section
variable {C : Cfg} {A : Around} {E : Value → Heap → Prop} {g h : Heap} {V : Led} {en : Env}
theorem W_TryN {body : List Stmt} {hd0 : ExceptHandler} {hs : List ExceptHandler} {pos : Pos} {Q : Flow → Heap → Prop} (x : W C A (execs body en) Q No h) : W C A (exec (.Try body (hd0 :: hs) [] [] pos) en) Q E h := fun k => by
  refine wpAny_Try_except (wpAny_mono (x k) (fun f s1 z => ?_) fun e s1 z => no_of z)
  obtain ⟨h1, k1, rfl, z⟩ := z
  cases f <;> first | exact po z | exact wpAny_pure (po z)
end

end
section
set_option linter.all false
section
variable {C : Cfg} {A : Around} {E : Value → Heap → Prop} {g g0 h : Heap} {V : Led} {en : Env} {L c P : Addr} {ns : List (Str × NameKind)} {xs cn : List Str} {vs : List (Option Value)} {cl clos : List (Str × Addr)} {pos : Pos} {scope : Scope} {name qual : Str} {params : Arguments} {body : List Stmt} {x : Str} {v : Value}
theorem CW_fnBK {f : Addr} {o : Obj} {fd : FuncData} {args : Args} {R : Result → Heap → Prop} {n : Nat}
    (le : Le g h) (Wd : Wld C g) (r : Rm A (n + 1)) (ho : g.get? f = some o) (hd : o.data = .func fd) (hcd : g.CodeRec fd.code fd.qualname) (hbody : fd.body = .stmts body)
    (hns : fd.scope.names = ns) (hgl : (fd.globals = mainGlobals ∧ fd.builtins = builtinsNs) ∧ fd.closure = [])
    (hco : (fd.scope.isCoroutine = false ∧ fd.scope.isGenerator = false) ∧ fd.scope.kind = .function)
    (hcn : (ns.filter fun y => isCellK y.2).map (·.1) = cn) (hcnd : cn.Nodup)
    (hck : (cn.all fun y => ns.lookup y == some .cell) = true)
    (hxs : (xs.all fun x => ns.lookup x == some .local && !(x == ("__debug__" : Str))) = true) (hnd : xs.Nodup)
    (bind : W C A.in1 (bindArgs fd args) (fun binds h1 => ∃ g1 V1 vs, Le g g1 ∧ Hp C.w.params g1 V1 h1 ∧ Stk A V1 ∧ (binds.all fun y => ns.lookup y.1 == some .local || (ns.lookup y.1 == some .cell && cn.contains y.1)) = true ∧ xs.map (fun x => binds.reverse.lookup x) = vs ∧
      ∀ L en A' h', Hp C.w.params g1 ((L, .frm xs vs) :: (cellLed (fun x => binds.reverse.lookup x) (cellsAt (L + 1) cn []) ++ V1)) h' → Fe en L ns xs (cellsAt (L + 1) cn []) → en.func = some f ∧ en.qual = fd.qualname ++ ".<locals>." ∧ en.code = fd.code → en.scope = fd.scope → Sb A' en L V1 → Rm A' n → W C A' (execs body en) (Bq R) (Be C A' en R) h') No h) :
    CW C A (.call (.ref f) args) R h := fun k => by
  refine codeAny_call_function (s := C.sh h k) r.lim (le _ _ ho) hd hco.1.1 hco.1.2 hbody (hcd.keeps le) ?_
  rw [hgl.2]
  have keys : ∀ (L : Addr), (cellsAt (L + 1) cn []).map (·.1) = cn.reverse := by
    have : ∀ (cn : List Str) (n : Nat) (acc : List (Str × Addr)), (cellsAt n cn acc).map (·.1) = cn.reverse ++ acc.map (·.1) := by
      intro cn
      induction cn with
      | nil => intro n acc; rfl
      | cons x r ih => intro n acc; unfold cellsAt; rw [ih]; simp
    intro L; rw [this]; simp
  have nodupK : ∀ L : Addr, ((cellsAt (L + 1) cn []).map (·.1)).Nodup := fun L => by rw [keys]; exact List.pairwise_reverse.mpr (hcnd.imp Ne.symm)
  have lk : ∀ (L : Addr) y, y ∈ cn → ∃ a, (cellsAt (L + 1) cn []).lookup y = some a := fun L y hy => by
    have : y ∈ (cellsAt (L + 1) cn []).map (·.1) := by rw [keys]; exact List.mem_reverse.mpr hy
    obtain ⟨p, hp, e⟩ := List.mem_map.mp this
    exact ⟨p.2, lookup_of_mem (nodupK L) (by rw [← e]; exact hp)⟩
  have ck : ∀ y ∈ cn, ns.lookup y = some .cell := fun y hy => by simpa using List.all_eq_true.mp hck y hy
  refine wpAny_mono (bind k) (fun binds s1 z => ?_) fun e s1 z => no_of z
  obtain ⟨h, k, rfl, g, V, vs, lg, H, S, hloc, hvs, x⟩ := z
  replace Wd := Wd.up lg
  refine wpAny_newFunctionEnv_cells hco.2 (fun y hy => ?_) fun env he s' I => ?_
  · rw [hns, cells_eq, hcn]
    have := List.all_eq_true.mp hloc y hy
    simp only [Bool.or_eq_true, Bool.and_eq_true, beq_iff_eq, List.contains_iff_mem] at this
    rcases this with h1 | ⟨h1, h2⟩
    · exact .inl h1
    · obtain ⟨a, e⟩ := lk h.objs.size y.1 h2
      exact .inr ⟨h1, by show (List.lookup y.1 (cellsAt (h.objs.size + 1) cn [])).isSome = true; rw [e]; rfl⟩
  · rw [hns, cells_eq, hcn] at he
    subst he
    have I : InCallC (C.sh h k) h.objs.size _ (cellsAt (h.objs.size + 1) cn []) _ s' := I
    obtain ⟨h', tk, rfl, kp⟩ := I.done
    refine ⟨(Wd.lim.keeps H.le).keeps kp, ?_⟩
    have kind : ∀ y, Env.kindOf (newEnv fd.scope h.objs.size fd.globals (cellsAt (h.objs.size + 1) cn []) (fd.qualname ++ ".<locals>.") (some f) fd.code none fd.builtins) y = ns.lookup y := fun y => by rw [← hns]; rfl
    have F : Fe (newEnv fd.scope h.objs.size fd.globals (cellsAt (h.objs.size + 1) cn []) (fd.qualname ++ ".<locals>.") (some f) fd.code none fd.builtins) h.objs.size ns xs (cellsAt (h.objs.size + 1) cn []) := by
      refine ⟨hco.2, hns, rfl, hgl.1.1, hgl.1.2, rfl, fun y hy => ?_, hnd⟩
      have := List.all_eq_true.mp hxs y hy
      simp only [Bool.and_eq_true, beq_iff_eq, Bool.not_eq_true'] at this
      exact this
    have old : ∀ b, h.objs.size ≤ b → g.get? b = none ∧ b ∉ V.map (·.1) := fun b hb => by
      refine ⟨?_, fun mm => ?_⟩
      · cases e : g.get? b with
        | none => rfl
        | some o => exact absurd (Nat.lt_of_lt_of_le (Heap.lt_size (H.le _ _ e)) hb) (Nat.lt_irrefl _)
      · obtain ⟨p, hp', e⟩ := List.mem_map.mp mm
        obtain ⟨o, ho⟩ := (H.sat p hp').ex
        have l1 := Heap.lt_size ho
        have e' : p.1 = b := e
        rw [e'] at l1
        exact absurd (Nat.lt_of_lt_of_le l1 hb) (Nat.lt_irrefl _)
    have ab : ∀ p ∈ cellsAt (h.objs.size + 1) cn [], h.objs.size < p.2 := fun p hp => I.above p.1 p.2 hp
    have H' : Hp C.w.params g ((h.objs.size, .frm xs vs) :: (cellLed (fun x => binds.reverse.lookup x) (cellsAt (h.objs.size + 1) cn []) ++ V)) h' := by
      refine ⟨fun b o e => kp b o (H.le b o e), fun p hp => ?_, fun p hp => ?_, ?_⟩
      · cases hp with
        | head =>
          refine ⟨_, I.toInCall.ns, by rw [← hvs]; simp, fun i y v a b => ?_⟩
          rw [← hvs, List.getElem?_map, a] at b
          rw [bindL_at (by rw [kind]; exact (F.lcl y (List.mem_of_getElem? a)).1)]
          cases b
          simp
        | tail _ hp =>
          rcases List.mem_append.mp hp with hp | hp
          · obtain ⟨q, hq, rfl⟩ := List.mem_map.mp hp
            have e := lookup_of_mem (nodupK h.objs.size) (show (q.1, q.2) ∈ _ from hq)
            have := I.cell q.1 q.2 e
            rw [bindC_at (by rw [kind]; rw [ck _ ((cellsAt_mem cn _ _ _ hq).resolve_left (by simp))]; decide)] at this
            show h'.IsCell q.2 (List.lookup q.1 binds.reverse)
            simpa using this
          · exact (H.sat p hp).of_get fun o e => kp _ o e
      · cases hp with
        | head => exact (old _ (Nat.le_refl _)).1
        | tail _ hp =>
          rcases List.mem_append.mp hp with hp | hp
          · obtain ⟨q, hq, rfl⟩ := List.mem_map.mp hp
            exact (old _ (Nat.le_of_lt (ab q hq))).1
          · exact H.out p hp
      · have e1 : (cellLed (fun x => binds.reverse.lookup x) (cellsAt (h.objs.size + 1) cn [])).map (·.1) = (cellsAt (h.objs.size + 1) cn []).map (·.2) := by
          unfold cellLed; rw [List.map_map]; rfl
        rw [List.map_cons, List.map_append, e1, List.nodup_cons, List.nodup_append]
        refine ⟨fun mm => ?_, ?_, H.nd, fun a ha b hb e => ?_⟩
        · rcases List.mem_append.mp mm with mm | mm
          · obtain ⟨q, hq, e⟩ := List.mem_map.mp mm
            have := ab q hq
            rw [show q.2 = h.objs.size from e] at this
            exact absurd this (Nat.lt_irrefl _)
          · exact (old _ (Nat.le_refl _)).2 mm
        · exact List.pairwise_map.mpr I.apart
        · obtain ⟨q, hq, rfl⟩ := List.mem_map.mp ha
          exact (old _ (Nat.le_of_lt (ab q hq))).2 (e ▸ hb)
    have S' : Sb (A.deeper (newEnv fd.scope h.objs.size fd.globals (cellsAt (h.objs.size + 1) cn []) (fd.qualname ++ ".<locals>.") (some f) fd.code none fd.builtins)) (newEnv fd.scope h.objs.size fd.globals (cellsAt (h.objs.size + 1) cn []) (fd.qualname ++ ".<locals>.") (some f) fd.code none fd.builtins) h.objs.size V := by
      obtain ⟨envs, e, s⟩ := S
      exact ⟨_, Around.frames_deeper e, by rw [F.kind]; decide, rfl, s⟩
    exact CW_func (x _ _ _ _ H' F ⟨rfl, rfl, rfl⟩ rfl S' r.deeper) _
end

end
section
set_option linter.all false
inductive PrL (g : Heap) : List Value → List Str → List Int → Prop
  | nil : PrL g [] [] []
  | cons {a vs x t n u xs ns} : IsTup g a #[.str x t, .int n u] → PrL g vs xs ns → PrL g (.ref a :: vs) (x :: xs) (n :: ns)
theorem PrL.up {g g' : Heap} {vs xs ns} (p : PrL g vs xs ns) (le : Le g g') : PrL g' vs xs ns := by
  induction p with
  | nil => exact .nil
  | cons t _ ih => exact .cons (t.keeps le) ih
theorem PrL.snoc {g : Heap} {vs xs ns a x t n u} (p : PrL g vs xs ns) (h : IsTup g a #[.str x t, .int n u]) : PrL g (vs ++ [.ref a]) (xs ++ [x]) (ns ++ [n]) := by
  induction p with
  | nil => exact .cons h .nil
  | cons t _ ih => exact .cons t ih
def pDs : List Str → List Int → List PyData
  | x :: xs, n :: ns => .tuple [.str x, .int n] :: pDs xs ns
  | _, _ => []
def pD (xs : List Str) (ns : List Int) : PyData := .list (pDs xs ns)
theorem PrL.reads {g : Heap} {vs xs ns} (p : PrL g vs xs ns) : ∃ as, ReadsAll g vs (pDs xs ns) as := by
  induction p with
  | nil => exact ⟨_, .nil⟩
  | @cons a vs x t n u xs ns h _ ih =>
    obtain ⟨as, r⟩ := ih
    obtain ⟨o, ho, hc, m, hd⟩ := h
    exact ⟨_, .cons (reads_tuple_at ho hc hd (by simpa using ReadsAll.cons (Reads.str x t) (.cons (.int n u) .nil))) r⟩
theorem pDs_eqv : ∀ {xs : List Str} {ns ms : List Int}, ns.length = xs.length → ms.length = xs.length → PyData.eqvAll (pDs xs ns) (pDs xs ms) = decide (ns = ms)
  | [], [], [], _, _ => by simp [pDs, PyData.eqvAll]
  | x :: xs, n :: ns, m :: ms, h1, h2 => by
    have ih := pDs_eqv (xs := xs) (ns := ns) (ms := ms) (by simpa using h1) (by simpa using h2)
    simp only [pDs, PyData.eqvAll, PyData.eqv, ih, BEq.rfl, Bool.true_and, Bool.and_true]
    by_cases e : n = m
    · subst e; simp
    · simp [e]
theorem pDs_lay : ∀ {xs : List Str} {ns : List Int}, (∀ x ∈ xs, PyData.strOk x = true) → PyData.canLayAll0 (pDs xs ns) = true ∧ PyData.depthAll (pDs xs ns) ≤ 1
  | [], _, _ => by simp [pDs, PyData.canLayAll0, PyData.depthAll]
  | _ :: _, [], _ => by simp [pDs, PyData.canLayAll0, PyData.depthAll]
  | x :: xs, n :: ns, h => by
    have ih := pDs_lay (xs := xs) (ns := ns) fun y hy => h y (.tail _ hy)
    have hx := h x (.head _)
    simp only [pDs, PyData.canLayAll0, PyData.depthAll, PyData.canLay0, PyData.depth, hx, ih.1, Bool.and_true, true_and]
    have := ih.2
    omega
theorem pDs_show : ∀ {xs : List Str} {ns : List Int}, (∀ n ∈ ns, n.natAbs < 1000) → PyData.showableAll (pDs xs ns) = true ∧ PyData.hasDictAll (pDs xs ns) = false
  | [], _, _ => by simp [pDs, PyData.showableAll, PyData.hasDictAll]
  | _ :: _, [], _ => by simp [pDs, PyData.showableAll, PyData.hasDictAll]
  | x :: xs, n :: ns, h => by
    have ih := pDs_show (xs := xs) (ns := ns) fun y hy => h y (.tail _ hy)
    have hn := h n (.head _)
    have hl : n.natAbs.log2 < 1920 := by
      by_cases h0 : n.natAbs = 0
      · rw [h0]; decide
      · exact (Nat.log2_lt h0).mpr (Nat.lt_of_lt_of_le hn (Nat.le_trans (show 1000 ≤ 2 ^ 10 by decide) (Nat.pow_le_pow_right (by decide) (by decide))))
    simp only [pDs, PyData.showableAll, PyData.showable, PyData.hasDictAll, PyData.hasDict, ih.1, ih.2, decide_eq_true hl, Bool.and_true, Bool.or_false, and_self]
theorem textFrom_le : ∀ (ts : List Str) (k : Nat) (acc : Str), (textFrom k acc ts).length ≤ acc.length + piled ts
  | [], k, acc => by show acc.length ≤ _; omega
  | t :: r, k, acc => by
    rw [textFrom, piled_cons]
    refine Nat.le_trans (textFrom_le r _ _) ?_
    have e2 : ((", " : String) : Str).length = 2 := rfl
    have e3 : ((("" : String) : Str)).length = 0 := rfl
    split <;> simp only [strLen_append, e2, e3] <;> omega
theorem pDs_len : ∀ {xs : List Str} {ns : List Int}, (∀ x ∈ xs, (reprText x).length ≤ 200) → (∀ n ∈ ns, n.natAbs < 1000) → piled (PyData.shownAll (pDs xs ns)) ≤ 300 * xs.length
  | [], _, _, _ => by simp [pDs, PyData.shownAll, piled]
  | _ :: _, [], _, _ => by simp [pDs, PyData.shownAll, piled]
  | x :: xs, n :: ns, h1, h2 => by
    have ih := pDs_len (xs := xs) (ns := ns) (fun y hy => h1 y (.tail _ hy)) (fun y hy => h2 y (.tail _ hy))
    have hx := h1 x (.head _)
    have hn := h2 n (.head _)
    have hi : (Str.ofString (toString n)).length ≤ 10 := by
      have e := int_text_length_le10 (a := n) (k := 3) (by decide) (by simpa using hn)
      rw [PySem.ofString_length]; omega
    have e1 : ((("(" : String) : Str)).length = 1 := rfl
    have e3 : ((((")" : String) : Str))).length = 1 := rfl
    have e2 : ((", " : String) : Str).length = 2 := rfl
    simp only [pDs, PyData.shownAll, PyData.shown, piled_cons, List.length_cons]
    have : (tupleText [reprText x, Str.ofString (toString n)]).length ≤ 220 := by
      unfold tupleText
      rw [strLen_append, strLen_append, e1]
      have j := join_length_add [reprText x, Str.ofString (toString n)] (by simp)
      simp only [piled_cons, piled_nil] at j
      rw [if_neg (by simp), e3]
      omega
    show (tupleText [reprText x, Str.ofString (toString n)]).length + 2 + _ ≤ _
    omega
section
variable {C : Cfg} {A : Around} {E : Value → Heap → Prop} {g h : Heap} {V : Led} {en : Env} {l1 l2 : Addr} {v1 v2 : List Value} {xs : List Str} {r1 r2 : List Int}
theorem Lst.reads {g : Heap} {l : Addr} {vs : List Value} {ns : List Int} (L : Lst g l vs) (p : PrL g vs xs ns) : ∃ as, Reads g (.ref l) (pD xs ns) as := by
  obtain ⟨as, r⟩ := p.reads
  obtain ⟨n, e⟩ := L
  exact ⟨_, reads_list_at e rfl rfl (by simpa using r)⟩
theorem W_eqP {Q : Value → Heap → Prop} (H : Hp C.w.params g V h) (hu : A.units + 64 < cLine) (L1 : Lst g l1 v1) (p1 : PrL g v1 xs r1) (L2 : Lst g l2 v2) (p2 : PrL g v2 xs r2) (e1 : r1.length = xs.length) (e2 : r2.length = xs.length) (so : ∀ x ∈ xs, PyData.strOk x = true)
    (q : Q (.bool (decide (r1 = r2))) h) : W C A (compareOp .Eq (.ref l1) (.ref l2)) Q E h := fun k => by
  obtain ⟨as, a⟩ := (L1.up H.le).reads (p1.up H.le)
  obtain ⟨bs, b⟩ := (L2.up H.le).reads (p2.up H.le)
  have sh : ∀ r : List Int, PySem.SeqAt.shaped (pD xs r) = true := fun r => by
    unfold PySem.SeqAt.shaped pD
    have := pDs_lay (ns := r) so
    simp only [PyData.canLay0, PyData.depth, this.1, Bool.true_and]
    exact decide_eq_true (by have := this.2; omega)
  refine eq_dataH (s := C.sh h k) a b (sh _) (sh _) hu ?_
  rw [show PyData.eqv (pD xs r1) (pD xs r2) = decide (r1 = r2) from pDs_eqv e1 e2]
  exact po q
theorem W_reprP {Q : Value → Heap → Prop} (H : Hp C.w.params g V h) (hu : A.units + 64 < cLine) (hg : A.guards = some []) (L1 : Lst g l1 v1) (p1 : PrL g v1 xs r1) (b1 : ∀ x ∈ xs, (reprText x).length ≤ 200) (b2 : ∀ n ∈ r1, n.natAbs < 1000) (hz : xs.length ≤ 10)
    (q : ∀ t h', Hp C.w.params g V h' → Q (.str (pD xs r1).shown t) h') : W C A (call (.builtin "repr") [.ref l1]) Q E h := fun k => by
  obtain ⟨as, a⟩ := L1.reads p1
  have sh := pDs_show (xs := xs) b2
  refine repr_of_reads' (s := C.sh h k) a (by unfold pD; simp only [PyData.showable, sh.1]) (PyData.noDict_hsm (by unfold pD; simp only [PyData.hasDict, sh.2])) hg ?_ H.le (fun h' u tk hk => po (q u h' ⟨fun b o e => hk b o (H.le b o e), fun p hp => (H.sat p hp).of_get fun o e => hk _ o e, H.out, H.nd⟩)) ?_
  · have : (pD xs r1).depth ≤ 3 := by
      unfold pD
      have d : ∀ (xs : List Str) (ns : List Int), PyData.depthAll (pDs xs ns) ≤ 1 := by
        intro xs
        induction xs with
        | nil => intro ns; simp [pDs, PyData.depthAll]
        | cons x xs ih =>
          intro ns
          cases ns with
          | nil => simp [pDs, PyData.depthAll]
          | cons n ns =>
            have := ih ns
            simp only [pDs, PyData.depthAll, PyData.depth]
            omega
      have := d xs r1
      simp only [PyData.depth]
      omega
    omega
  · have := pDs_len b1 b2
    have t := textFrom_le (PyData.shownAll (pDs xs r1)) 0 ("[" : String)
    have e1 : ((("[" : String) : Str)).length = 1 := rfl
    have e2 : ((("]" : String) : Str)).length = 1 := rfl
    unfold pD
    rw [PyData.shown, listText, strLen_append, e2, sizeLine_eq]
    omega
theorem W_and3 {a b2 b3 : PySem.Expr} {pos : Pos} {Q : Value → Heap → Prop} (x : W C A (eval a en) (fun v h1 => W C A (truthy v) (fun r h2 => (r = true → W C A (eval b2 en) (fun v2 h3 => W C A (truthy v2) (fun r2 h4 => (r2 = true → W C A (eval b3 en) Q E h4) ∧ (r2 = false → Q v2 h4)) E h3) E h2) ∧ (r = false → Q v h2)) E h1) E h) : W C A (eval (.BoolOp .And [a, b2, b3] pos) en) Q E h := by
  show W C A (boolOp pos .And [eval a en, eval b2 en, eval b3 en]) Q E h
  unfold boolOp
  refine W_bind (W_mono x (fun v h1 z => W_bind (W_standAt (W_bind (W_holding (W_mono z (fun r h2 y => ?_) fun _ _ z => z))))) fun _ _ z => z)
  cases r
  · exact W_pure (y.2 rfl)
  · have y := y.1 rfl
    dsimp only
    unfold boolOp
    refine W_bind (W_mono y (fun v h1 z => W_bind (W_standAt (W_bind (W_holding (W_mono z (fun r h2 y => ?_) fun _ _ z => z))))) fun _ _ z => z)
    cases r
    · exact W_pure (y.2 rfl)
    · exact y.1 rfl
theorem W_listItems {va d : Addr} {ks : List Str} {vs : List Value} {ns : List Int} {Q : Value → Heap → Prop} (hh : A.handled = none) (H : Hp C.w.params g V h) (vw : Vw g va d) (s : Sd C.w.params g d ks vs) (nd : ks.Nodup) (hi : IntsAre vs ns) (hz : ks.length ≤ 100)
    (q : ∀ l items g' h', Le g g' → Lst g' l items → PrL g' items ks ns → Hp C.w.params g' V h' → Q (.ref l) h') : W C A (call (.type "list") [.ref va]) Q E h := fun k => by
  obtain ⟨ep, da⟩ := s.dictAt (C := C) nd
  have sl := s.len (C := C)
  have zl : (ks.zip vs).length = ks.length := by rw [List.length_zip, sl, Nat.min_self]
  have vw' : h.IsItemsView va d := let ⟨o, e, r⟩ := vw; ⟨o, H.le _ _ e, r⟩
  refine kdx_call (s := C.sh h k) hh vw' (da.keep H.le) (by rw [zl, sizeLine_eq]; omega) fun h' tk acc c as hk hl al hG hacc => ?_
  have H1 : Hp C.w.params g V h' := ⟨fun b o e => hk b o (H.le b o e), fun p hp => (H.sat p hp).of_get fun o e => hk _ o e, H.out, H.nd⟩
  obtain ⟨l, H2⟩ := H1.frz
  have new : ∀ a, h.objs.size ≤ a → a ∉ V.map (·.1) := fun a ha m => by
    obtain ⟨p, hp, rfl⟩ := List.mem_map.mp m
    obtain ⟨o, ho⟩ := (H.sat p hp).ex
    exact absurd (Nat.lt_of_lt_of_le (Heap.lt_size ho) ha) (Nat.lt_irrefl _)
  have pr : ∀ (as : List Addr) (ks : List Str) (vs : List Value) (ns : List Int), as.length = ks.length → vs.length = ks.length → IntsAre vs ns → (∀ a ∈ as, h.objs.size < a) →
      (∀ (j : Nat) (a : Addr), as[j]? = some a → ∃ key k x, (ks.zip vs)[j]? = some (k, x) ∧ (strKind C.prog C.w).is k key = true ∧ h'.get? a = some { cls := .type "tuple", data := .seq #[key, x] }) → PrL (frz V h') (as.map Value.ref) ks ns := by
    intro as
    induction as with
    | nil => intro ks vs ns a1 a2 hi _ _; cases ks with
      | nil => cases vs with
        | nil => cases hi; exact .nil
        | cons _ _ => simp at a2
      | cons _ _ => simp at a1
    | cons a as ih =>
      intro ks vs ns a1 a2 hi lo f
      cases ks with
      | nil => simp at a1
      | cons k1 ks => cases vs with
        | nil => simp at a2
        | cons v1 vs =>
          cases hi with
          | cons n t hi =>
            obtain ⟨key, k2, x, e1, e2, e3⟩ := f 0 a rfl
            cases e1
            obtain ⟨u, rfl⟩ := Value.isStrOf_shape (x := k1) (v := key) e2
            refine .cons ⟨_, frz_get e3 (new a (Nat.le_of_lt (lo a (.head _)))), rfl, _, rfl⟩ (ih ks vs _ (by simpa using a1) (by simpa using a2) hi (fun b hb => lo b (.tail _ hb)) fun j b hj => by simpa using f (j + 1) b (by simpa using hj))
  refine po (q _ (as.map Value.ref) _ h' l ⟨c, ?_⟩ (pr as ks vs ns (by rw [al, zl]) sl hi hG.above hG.pairs) H2)
  have := frz_get hl (new _ (Nat.le_refl _))
  rw [← hacc]
  simpa using this
end

end
section
set_option linter.all false
section
variable {C : Cfg} {A : Around} {E : Value → Heap → Prop} {g g0 h : Heap} {V : Led} {en : Env}
theorem places_to (n k : Nat) (hk : k ≤ n) : Builtin.Slice.slicePlaces 0 (k : Int) 1 = k := by
  unfold Builtin.Slice.slicePlaces
  have h1 : (1 : Int) > 0 := by omega
  simp only [h1, if_true, Int.ediv_one]
  split <;> omega
theorem adjust_to (n k : Nat) (hk : k ≤ n) : Builtin.Slice.sliceAdjust none (some (k : Int)) 1 (n : Int) = (0, (k : Int)) := by
  unfold Builtin.Slice.sliceAdjust
  have h1 : ¬ ((1 : Int) < 0) := by omega
  have h2 : ¬ ((k : Int) < 0) := by omega
  simp only [h1, h2, if_false]
  congr 1
  omega
theorem sliceApplied_to {prog : Program} {w : World} {A : Around} {s : Shared} {E : Value → Shared → Prop} {sl : Addr} {k n : Nat} {u : Tok} {Q : Int × Int × Nat → Shared → Prop} (hs : s.heap.IsSliceOf sl .none (.int k u) .none) (ha : k ≤ n) (h : Q ((0 : Int), 1, k) s) :
    wpAny (model prog w) A (Builtin.Slice.sliceApplied (.ref sl) (pure (n : Int))) Q E s := by
  obtain ⟨os, hos, hcs, hds⟩ := id hs
  unfold Builtin.Slice.sliceApplied Builtin.Slice.sliceFields
  refine wpAny_bind (wpAny_bind (wpAny_field hos hds (x := .none) rfl (wpAny_bind (wpAny_field hos hds (x := .int k u) rfl (wpAny_bind (wpAny_field hos hds (x := .none) rfl (wpAny_pure ?_)))))))
  refine wpAny_bind (slicePart_none ?_)
  show wpAny _ _ (if ((1 : Int) == 0) = true then _ else _) _ _ s
  rw [if_neg (by decide)]
  refine wpAny_bind (slicePart_none (wpAny_bind (slicePart_int (wpAny_bind (wpAny_pure ?_)))))
  show wpAny _ _ (match Builtin.Slice.sliceAdjust none (some (k : Int)) 1 (n : Int) with | (lo, hi) => pure (lo, (1 : Int), Builtin.Slice.slicePlaces lo hi 1)) _ _ s
  rw [adjust_to n k ha]
  show wpAny _ _ (pure ((0 : Int), (1 : Int), Builtin.Slice.slicePlaces (0 : Int) (k : Int) 1)) _ _ s
  rw [places_to n k ha]
  exact wpAny_pure h
theorem getItem_tuple_to {prog : Program} {w : World} {s : Shared} {E : Value → Shared → Prop} {t sl : Addr} {items : Array Value} {k : Nat} {u : Tok} {Q : Value → Shared → Prop} (ht : IsTup s.heap t items) (hs : s.heap.IsSliceOf sl .none (.int k u) .none) (ha : k ≤ items.size)
    (h1 : k = items.size → Q (.ref t) s)
    (h2 : k < items.size → Q (.ref s.heap.objs.size) { s with heap := s.heap.push { cls := .type "tuple", data := .seq (items.toList.take k).toArray } })
    (hsz : items.size ≤ sizeLine) : wpAny (model prog w) A (getItem (.ref t) (.ref sl)) Q E s := by
  have hdrop : sizeOk (.seq (items.toList.take k).toArray) := by
    show (items.toList.take k).toArray.size ≤ sizeLine
    rw [List.size_toArray, List.length_take, Array.length_toList]
    omega
  obtain ⟨os, hos, hcs, hds⟩ := id hs
  have hTs : s.TypeIs (.ref sl) "slice" := ⟨os, hos, hcs⟩
  unfold getItem
  try with_reducible refine wpAny_holding ?_
  first | refine wpAny_bind (wpAny_pure ?_) | skip
  refine wpAny_bind (wpAny_sequenceKey ht.typeIs (by decide) ?_)
  refine wpAny_bind (wpAny_callSpecial?_slot (name := Str.ofString "__getitem__") ht.typeIs slot_tuple_getitem
    (wpAny_call_entry slot_tuple_getitem ht.typeIs entry_tuple_getitem ?_ (args_tuple_getitem _ _)))
  show wpAny _ _ (Builtin.Tuple.tupleItemsOf (.ref t) >>= _) _ _ s
  refine wpAny_bind (tupleItemsOf_ ht ?_)
  refine wpAny_bind (wpAny_typeOf hTs ?_)
  rw [if_pos (by decide)]
  refine wpAny_bind (sliceApplied_to hs ha ?_)
  show wpAny _ _ (if ((0 : Int) == 0 && (1 : Int) == 1 && k == items.size) = true then _ else _) _ _ s
  by_cases e : k = items.size
  · rw [if_pos (by rw [e]; simp)]
    refine wpAny_bind (m := Builtin.Tuple.tupleIsExact _) ?_
    unfold Builtin.Tuple.tupleIsExact
    refine wpAny_bind (wpAny_typeOf ht.typeIs (wpAny_pure ?_))
    rw [if_pos (by decide)]
    exact wpAny_bind (wpAny_rule (wpAny_pure ⟨_, rfl, wpAny_pure (h1 e)⟩))
  · rw [if_neg (by simp [e])]
    have p := pick_from
    have e2 : (fun (j : Nat) => items[((0 : Int) + (j : Int) * 1).toNat]?) = fun j => items[j]? := by
      funext j
      have : ((0 : Int) + (j : Int) * 1).toNat = j := by omega
      rw [this]
    rw [e2]
    have p := pick_run items 0 k
    rw [List.filterMap_map] at p
    have e3 : ((fun x => items[x]?) ∘ fun x => 0 + x) = fun j => items[j]? := by funext j; simp
    rw [e3, List.drop_zero] at p
    rw [p]
    first
      | exact wpAny_bind (m := Builtin.Tuple.tupleExact _) (wpAny_newObj_type (wpAny_pure ⟨_, rfl, wpAny_pure (h2 (by omega))⟩) hdrop)
      | exact wpAny_bind (m := Builtin.Tuple.tupleExact _) (wpAny_newObj_type (wpAny_bind (wpAny_pure (wpAny_pure ⟨_, rfl, wpAny_pure (h2 (by omega))⟩))) hdrop)
      | exact wpAny_bind (wpAny_bind (m := Builtin.Tuple.tupleExact _) (wpAny_newObj_type (wpAny_pure (wpAny_pure ⟨_, rfl, wpAny_pure (h2 (by omega))⟩)) hdrop))
theorem W_subSlT {ve se : PySem.Expr} {l sl : Addr} {items : List Value} {k : Nat} {z : Int} {u : Tok} {Q : Value → Heap → Prop} (H : Hp C.w.params g V h) (L : Tp g l items) (hz : items.length ≤ 1000) (hs : g.IsSliceOf sl .none (.int z u) .none) (ez : z = (k : Int)) (hk : k ≤ items.length)
    (q : ∀ D g' h', Le g g' → Tp g' D (items.take k) → Hp C.w.params g' V h' → Q (.ref D) h') : W C A (subscriptTail ve se (.ref l) (.ref sl)) Q E h := by
  subst ez
  exact W_tail (fun _ => (L.up H.le).is.typeIs) slot_tuple_getitem.lookup fun j => by
    have hs' : h.IsSliceOf sl .none (.int k u) .none := let ⟨o, e, r⟩ := hs; ⟨o, H.le _ _ e, r⟩
    refine getItem_tuple_to (s := C.sh h j) (L.up H.le).is hs' (by simpa using hk) (fun e => ?_) (fun e => ?_) (by rw [List.size_toArray, sizeLine_eq]; omega)
    · refine po (q _ g _ (Le.refl g) ?_ H)
      rw [List.take_of_length_le (by simp at e; omega)]
      exact L
    · obtain ⟨g', l', e, H2⟩ := H.keep (o := { cls := .type "tuple", data := .seq (items.take k).toArray }) rfl
      exact po (q _ g' _ l' ⟨0, by simpa using e⟩ H2)
theorem W_sortedI {l : Addr} {vs : List Value} {ns : List Int} {Q : Value → Heap → Prop} (H : Hp C.w.params g V h) (L : Lst h l vs) (hi : IntsAre vs ns) (hz : ns.length < 64)
    (q : ∀ D out ns' g' h', Le g g' → Lst g' D out → IntsAre out ns' → ns'.Perm ns → ns'.Pairwise (· ≤ ·) → Hp C.w.params g' V h' → Q (.ref D) h') : W C A (call (.builtin "sorted") [.ref l]) Q E h := fun k => by
  refine sorted_ints (s := C.sh h k) L.is hi (by rw [hi.length]; exact hz) fun out ns' h1 h2 h3 => ?_
  obtain ⟨e, he⟩ := sortedAll_at h vs out
  have keep : ∀ b o, h.get? b = some o → (sortedAll h vs out).get? b = some o := fun b o x => sortedAll_old x
  have H1 : Hp C.w.params g V (sortedAll h vs out) := ⟨fun b o x => keep b o (H.le b o x), fun p hp => (H.sat p hp).of_get fun o x => keep _ o x, H.out, H.nd⟩
  obtain ⟨l2, H2⟩ := H1.frz
  have new : h.objs.size + 1 ∉ V.map (·.1) := fun m => by
    obtain ⟨p, hp, e1⟩ := List.mem_map.mp m
    obtain ⟨o, ho⟩ := (H.sat p hp).ex
    have h3 := Heap.lt_size ho
    rw [e1] at h3
    exact Nat.lt_irrefl _ (Nat.lt_of_succ_lt h3)
  refine po (q _ out.toList ns' _ _ l2 ⟨e, ?_⟩ h1 h2 h3 H2)
  have := frz_get (V := V) he new
  simpa [seqObj] using this
theorem W_Dict1 {ke ve : PySem.Expr} {pos : Pos} {p : Addr × Sp} {Q : Value → Heap → Prop} (H : Hp C.w.params g (p :: V) h) (Wd : Wld C g)
    (x : ∀ D h1, Hp C.w.params g (p :: (D, .sd [] []) :: V) h1 → W C A (eval ke en) (fun kv h2 => W C A (eval ve en) (fun vv h3 => ∃ x t g2 p2 V2, kv = .str x t ∧ Hp C.w.params g2 (p2 :: (D, .sd [] []) :: V2) h3 ∧ ∀ h4, Hp C.w.params g2 (p2 :: (D, .sd [x] [vv]) :: V2) h4 → Q (.ref D) h4) E h2) E h1) : W C A (eval (.Dict [some ke] [ve] pos) en) Q E h := by
  have e : eval (.Dict [some ke] [ve] pos) en = (do standAt pos; let d ← subDict [(eval ke en, do let x ← eval ve en; standAt pos; pure x)]; pure (.ref d)) := by
    rw [arm_eval_Dict]
    have := dictDisplay_pairs [(eval ke en, do let x ← eval ve en; standAt pos; pure x)] (by simp) (by simp)
    rw [← this]
    rfl
  rw [e]
  refine W_bind (W_standAt (W_bind ?_))
  unfold subDict
  refine W_bind (W_alloc ?_)
  have H1 := (H.own (s := .sd [] []) ⟨[], 0, Heap.get?_push_size _ rfl, .nil, Wd.ne1 H.le⟩).swap
  refine W_bind (W_holding ?_)
  dsimp only [List.length]
  rw [if_pos (by decide)]
  simp only [evalPairs]
  refine W_bind (W_bind (W_mono (x _ _ H1) (fun kv h2 z => ?_) fun _ _ z => z))
  refine W_bind (W_holding (W_bind (W_mono z (fun vv h3 z => ?_) fun _ _ z => z)))
  obtain ⟨x, t, g2, p2, V2, rfl, H3, q⟩ := z
  refine W_bind (W_standAt (W_pure (W_bind (W_holding (W_pure (W_pure ?_))))))
  refine W_holding ?_
  rw [show (forIn (m := Sem) [((Value.str x t), vv)] PUnit.unit _) = _ from List.forIn_cons ..]
  refine W_bind (W_bind (W_bind (W_dictSet_sd (x := x) H3 (by simp) (.tail .head) (Pu.new (by simp)) (by simp) fun h4 H4 => ?_)))
  refine W_pure ?_
  dsimp only
  rw [List.forIn_nil]
  exact W_pure (W_pure (W_pure (W_pure (q _ H4))))
theorem W_range3 {a b c : Int} {t u v : Tok} {Q : Value → Heap → Prop} (hc : c ≠ 0) (hb : a.natAbs + b.natAbs < 1000) (hc2 : c.natAbs < 10) (H : Hp C.w.params g V h) (q : ∀ r g' h', Le g g' → Rg g' r a b c → Hp C.w.params g' V h' → Q (.ref r) h') : W C A (call (.type "range") [.int a t, .int b u, .int c v]) Q E h := fun k => by
  refine call_range_3 (s := C.sh h k) hc ?_ (Or.inl (PyProof.noPylong_small (by omega)))
  obtain ⟨g', l, e, H'⟩ := H.keep (o := { cls := .type "range", data := .fields #[.int a t, .int b u, .int c v] }) rfl
  exact po (q _ g' _ l ⟨_, _, _, e⟩ H')
theorem W_eqIL {a b : Addr} {vs us : List Value} {ns ms : List Int} {Q : Value → Heap → Prop} (hu : A.units + 64 < cLine) (L1 : Lst h a vs) (h1 : IntsAre vs ns) (L2 : Lst h b us) (h2 : IntsAre us ms) (q : Q (.bool (decide (ns = ms))) h) : W C A (compareOp .Eq (.ref a) (.ref b)) Q E h := fun k =>
  eq_intsK (s := C.sh h k) L1.is h1 L2.is h2 hu (po q)
theorem W_neb {a b : Bool} {Q : Value → Heap → Prop} (q : Q (.bool (a != b)) h) : W C A (compareOp .NotEq (.bool a) (.bool b)) Q E h := fun k => ne_bool (po q)
end

end
section
set_option linter.all false
def chk (n : Nat) (p : Array Nat → Bool) : KasT (Array Nat) → Bool
  | .ret a => p a
  | .ask i j k => decide (i < n) && decide (j < n) && chk n p (k true) && chk n p (k false)
theorem chk_wp {n : Nat} {p : Array Nat → Bool} {cmp : Nat → Nat → (Bool → Shared → Prop) → Shared → Prop} {Q : Array Nat → Shared → Prop} {s : Shared} (hc : ∀ i j (K : Bool → Shared → Prop), i < n → j < n → (∀ b, K b s) → cmp i j K s)
    (q : ∀ a, p a = true → Q a s) : ∀ t : KasT (Array Nat), chk n p t = true → t.kasWp cmp Q s
  | .ret a, e => q a e
  | .ask i j k, e => by
    simp only [chk, Bool.and_eq_true, decide_eq_true_eq] at e
    obtain ⟨⟨⟨a1, a2⟩, a3⟩, a4⟩ := e
    refine hc i j _ a1 a2 fun b => ?_
    cases b
    · exact chk_wp hc q (k false) a4
    · exact chk_wp hc q (k true) a3
def permB (n : Nat) (a : Array Nat) : Bool := decide (a.size = n) && a.toList.isPerm (List.range n)
theorem chk_2 : chk 2 (permB 2) (kas_sort 2) = true := by decide +kernel
theorem chk_3 : chk 3 (permB 3) (kas_sort 3) = true := by decide +kernel
theorem chk_4 : chk 4 (permB 4) (kas_sort 4) = true := by decide +kernel
theorem chk_all {n : Nat} (h2 : 2 ≤ n) (h4 : n ≤ 4) : chk n (permB n) (kas_sort n) = true := by
  match n, h2, h4 with
  | 2, _, _ => exact chk_2
  | 3, _, _ => exact chk_3
  | 4, _, _ => exact chk_4
section
variable {C : Cfg} {A : Around} {E : Value → Heap → Prop} {g g0 h : Heap} {V : Led} {en : Env}
theorem W_collectR {r : Addr} {n : Nat} {k : Int} {Q : List Value → Heap → Prop} (hh : A.handled = none) (H : Hp C.w.params g V h) (R : Rg g r 0 k 1) (hk : k = (n : Int)) (hn : n ≤ 1000)
    (q : ∀ items h', items.length = n → (∀ i, i < n → ∃ t, items[i]? = some (.int (i : Int) t)) → Hp C.w.params g V h' → Q items h') : W C A (collect (.ref r)) Q E h := fun k0 => by
  subst hk
  obtain ⟨t, u, v, hr⟩ := R.up H.le
  have hr : IsRange h r 0 (n : Int) 1 t u v := hr
  unfold collect
  refine wpAny_bind (wpAny_runValue (codeAny_builtin entry_proto_collect' ?_))
  rw [Around.under_plainId PySem.F.plain_proto_collect _]
  show wpAny _ A.in1 (newList [] >>= fun l => again (.builtin "list.__iadd__" ⟨[l, .ref r], []⟩)) _ _ (C.sh h k0)
  refine wpAny_bind (wpAny_newObj_type ?_)
  refine wpAny_pure ⟨plainId_quiet PySem.F.plain_list_iadd _, codeAny_builtin entry_list_iadd' ?_⟩
  rw [Around.under_plainId PySem.F.plain_list_iadd _]
  have hS₁ : (h.push { cls := .type "list", data := .seq ([] : List Value).toArray }).get? h.objs.size = some { cls := .type "list", data := .seq #[] } := Heap.get?_push_size _ rfl
  show wpAny _ A.in1 (Builtin.List.listExtendWith (.ref h.objs.size) (.ref r) (.ref h.objs.size)) _ _ _
  have key := wpAny_extend_range (prog := C.prog) (w := C.w) (A := A) (s := C.sh (h.push { cls := .type "list", data := .seq ([] : List Value).toArray }) k0)
    (R := fun (q : Result) (s' : Shared) => ∃ (h' : Heap) (tk : Nat) (acc' : Array Value) (c' : Nat), q = .ok (.ret (.ref h.objs.size)) ∧ s' = C.sh h' tk ∧
      (∀ b o, h.get? b = some o → h'.get? b = some o) ∧ h'.get? h.objs.size = some { cls := .type "list", dict := none, data := .seq acc' c', slots := #[] } ∧ ItemsOf (fun i v => ∃ t, v = .int (0 + (i : Int) * 1) t) acc' n)
    hh (Heap.get?_push_of_some _ hr) (range_small hn).1 (range_small hn).2 (by omega) h.objs.size (.ref h.objs.size) 0 hS₁
    (fun h' tk acc' c' hk hS' hacc => ⟨h', tk, acc', c', rfl, rfl, fun b o e => hk b o (Nat.ne_of_lt (Heap.lt_size e)) (Heap.get?_push_of_some _ e), hS', hacc⟩)
  refine wpAny_mono key (fun fin s' x => ?_) fun e s' x => ?_
  · cases fin with
    | done f =>
      obtain ⟨h', tk, acc', c', e, rfl, hk, hS', hacc⟩ := x
      cases e
      show wpAny _ A (load h.objs.size >>= _) _ _ _
      refine wpAny_bind (wpAny_load hS' ?_)
      refine wpAny_pure (po (q acc'.toList h' (by simpa using hacc.1) (fun i hi => ?_) ⟨fun b o e => hk b o (H.le b o e), fun p hp => (H.sat p hp).of_get fun o e => hk _ o e, H.out, H.nd⟩))
      have hi2 : i < acc'.size := by rw [hacc.1]; exact hi
      have hv : acc'[i]? = some acc'[i] := Array.getElem?_eq_getElem hi2
      obtain ⟨t, e2⟩ := hacc.2 i _ hv
      refine ⟨t, ?_⟩
      rw [Array.getElem?_toList, hv, e2]
      simp
    | again c' =>
      obtain ⟨hq, x⟩ := x
      refine ⟨hq, codeAny_mono x fun q1 s1 x => ?_⟩
      obtain ⟨h', tk, acc', c', rfl, rfl, hk, hS', hacc⟩ := x
      show wpAny _ A (load h.objs.size >>= _) _ _ _
      refine wpAny_bind (wpAny_load hS' ?_)
      refine wpAny_pure (po (q acc'.toList h' (by simpa using hacc.1) (fun i hi => ?_) ⟨fun b o e => hk b o (H.le b o e), fun p hp => (H.sat p hp).of_get fun o e => hk _ o e, H.out, H.nd⟩))
      have hi2 : i < acc'.size := by rw [hacc.1]; exact hi
      have hv : acc'[i]? = some acc'[i] := Array.getElem?_eq_getElem hi2
      obtain ⟨t, e2⟩ := hacc.2 i _ hv
      refine ⟨t, ?_⟩
      rw [Array.getElem?_toList, hv, e2]
      simp
  · obtain ⟨h', tk, acc', c', e1, _⟩ := x
    cases e1
end

end
section
set_option linter.all false
def PairI (g : Heap) (v : Value) : Prop := ∃ a x y t u, v = .ref a ∧ Tp g a [.int x t, .int y u]
theorem PairI.up {g g' : Heap} {v : Value} (p : PairI g v) (le : Le g g') : PairI g' v := let ⟨a, x, y, t, u, e, T⟩ := p; ⟨a, x, y, t, u, e, T.up le⟩
theorem Rm.in1 {A : Around} {n : Nat} (r : Rm A (n + 1)) : Rm A.in1 n := ⟨by have := r.d; show A.depth + 4 * n ≤ 900; omega, by have := r.u; show A.units + 1 + 12 * n ≤ 2000; omega, r.hd, r.gd⟩
section
variable {C : Cfg} {A : Around} {E : Value → Heap → Prop} {g g0 h : Heap} {V : Led} {en : Env}
theorem W_lupd {l : Addr} {items items' : List Value} {f : Array Value → Array Value} {V' : Led} {Q : Unit → Heap → Prop} (H : Hp C.w.params g V h) (U : Up l (.lst items) (.lst items') V V') (e : f items.toArray = items'.toArray) (hz : items.length ≤ 1000) (hz2 : items'.length ≤ 1000)
    (q : ∀ h', Hp C.w.params g V' h' → Q () h') : W C A (Builtin.List.listUpdate (.ref l) f) Q E h := fun k => by
  have Ls : Lst h l items := H.at U.mem
  obtain ⟨n, e1⟩ := Ls
  refine listUpdate_at (s := C.sh h k) e1 rfl (po (q _ ?_)) (by rw [List.size_toArray, sizeLine_eq]; omega) (by rw [e, List.size_toArray, sizeLine_eq]; omega)
  refine H.upd U ?_ (upd_other h l _)
  have e2 := Heap.get?_update_self (h := h) (Obj.mapSeq f) e1 rfl
  simp only [Obj.mapSeq, e] at e2
  exact ⟨_, e2⟩
theorem W_litems {l : Addr} {items : List Value} {Q : Array Value → Heap → Prop} (L : Lst h l items) (q : Q items.toArray h) : W C A (Builtin.List.listItems (.ref l)) Q E h := fun k => by
  obtain ⟨n, e⟩ := L
  exact listItems_at (s := C.sh h k) e rfl (po q)
theorem ask_ok {prog : Program} {w : World} {ks : List Value} {n i j : Nat} {s : Shared} {K : Bool → Shared → Prop} (hk : ∀ v ∈ ks, PairI s.heap v) (hn : ks.length = n) (hi : i < n) (hj : j < n) (q : ∀ b, K b s) : kas_ask prog w A (tuples' true) ks i j K s := by
  have gd : ∀ i, i < n → PairI s.heap (ks.getD i .none) := fun i hi => by
    rw [List.getD_eq_getElem?_getD, List.getElem?_eq_getElem (by omega)]
    exact hk _ (List.getElem_mem _)
  obtain ⟨a, x, y, t, u, ea, na, Ta⟩ := gd i hi
  obtain ⟨b, x2, y2, t2, u2, eb, nb, Tb⟩ := gd j hj
  unfold kas_ask
  rw [ea, eb]
  refine kat_lt Ta rfl Tb rfl ?_
  refine kat_cons (wpAny_eqBool_int ?_)
  unfold KatGo
  split
  · refine kat_cons (wpAny_eqBool_int ?_)
    unfold KatGo
    split
    · exact kat_nil (q _)
    · exact kat_one _ _ (lt_int (q _))
  · exact oneLt_int (q _)
theorem tups_of {h : Heap} : ∀ {ks : List Value}, (∀ v ∈ ks, PairI h v) → ∃ fs, KatTups h ks fs ∧ fs.length = ks.length ∧ ∀ v ∈ fs, ∃ x t, v = .int x t
  | [], _ => ⟨[], .nil, rfl, fun _ m => nomatch m⟩
  | k :: ks, hk => by
    obtain ⟨fs, a1, a2, a3⟩ := tups_of (ks := ks) fun v m => hk v (.tail _ m)
    obtain ⟨a, x, y, t, u, rfl, n, T⟩ := hk k (.head _)
    refine ⟨.int x t :: fs, .cons T rfl rfl rfl a1, by simp [a2], fun v m => ?_⟩
    rcases List.mem_cons.mp m with rfl | m
    · exact ⟨x, t, rfl⟩
    · exact a3 v m
theorem kind_ok {prog : Program} {w : World} {ks : List Value} {s : Shared} {Q : SortKind → Shared → Prop} (hk : ∀ v ∈ ks, PairI s.heap v) (h0 : 0 < ks.length) (q : Q (tuples' true) s) : wpAny (model prog w) A (keyKind' ks.toArray) Q (fun _ _ => False) s := by
  obtain ⟨fs, a1, a2, a3⟩ := tups_of hk
  exact kat_kind (T := .type "int") a1 (by omega) (fun v m => by obtain ⟨x, t, rfl⟩ := a3 v m; exact Looks.of_pure rfl) rfl q
theorem W_keyLoop {f : Value} {kS : Addr} {body : Value → PUnit → Sem (ForInStep PUnit)} {N : Nat} (hN : N ≤ 100)
    (hb : ∀ x h (Q : ForInStep PUnit → Heap → Prop), W C A (call f [x]) (fun k h2 => W C A (Builtin.List.listUpdate (.ref kS) (·.push k)) (fun _ h3 => Q (.yield ⟨⟩) h3) E h2) No h → W C A (body x ⟨⟩) Q E h)
    : ∀ (its ks : List Value) (g h : Heap) (Q : PUnit → Heap → Prop), ks.length + its.length = N → Hp C.w.params g ((kS, .lst ks) :: V) h → (∀ v ∈ ks, PairI g v) →
      (∀ x ∈ its, ∀ ks g1 h1, Le g g1 → Hp C.w.params g1 ((kS, .lst ks) :: V) h1 → W C A (call f [x]) (fun v h2 => ∃ g2, Le g1 g2 ∧ PairI g2 v ∧ Hp C.w.params g2 ((kS, .lst ks) :: V) h2) No h1) →
      (∀ ks' g' h', Le g g' → ks'.length = N → (∀ v ∈ ks', PairI g' v) → Hp C.w.params g' ((kS, .lst ks') :: V) h' → Q ⟨⟩ h') → W C A (forIn its PUnit.unit body) Q E h
  | [], ks, g, h, Q, e, H, pk, key, q => by
    rw [List.forIn_nil]
    exact W_pure (q ks g h (Le.refl g) (by simpa using e) pk H)
  | x :: its, ks, g, h, Q, e, H, pk, key, q => by
    rw [List.forIn_cons]
    have hl : ks.length + its.length + 1 = N := by rw [List.length_cons] at e; omega
    refine W_bind (hb x h _ (W_mono (key x (.head _) ks g h (Le.refl g) H) (fun v h2 z => ?_) fun _ _ z => z))
    obtain ⟨g2, l2, pv, H2⟩ := z
    refine W_lupd (items' := ks ++ [v]) H2 .head (by simp) (by omega) (by simp; omega) fun h3 H3 => ?_
    dsimp only
    refine W_keyLoop hN hb its (ks ++ [v]) g2 h3 Q (by simp; omega) H3 (fun y m => ?_) (fun x m ks g1 h1 l => key x (.tail _ m) ks g1 h1 (l2.trans l)) (fun ks' g' h' l => q ks' g' h' (l2.trans l))
    rcases List.mem_append.mp m with m | m
    · exact (pk y m).up l2
    · rw [List.mem_singleton.mp m]; exact pv
end
section
variable {C : Cfg} {A : Around} {E : Value → Heap → Prop} {g g0 h : Heap} {V : Led} {en : Env}
theorem W_seqEp {a : Addr} {e1 : Nat} {vs : Array Value} {Q : Nat → Heap → Prop} (ho : h.get? a = some (seqObj "list" vs e1)) (q : Q e1 h) : W C A (seqEpoch a) Q E h := fun k => seqEpoch_at (s := C.sh h k) ho rfl (po q)
theorem W_sortEnd {D kS : Addr} {its ks : List Value} {n e1 : Nat} {Q : Fin → Heap → Prop} (h2 : 2 ≤ n) (h4 : n ≤ 4) (hi : its.length = n) (hk : ks.length = n) (pk : ∀ v ∈ ks, PairI g v) (H : Hp C.w.params g ((kS, .lst ks) :: (D, .any fun o => o = seqObj "list" #[] e1) :: V) h)
    (q : ∀ (p : List Nat) h', p.Perm (List.range n) → Hp C.w.params g ((D, .lst (p.map fun i => its.getD i .none)) :: V) h' → Q (.done (.ret .none)) h') : W C A (ksk_end D false its.toArray e1 (.ref kS) ks.toArray) Q E h := fun k0 => by
  unfold ksk_end
  dsimp only
  rw [if_neg (by decide)]
  rw [if_neg (by rw [List.size_toArray]; omega), if_neg (by rw [List.size_toArray]; omega)]
  have pk' : ∀ v ∈ ks, PairI (C.sh h k0).heap v := fun v m => (pk v m).up H.le
  refine wpAny_bind (wpAny_mono (kind_ok (A := A) pk' (by omega) (Q := fun κ s' => κ = tuples' true ∧ s' = C.sh h k0) ⟨rfl, rfl⟩) (fun κ s0 z => ?_) fun _ _ x => x.elim)
  obtain ⟨rfl, rfl⟩ := z
  rw [if_neg (by decide)]
  have hl : ks.length = its.length := by omega
  have run : (kas_sort its.length).kasWp (kas_ask C.prog C.w A (tuples' true) ks) (fun p s' => permB n p = true ∧ s' = C.sh h k0) (C.sh h k0) := by
    rw [hi]
    exact chk_wp (fun i j K a1 a2 hK => ask_ok pk' hk a1 a2 hK) (fun a e => ⟨e, rfl⟩) _ (chk_all h2 h4)
  refine wpAny_bind (wpAny_mono (kat_run (Q := fun st' s' => ∃ p : Array Nat, p.size = its.length ∧ arrOf st' = p.map (kas_item (ks.toArray.zip its.toArray)) ∧ failedOf st' = none ∧ permB n p = true ∧ s' = C.sh h k0)
    hl (by omega) (by omega) (fun p st' s' a1 a2 a3 a4 => ⟨p, a1, a2, a3, a4.1, a4.2⟩) run) ?_ fun _ _ x => x)
  rintro ⟨⟨⟩, st'⟩ s' ⟨p, hp, har, hf, hperm, rfl⟩
  dsimp only
  simp only [permB, Bool.and_eq_true, decide_eq_true_eq, List.isPerm_iff] at hperm
  unfold ksk_tail
  dsimp only
  rw [kat_snds hl har]
  have body : W C A (do
      Builtin.List.listUpdate (.ref kS) fun _ => #[]
      letGo ((arrOf st').map (·.1)).toList (failedOf st').toList
      let touched := (← seqEpoch D) != e1
      Builtin.List.listUpdate (.ref D) fun _ => (p.toList.map fun i => its.getD i Value.none).toArray
      if touched then rule "list.sort.modified"; raiseError "ValueError" "list modified during sort"
      ret .none) Q E h := by
    refine W_bind (W_lupd (items' := []) H .head rfl (by omega) (by simp) fun h1 H1 => ?_)
    refine W_bind (W_letGo ?_)
    obtain ⟨o, ho, rfl⟩ := H1.at (s := .any fun o => o = seqObj "list" #[] e1) (.tail _ (.head _))
    refine W_bind (W_seqEp ho ?_)
    have H2 : Hp C.w.params g ((kS, .lst []) :: (D, .lst []) :: V) h1 := ⟨H1.le, fun p m => by
      rcases List.mem_cons.mp m with rfl | m
      · exact H1.sat _ (.head _)
      rcases List.mem_cons.mp m with rfl | m
      · exact ⟨e1, by simpa [seqObj] using ho⟩
      · exact H1.sat _ (.tail _ (.tail _ m)), fun p m => by
      rcases List.mem_cons.mp m with rfl | m
      · exact H1.out (kS, .lst []) (.head _)
      rcases List.mem_cons.mp m with rfl | m
      · exact H1.out (D, .any _) (.tail _ (.head _))
      · exact H1.out _ (.tail _ (.tail _ m)), H1.nd⟩
    refine W_bind (W_lupd (items' := p.toList.map fun i => its.getD i Value.none) H2 (.tail .head) rfl (by simp) (by rw [List.length_map, Array.length_toList, hp]; omega) fun h3 H3 => ?_)
    rw [if_neg (by simp)]
    exact W_pure (q p.toList h3 hperm.2 H3.drop)
  rw [hf] at body ⊢
  simpa using body k0
end

end
section
set_option linter.all false
section
variable {C : Cfg} {A : Around} {E : Value → Heap → Prop} {g g0 h : Heap} {V : Led} {en : Env}
theorem W_ksort {D qf : Addr} {its : List Value} {n : Nat} {Q : Fin → Heap → Prop} (h2 : 2 ≤ n) (h4 : n ≤ 4) (hi : its.length = n) (H : Hp C.w.params g ((D, .lst its) :: V) h)
    (key : ∀ x ∈ its, ∀ (p1 p2 : Addr × Sp) (g1 h1 : Heap), Le g g1 → Hp C.w.params g1 (p1 :: p2 :: V) h1 → W C A (call (.ref qf) [x]) (fun v h2 => ∃ g2, Le g1 g2 ∧ PairI g2 v ∧ Hp C.w.params g2 (p1 :: p2 :: V) h2) No h1)
    (q : ∀ (p : List Nat) g' h', Le g g' → p.Perm (List.range n) → Hp C.w.params g' ((D, .lst (p.map fun i => its.getD i .none)) :: V) h' → Q (.done (.ret .none)) h') : W C A (ksk_tree D (.ref qf) false) Q E h := by
  unfold ksk_tree
  refine W_bind (W_litems (H.at (s := .lst its) (.head _)) ?_)
  refine W_bind (W_lupd (items' := []) H .head rfl (by omega) (by simp) fun h1 H1 => ?_)
  obtain ⟨e1, ho⟩ := H1.at (s := .lst []) (.head _)
  refine W_bind (W_seqEp (e1 := e1) (vs := #[]) (by simpa [seqObj] using ho) ?_)
  have H2 : Hp C.w.params g ((D, .any fun o => o = seqObj "list" #[] e1) :: V) h1 := ⟨H1.le, fun p m => by
    rcases List.mem_cons.mp m with rfl | m
    · exact ⟨_, by simpa [seqObj] using ho, rfl⟩
    · exact H1.sat _ (.tail _ m), fun p m => by
    rcases List.mem_cons.mp m with rfl | m
    · exact H1.out (D, .lst []) (.head _)
    · exact H1.out _ (.tail _ m), H1.nd⟩
  refine W_bind (W_newTuple H2 (by simp; omega) fun tp g2 h3 l2 _ H3 => ?_)
  refine W_bind (W_newList (items := []) H3 (by simp) fun kS h4' H4 => ?_)
  refine W_holding ?_
  unfold ksk_rest
  refine W_bind (W_rule ?_)
  rw [List.forIn_toArray]
  refine W_bind (W_keyLoop (f := .ref qf) (kS := kS) (V := (D, .any fun o => o = seqObj "list" #[] e1) :: V) (N := n) (by omega) (fun x h Q z => ?_) its [] g2 h4' _ (by simpa using hi) H4 (by simp) (fun x m ks g1 h1 l H' => key x m _ _ g1 h1 (l2.trans l) H') fun ks' g' h' l e pk H5 => ?_)
  · refine W_bind (W_attempt (W_mono z (fun k h2 z => ?_) fun _ _ z => z.elim))
    dsimp only
    exact W_bind (W_mono z (fun _ h3 z => W_pure z) fun _ _ z => z)
  · refine W_bind (W_litems (H5.at (s := .lst ks') (.head _)) ?_)
    exact W_sortEnd h2 h4 hi e pk H5 fun p h' pp H6 => q p g' h' (l2.trans l) pp H6
theorem W_sortedK {r qf : Addr} {n : Nat} {k : Int} {Q : Value → Heap → Prop} (hh : A.handled = none) (H : Hp C.w.params g V h) (R : Rg g r 0 k 1) (ek : k = (n : Int)) (h2 : 2 ≤ n) (h4 : n ≤ 4)
    (key : ∀ (i : Nat) (t : Tok) (p1 p2 : Addr × Sp) (g1 h1 : Heap), i < n → Le g g1 → Hp C.w.params g1 (p1 :: p2 :: V) h1 → W C A.in1.in1 (call (.ref qf) [.int (i : Int) t]) (fun v h2 => ∃ g2, Le g1 g2 ∧ PairI g2 v ∧ Hp C.w.params g2 (p1 :: p2 :: V) h2) No h1)
    (q : ∀ D (p : List Nat) (out : List Value) g' h', Le g g' → p.Perm (List.range n) → IntsAre out (p.map fun (i : Nat) => (i : Int)) → Hp C.w.params g' ((D, .lst out) :: V) h' → Q (.ref D) h') : W C A (call (.builtin "sorted") [.ref r] [(Str.ofString "key", .ref qf)]) Q E h := fun k0 => by
  have body : W C A.in1 (Builtin.«sorted» ⟨[.ref r], [(Str.ofString "key", .ref qf)]⟩) (fun fin h' => ∃ v, fin = .done (.ret v) ∧ Q v h') E h := by
    unfold Builtin.«sorted»
    refine W_bind (W_of_eq (a := ()) rfl ?_)
    refine W_bind (W_collectR (A := A.in1) hh H R ek (by omega) fun items h1 li hit H1 => ?_)
    refine W_bind (W_newList (items := items) H1 (by omega) fun D h2' H2 => ?_)
    refine W_bind (W_holding ?_)
    intro k1
    obtain ⟨e0, hoD⟩ := H2.at (s := .lst items) (.head _)
    refine wpAny_call_entry_kw (s := C.sh h2' k1) slot_list_sort ⟨_, hoD, rfl⟩ entry_list_sort ?_ (ksk_l1 _ _)
    rw [ksk_t1]
    refine wpAny_mono (W_ksort (C := C) (A := A.in1.in1) (E := E) (Q := fun fin h' => fin = .done (.ret .none) ∧ W C A.in1 (ret (.ref D)) (fun fin h' => ∃ v, fin = .done (.ret v) ∧ Q v h') E h') h2 h4 li H2 (fun x m p1 p2 g1 h1 l H' => ?_) (fun p g' h' l pp H' => ?_) k1) (fun fin s1 z => ?_) fun _ _ z => z
    · obtain ⟨i, hi, e⟩ := List.getElem_of_mem m
      obtain ⟨t, e2⟩ := hit i (by omega)
      rw [List.getElem?_eq_getElem hi, e] at e2
      cases e2
      exact key i t p1 p2 g1 h1 (by omega) l H'
    · refine ⟨rfl, W_pure ⟨_, rfl, q D p _ g' h' l pp ?_ H'⟩⟩
      have lt : ∀ i ∈ p, i < n := fun i m => List.mem_range.mp (pp.mem_iff.mp m)
      clear pp H'
      induction p with
      | nil => exact .nil
      | cons i p ih =>
        obtain ⟨t, e2⟩ := hit i (lt i (.head _))
        simp only [List.map_cons]
        rw [List.getD_eq_getElem?_getD, e2]
        exact .cons _ t (ih fun j m => lt j (.tail _ m))
    · obtain ⟨h5, k5, rfl, rfl, z⟩ := z
      exact ⟨_, rfl, po z⟩
  refine call_function_entry_kw (s := C.sh h k0) kind_sorted plain_sorted entry_sorted (ksk_s1 _ _) (wpAny_mono (body k0) (fun fin s1 z => ?_) fun _ _ z => z)
  obtain ⟨h5, k5, rfl, v, rfl, z⟩ := z
  exact ⟨v, rfl, po z⟩
end

end
section
set_option linter.all false
section
variable {C : Cfg} {A : Around} {E : Value → Heap → Prop} {g g0 h : Heap} {V : Led} {en : Env} {L c P : Addr} {clos : List (Str × Addr)} {pos : Pos} {scope : Scope} {name qual : Str} {params : Arguments} {body : PySem.Expr} {q : Pos → Str}
def FnE (g : Heap) (f : Addr) (name qual : Str) (params : Arguments) (body : PySem.Expr) (scope : Scope) (clos : List (Str × Addr)) : Prop :=
  ∃ pm cdv ctv, g.get? f = some { cls := .type "function", data := .func (kla_fn name qual params body scope clos pm cdv ctv) } ∧ g.CodeRec cdv qual
theorem FnE.up {g g' : Heap} {f : Addr} (x : FnE g f name qual params body scope clos) (le : Le g g') : FnE g' f name qual params body scope clos :=
  let ⟨p, c, t, e, r⟩ := x; ⟨p, c, t, le _ _ e, r.keeps le⟩
theorem W_makeFnE {Q : Value → Heap → Prop} (H : Hp C.w.params g V h) (Wd : Wld C g) (hg : en.globals = mainGlobals) (hcode : en.code = .ref c) (m : (c, P) ∈ codesT) (mt : (P, .tab q) ∈ V) (hcl : closL scope.names en.cells [] = some clos) (hq : ∀ p : Pos, p.line = pos.line → p.col = pos.col → q p = qual)
    (x : ∀ f g' h', Le g g' → FnE g' f name qual params body scope clos → Hp C.w.params g' V h' → Q (.ref f) h') {fl : Nat} : W C A (makeFunction name qual params (.expr body) scope en [] [] [] pos fl) Q E h := fun k => by
  obtain ⟨mg, hmg, bm, ob, b1, b2, b3, b4, b5, b6⟩ := Wd.B
  obtain ⟨ps, eP, tr, hp⟩ := H.at (s := .tab q) mt
  have hmg' := hmg.keeps H.le
  have CH := (Wd.D _ m).keeps H.le
  have outP := H.out _ mt
  have hbP : bm ≠ P := fun e => by rw [e] at b3; rw [b3] at outP; cases outP
  have hbG : bm ≠ mainGlobals := fun e => by
    obtain ⟨o, es, ep, e', hd, _⟩ := hmg
    rw [e, e'] at b3; cases b3; rw [hd] at b6; cases b6
  have hgP : mainGlobals ≠ P := fun e => by
    obtain ⟨o, es, ep, e', hd, _⟩ := hmg
    rw [e] at e'; rw [e'] at outP; cases outP
  have hb : (C.sh h k).heap.BuiltinsAt mg P := ⟨bm, ob, b1, b2, hbG, hbP, H.le _ _ b3, b4, b5, b6⟩
  cases hf : codeAmong pos ps.toList with
  | some cv =>
    refine kla_makeFunctionHit (s := C.sh h k) (c := c) (P := P) (ps := ps) (cv := cv) (mg := mg) (clos := clos) (clos_of hcl) hg hmg' hcode CH eP tr hf hb fun ctv h' tk kp sz => ?_
    have H1 : Hp C.w.params g V h' := ⟨fun b o e => kp b o (H.le b o e), fun p hp => (H.sat p hp).of_get fun o e => kp _ o e, H.out, H.nd⟩
    obtain ⟨g', l, e, H2⟩ := H1.keep (o := { cls := .type "function", data := .func (kla_fn name qual params body scope clos ((mg "__name__").getD .none) cv ctv) }) rfl
    refine ⟨_, tk, rfl, x _ g' _ l ⟨_, cv, ctv, e, ?_⟩ H2⟩
    have := hp pos cv hf
    rw [hq pos rfl rfl] at this
    exact this.keeps l
  | none =>
    refine kla_makeFunction (s := C.sh h k) (c := c) (P := P) (ps := ps) (mg := mg) (clos := clos) (clos_of hcl) hg hmg' hcode CH eP tr hf hgP hb fun c' ctv h' tk hx hge hlt hrec htb => ?_
    have hx : Heap.ExtBut P h h' := hx
    have kp : ∀ b o, b ≠ P → h.get? b = some o → (h'.push (kla_obj name qual params body scope clos ((mg "__name__").getD .none) c' ctv)).get? b = some o := fun b o hb e => Heap.get?_push_of_some _ (hx b o hb e)
    have gk : ∀ b o, g.get? b = some o → (h'.push (kla_obj name qual params body scope clos ((mg "__name__").getD .none) c' ctv)).get? b = some o := fun b o e => kp b o (fun e' => by rw [e', outP] at e; cases e) (H.le b o e)
    have above : ∀ b, h.objs.size ≤ b → b ∉ V.map (·.1) := fun b hb mm => by
      obtain ⟨p, hp', e⟩ := List.mem_map.mp mm
      obtain ⟨o, ho⟩ := (H.sat p hp').ex
      have l1 := Heap.lt_size ho
      have e' : p.1 = b := e
      rw [e'] at l1
      exact absurd (Nat.lt_of_lt_of_le l1 hb) (Nat.lt_irrefl _)
    have lg : Le g (frz V (h'.push (kla_obj name qual params body scope clos ((mg "__name__").getD .none) c' ctv))) := fun b o e => frz_get (gk b o e) fun mm => by
      obtain ⟨p, hp', e'⟩ := List.mem_map.mp mm
      have := H.out p hp'
      rw [show p.1 = b from e', e] at this; cases this
    have fc : (frz V (h'.push (kla_obj name qual params body scope clos ((mg "__name__").getD .none) c' ctv))).CodeRec (.ref c') qual := by
      obtain ⟨c₂, o₂, vs₂, t₂, e₂, g₂, r₂⟩ := hrec
      cases e₂
      exact ⟨_, o₂, vs₂, t₂, rfl, frz_get (Heap.get?_push_of_some _ g₂) (above _ hge), r₂⟩
    have szh : h.objs.size ≤ h'.objs.size := Nat.le_trans hge (Nat.le_of_lt hlt)
    refine ⟨_, tk, rfl, x _ (frz V (h'.push (kla_obj name qual params body scope clos ((mg "__name__").getD .none) c' ctv))) _ lg ⟨_, .ref c', ctv, frz_get (Heap.get?_push_size _ rfl) (above _ szh), fc⟩ ⟨fun b o e => of_hideAll _ e, fun p hp' => ?_, fun p hp' => hideAll_none _ (List.mem_map_of_mem (f := (·.1)) hp'), H.nd⟩⟩
    by_cases e : p.1 = P
    · have : p = (P, .tab q) := by
        have nd := H.nd
        have := (List.pairwise_map.mp nd)
        rcases p with ⟨a, s⟩
        simp only at e
        subst e
        by_cases hs : s = .tab q
        · rw [hs]
        · exfalso
          obtain ⟨i, hi, e1⟩ := List.getElem_of_mem hp'
          obtain ⟨j, hj, e2⟩ := List.getElem_of_mem mt
          have hij : i = j := (List.getElem_inj (h₀ := by simpa using hi) (h₁ := by simpa using hj) nd).mp (by simp [e1, e2])
          subst hij
          rw [e1] at e2
          exact hs (Prod.mk.inj e2).2
      subst this
      refine ⟨_, Heap.get?_push_of_some _ htb, ?_, fun p' c2 e2 => ?_⟩
      · have := TriplesOk_snoc pos.line pos.col (.ref c') ps.toList tr
        simpa using this
      · have e2 : codeAmong p' (ps.toList ++ [rawInt pos.line, rawInt pos.col, .ref c']) = some c2 := by simpa using e2
        rcases codeAmong_snoc2 _ tr e2 with e3 | ⟨e3, e4, rfl⟩
        · exact (hp p' c2 e3).keeps lg
        · rw [hq p' (by omega) (by omega)]; exact fc
    · exact ((H.sat p hp').up lg).of_get fun o e' => kp _ o e e'
theorem W_Lambda {Q : Value → Heap → Prop} (hdef : defaultsOf params en = ([], [])) (x : W C A (makeFunction "<lambda>" (en.qual ++ "<lambda>") params (.expr body) scope en [] [] [] pos pos.line) Q E h) : W C A (eval (.Lambda params body scope pos) en) Q E h := fun k =>
  kla_eval hdef (x k)
theorem CW_exprE {e : PySem.Expr} {en : Env} {R : Result → Heap → Prop}
    (x : W C (A.deeper en) (eval e en) (fun v h' => R (.ok (.ret v)) h')
      (fun e h' => W C (A.deeper en) (leaving en e) (fun _ h'' => R (.error e) h'') (fun e' h'' => R (.error e') h'') h') h) : CW C A (.expr e en) R h :=
  fun k => kla_codeExpr (wpAny_mono (x k) (fun _ _ ⟨h1, k1, e1, y⟩ => ⟨h1, k1, e1, y⟩) fun _ _ ⟨_, k', e, y⟩ => e ▸ wpAny_mono (y k') (fun _ _ ⟨h2, k2, e2, y2⟩ => ⟨h2, k2, e2, y2⟩) fun _ _ ⟨h2, k2, e2, y2⟩ => ⟨h2, k2, e2, y2⟩)
theorem CW_fnE {f : Addr} {o : Obj} {fd : FuncData} {body : PySem.Expr} {args : Args} {binds : List (Str × Value)} {R : Result → Heap → Prop} {ns : List (Str × NameKind)} {xs : List Str} {vs : List (Option Value)} {n : Nat}
    (H : Hp C.w.params g V h) (Wd : Wld C g) (S : Stk A V) (r : Rm A (n + 1)) (ho : g.get? f = some o) (hd : o.data = .func fd) (hcd : g.CodeRec fd.code fd.qualname) (hbody : fd.body = .expr body)
    (hbind : Looks C.M g (bindArgs fd args) binds) (hns : fd.scope.names = ns) (hgl : fd.globals = mainGlobals ∧ fd.builtins = builtinsNs)
    (hco : (fd.scope.isCoroutine = false ∧ fd.scope.isGenerator = false) ∧ fd.scope.kind = .function)
    (hcell : (ns.all fun x => x.2 != .cell) = true) (hloc : (binds.all fun y => ns.lookup y.1 == some .local) = true)
    (hxs : (xs.all fun x => ns.lookup x == some .local && !(x == ("__debug__" : Str))) = true) (hnd : xs.Nodup) (hvs : xs.map (fun x => binds.reverse.lookup x) = vs)
    (x : ∀ L en A' h', Hp C.w.params g ((L, .frm xs vs) :: V) h' → Fe en L ns xs fd.closure → en.func = some f ∧ en.qual = fd.qualname ++ ".<locals>." ∧ en.code = fd.code → en.scope = fd.scope → Sb A' en L V → Rm A' n → W C A' (eval body en) (fun v h2 => R (.ok (.ret v)) h2) (Be C A' en R) h') :
    CW C A (.call (.ref f) args) R h := fun k => by
  refine kla_callFunE (s := C.sh h k) r.lim (H.le _ _ ho) hd hco.1.1 hco.1.2 hbody (hcd.keeps H.le) ?_
  refine hbind _ _ _ _ H.le (wpAny_newFunctionEnv (fun x hx q => ?_) (fun y hy => ?_) (fun h' hn hs => ⟨?_, ?_⟩) hco.2)
  · rw [hns] at hx
    have := List.all_eq_true.mp hcell x hx
    rw [q] at this; cases this
  · rw [hns]; exact beq_iff_eq.mp (List.all_eq_true.mp hloc y hy)
  · exact (Wd.lim.keeps H.le).fresh _ hs
  · have F : Fe (newEnv fd.scope h.objs.size fd.globals fd.closure (fd.qualname ++ ".<locals>.") (some f) fd.code none fd.builtins) h.objs.size ns xs fd.closure := by
      refine ⟨hco.2, hns, rfl, hgl.1, hgl.2, rfl, fun y hy => ?_, hnd⟩
      have := List.all_eq_true.mp hxs y hy
      simp only [Bool.and_eq_true, beq_iff_eq, Bool.not_eq_true'] at this
      exact this
    have ot : ∀ b x, b ≠ h.objs.size → (h.push { cls := .type "frame", data := .dict #[] }).get? b = some x → h'.get? b = some x := fun b x hb e => (hs.2 b hb).trans e
    have H' : Hp C.w.params g ((h.objs.size, .frm xs vs) :: V) h' := by
      have H1 := H.own (s := .frm [] []) (o := { cls := .type "frame", data := .dict #[] }) ⟨_, Heap.Ns.new _ _, rfl, fun i x v e _ => by simp at e⟩
      refine H1.upd .head ⟨_, hn, ?_⟩ ot
      rw [← hvs]
      refine ⟨by simp, fun i y v a b => ?_⟩
      rw [List.getElem?_map, a] at b
      exact Option.some.inj b
    have S' : Sb (A.deeper (newEnv fd.scope h.objs.size fd.globals fd.closure (fd.qualname ++ ".<locals>.") (some f) fd.code none fd.builtins)) (newEnv fd.scope h.objs.size fd.globals fd.closure (fd.qualname ++ ".<locals>.") (some f) fd.code none fd.builtins) h.objs.size V := by
      obtain ⟨envs, e, s⟩ := S
      exact ⟨_, Around.frames_deeper e, by rw [F.kind]; decide, rfl, s⟩
    exact CW_exprE (x _ _ _ _ H' F ⟨rfl, rfl, rfl⟩ rfl S' r.deeper) _
end

end
section
set_option linter.all false
theorem setItem_at {prog : Program} {w : World} {A : Around} {E : Value → Shared → Prop} {s : Shared} {l : Addr} {o : Obj} {items : Array Value} {n : Nat} {k : Int} {t : Tok} {v : Value} {Q : Unit → Shared → Prop} (ho : s.heap.get? l = some o) (hc : o.cls = .type "list") (hd : o.data = .seq items n)
    (h0 : 0 ≤ k) (hfit : k < 2 ^ 63) (hn : k < items.size) (q : Q () { s with heap := s.heap.update l (Obj.mapSeq (·.setIfInBounds k.toNat v)) }) : wpAny (model prog w) A (setItem (.ref l) (.int k t) v) Q E s := by
  have hT : s.TypeIs (.ref l) "list" := ⟨o, ho, hc⟩
  unfold setItem
  try with_reducible refine wpAny_holding ?_
  first | refine wpAny_bind (wpAny_pure ?_) | skip
  refine wpAny_bind (wpAny_sequenceKey hT (by decide) ?_)
  refine wpAny_bind (wpAny_callSpecial?_slot (name := Str.ofString "__setitem__") hT F.slot_list_setitem (wpAny_call_entry F.slot_list_setitem hT F.entry_list_setitem ?_ (args_list_setitem _ _ _)))
  show wpAny _ _ (Builtin.List.listSubscript? (.int k t) >>= _) _ _ s
  refine wpAny_bind (wpAny_listSubscript_int (fitsIndex_of h0 hfit) ?_)
  clear hfit
  obtain ⟨j, rfl⟩ := Int.eq_ofNat_of_zero_le h0
  have hj : j < items.size := by omega
  show wpAny _ _ ((seqItemAt l j >>= fun r => pure (r.map (j, ·))) >>= _) _ _ s
  refine wpAny_bind (wpAny_bind (wpAny_seqItemAt ho hd (wpAny_pure ?_)))
  rw [Array.getElem?_eq_getElem hj]
  show wpAny _ _ (setSeqItemAt l j v >>= _) _ _ s
  refine wpAny_bind (wpAny_setSeqItemAt ho hd ?_)
  first
    | exact wpAny_bind (wpAny_pure (wpAny_pure ⟨.none, rfl, wpAny_pure q⟩))
    | exact wpAny_pure ⟨.none, rfl, wpAny_pure q⟩
section
variable {C : Cfg} {A : Around} {E : Value → Heap → Prop} {g g0 h : Heap} {V V' : Led} {en : Env}
theorem W_setItemL {Q : Unit → Heap → Prop} {l : Addr} {items : List Value} {i : Nat} {k : Int} {t : Tok} {v : Value} (H : Hp C.w.params g V h) (U : Up l (.lst items) (.lst (items.set i v)) V V') (ek : k = (i : Int)) (hi : i < items.length) (hz : items.length ≤ 1000)
    (q : ∀ h', Hp C.w.params g V' h' → Q () h') : W C A (setItem (.ref l) (.int k t) v) Q E h := fun k0 => by
  obtain ⟨n, e⟩ := H.at U.mem
  refine setItem_at (s := C.sh h k0) e rfl rfl (by omega) (by omega) (by rw [List.size_toArray]; omega) (po (q _ ?_))
  refine H.upd U ?_ (upd_other h l _)
  have e2 := Heap.get?_update_self (h := h) (Obj.mapSeq (·.setIfInBounds k.toNat v)) e rfl
  simp only [Obj.mapSeq, List.setIfInBounds_toArray] at e2
  rw [show k.toNat = i from by omega] at e2 ⊢
  exact ⟨_, e2⟩
end

end
section Pre
set_option hygiene false
local macro_rules | `(tactic| k_search "lk") => `(tactic| (repeat (first | with_reducible exact Lk.head | with_reducible apply Lk.tail)))
local macro_rules | `(tactic| k_search "st") => `(tactic| (repeat (first | with_reducible exact St.head | with_reducible apply St.tail)))
local macro_rules | `(tactic| k_search "kk") => `(tactic| (repeat (first | with_reducible exact Kk.head | with_reducible apply Kk.tail)))
local macro_rules | `(tactic| k_search "ks") => `(tactic| (repeat (first | with_reducible exact Ks.head | with_reducible apply Ks.tail)))
local macro_rules | `(tactic| k_search "mm") => `(tactic| (repeat (first | with_reducible exact List.mem_cons_self | with_reducible apply List.mem_cons_of_mem)))
local macro_rules | `(tactic| k_search "up") => `(tactic| (repeat (first | with_reducible exact Up.head | with_reducible apply Up.tail)))
local macro_rules | `(tactic| k_search "lst") => `(tactic| first | exact Lst.up (by assumption) H.le | (refine H.lst ?_; k_search "mm"))
local macro_rules | `(tactic| k_search "name") => `(tactic| first
  | ((with_reducible refine' W_Nl F H ?h9l ?_); (case h9l => k_search "lk"))
  | ((with_reducible refine' W_Ng F H Wd ?h9a ?h9b ?h9c ?_); (case h9a => kernel_rfl); (case h9b => (with_reducible apply gl_of'); k_search "mm"); (case h9c => kernel_rfl))
  | ((with_reducible refine' W_Nb' F H Wd ?h9a ?h9b ?h9c ?_); (case h9a => kernel_rfl); (case h9b => (with_reducible apply bl_of'); k_search "mm"); (case h9c => kernel_rfl)))
local macro_rules | `(tactic| k_search "expr") => `(tactic| first
  | k_search "name"
  | ((with_reducible refine' W_CInt ?_); intro)
  | ((with_reducible refine' W_CStr ?_); intro)
  | with_reducible refine' W_CNone ?_
  | with_reducible refine' W_CBool ?_
  | with_reducible refine' W_BinOp ?_
  | with_reducible refine' W_Sub ?_
  | ((with_reducible refine' W_Attr ?h9b ?_); (case h9b => exact fun _ => rfl))
  | with_reducible refine' W_CallN ?_
  | with_reducible refine' W_IfExp ?_
  | with_reducible refine' W_cmp ?_)
local macro_rules | `(tactic| k_search "op") => `(tactic| first
  | ((with_reducible refine' W_add ?_); intro)
  | ((with_reducible refine' W_sub ?_); intro)
  | with_reducible refine' W_eqi ?_
  | with_reducible refine' W_nei ?_
  | with_reducible refine' W_lt ?_
  | with_reducible refine' W_gt ?_
  | with_reducible refine' W_le ?_
  | with_reducible refine' W_ge ?_
  | with_reducible refine' W_truthy_bool ?_
  | with_reducible refine' W_truthy_none ?_)
local macro_rules | `(tactic| k_search "args") => `(tactic| first
  | with_reducible refine' W_callWith ?_
  | ((with_reducible refine' And.intro ?h9kp ?_); (case h9kp => first | exact Kpr.bi | exact Kpr.ty | exact Kpr.fnT Wd H.le (by decide) | exact Kpr.clT Wd H.le (by decide) | (refine Kpr.fn ?_ rfl; assumption)); (try dsimp only [List.nil_append, List.cons_append, List.zip, List.zipWith, namesOf, Option.toList]))
  | ((with_reducible refine' W_argsA ?h9a ?h9b ?_); (case h9a => rfl); (case h9b => rfl))
  | with_reducible refine' W_sp_nil ?_
  | ((with_reducible refine' W_sp_cons ?h9a ?_); (case h9a => rfl))
  | with_reducible refine' W_kw_nil ?_
  | with_reducible refine' W_kw_cons ?_)
local macro_rules | `(tactic| k_search "stmt") => `(tactic| first
  | with_reducible refine' W_execs ?_
  | with_reducible refine' W_execs_nil ?_
  | with_reducible refine' W_Return ?_
  | with_reducible refine' W_If ?_
  | ((with_reducible refine' W_Assign ?_ ?h9a ?h9b ?h9c); (case h9a => rfl); (case h9b => rfl); (case h9c => rfl))
  | with_reducible refine' W_as_Name ?_
  | with_reducible refine' W_as_Attr ?_
  | with_reducible refine' W_as_Sub ?_
  | ((with_reducible refine' W_bindL F H ?h9l ?_); (case h9l => k_search "st"); clear H; intro h H))
local macro_rules | `(tactic| k_search "s") => `(tactic| first | k_search "expr" | k_search "op" | k_search "args" | k_search "stmt")
local macro_rules | `(tactic| k_search "in") => `(tactic| (intro L en A h H F Fq Fs S r; dsimp only at F Fq Fs; try dsimp only))
local macro_rules | `(tactic| k_search "ss") => `(tactic| repeat k_search "s")
local macro_rules | `(tactic| k_search "set") => `(tactic| ((with_reducible refine' W_setI Wd.K ?h9k ?h9n H ?h9o ?h9u ?h9p ?h9z ?_); (case h9o => exact H.at (s := .obj (instObj _ _)) (by k_search "mm")); (case h9k => exact cl_of (by decide)); (case h9n => exact (na_of' (by k_search "mm")).taker); (case h9u => k_search "up"); (case h9p => exact Pu.new (by decide +kernel)); (case h9z => decide); clear H; intro h H; try dsimp only [List.nil_append, List.cons_append] at H))
local macro_rules | `(tactic| k_search "fl") => `(tactic| first
  | with_reducible refine' Fl_next ?_
  | with_reducible refine' Fl_ret ?_
  | with_reducible refine' Bq_ret ?_
  | with_reducible refine' Bq_next ?_
  | with_reducible refine' Ib_ret ?_
  | with_reducible refine' Rv_ret ?_)
local macro_rules | `(tactic| k_search "s") => `(tactic| first | k_search "expr" | k_search "op" | k_search "args" | k_search "stmt" | k_search "set" | k_search "fl")
local macro_rules | `(tactic| k_search "stk") => `(tactic| exact Sb.stk S (by k_search "mm") (by intro p9 hp9; repeat (first | exact hp9 | apply List.mem_cons_of_mem | exact List.mem_append_left _ hp9)))
local macro_rules | `(tactic| k_search "lift") => `(tactic| ((try replace Wd := Wd.up le); (try replace p1 := p1.up le); (try replace p2 := p2.up le); (try replace p3 := p3.up le); (try replace p4 := p4.up le); (try replace p5 := p5.up le); (try replace p6 := p6.up le); (try replace p7 := p7.up le); (try replace p8 := p8.up le); (try replace p9 := p9.up le)))
local macro_rules | `(tactic| k_search "ink") => `(tactic| (intro L ca en A h H F Fq Fs S r; dsimp only [List.cons_append, List.nil_append] at H; dsimp only at F Fq Fs; try dsimp only))
local macro_rules | `(tactic| k_search "mt") => `(tactic| (repeat (first | assumption | apply List.mem_cons_of_mem)))
local macro_rules | `(tactic| k_search "nc") => `(tactic| ((with_reducible refine' W_Nc' F ?h9a ?h9b ?h9c ?h9m ?h9v ?_); (case h9m => k_search "mm"); (case h9a => kernel_rfl); (case h9b => kernel_rfl); (case h9c => kernel_rfl); (case h9v => first | (refine Sat.at1 ?_ H; assumption) | (refine H.at ?_; k_search "mm"; done))))
local macro_rules | `(tactic| k_search "tst") => `(tactic| first
  | with_reducible refine' W_T_cmp ?_
  | with_reducible refine' W_T_not ?_
  | with_reducible refine' W_T_bool ?_
  | ((with_reducible refine' W_marked ?h9a ?_); (case h9a => rfl))
  | ((with_reducible refine' W_T_p ?h9a ?_); (case h9a => exact fun _ => rfl)))
local macro_rules | `(tactic| k_search "at1") => `(tactic| ((with_reducible refine' W_getA H Wd ?h9i ?h9c ?h9n ?h9d ?h9k ?h9v ?_); (case h9i => assumption); (case h9c => decide); (case h9n => k_search "mm"); (case h9d => first | assumption | decide +kernel); (case h9k => first | assumption | k_search "kk"); (case h9v => rfl)))
local macro_rules | `(tactic| k_search "expr2") => `(tactic| ((with_reducible refine' W_Expr ?_ ?h9a ?h9b); (case h9a => (unfold interactive; rw [F.kind]; rfl)); (case h9b => rfl)))
local macro_rules | `(tactic| k_search "joi") => `(tactic| first
  | with_reducible refine' W_Join ?_
  | ((with_reducible refine' W_joinB ?h9a ?_); (case h9a => first | assumption | exact Nat.le_refl _))
  | with_reducible refine' W_FV ?_)
local macro_rules | `(tactic| k_search "isn") => `(tactic| first
  | with_reducible refine' W_isNone ?_
  | with_reducible refine' W_isNotNone ?_
  | with_reducible refine' W_isRef ?_
  | with_reducible refine' W_isNotRef ?_
  | ((with_reducible refine' W_isV ?h9a ?_); (case h9a => rfl))
  | ((with_reducible refine' W_isNotV ?h9a ?_); (case h9a => rfl)))
local macro_rules | `(tactic| k_search "disp") => `(tactic| first
  | with_reducible refine' W_Tuple ?_
  | with_reducible refine' W_List ?_
  | with_reducible refine' W_as_Tup ?_
  | with_reducible refine' W_ord_nil ?_
  | with_reducible refine' W_ord_cons ?_
  | with_reducible refine' W_unpack ?_
  | with_reducible refine' W_oE_nil ?_
  | ((with_reducible refine' W_oE_cons ?h9a ?_); (case h9a => rfl)))
local macro_rules | `(tactic| k_search "nm2") => `(tactic| first
  | ((with_reducible refine' W_Nl F H ?h9l ?_); (case h9l => k_search "lk"))
  | k_search "nc"
  | ((with_reducible refine' W_Ng F H Wd ?h9a ?h9b ?h9c ?_); (case h9b => (with_reducible apply gl_of'); k_search "mm"); (case h9a => kernel_rfl); (case h9c => kernel_rfl))
  | ((with_reducible refine' W_Nb' F H Wd ?h9a ?h9b ?h9c ?_); (case h9b => (with_reducible apply bl_of'); k_search "mm"); (case h9a => kernel_rfl); (case h9c => kernel_rfl)))
local macro_rules | `(tactic| k_search "disp2") => `(tactic| first
  | with_reducible refine' W_Tuple ?_
  | with_reducible refine' W_List ?_
  | with_reducible refine' W_ord_nil ?_
  | with_reducible refine' W_ord_cons ?_
  | with_reducible refine' W_oE_nil ?_
  | ((with_reducible refine' W_oE_cons ?h9a ?_); (case h9a => rfl)))
local macro_rules | `(tactic| k_search "br") => `(tactic| first
  | ((with_reducible refine' Br_t ?h9q ?_); (case h9q => first | rfl | decide))
  | ((with_reducible refine' Br_f ?h9q ?_); (case h9q => first | rfl | decide))
  | with_reducible refine' W_and ?_
  | with_reducible refine' W_or ?_
  | with_reducible refine' W_and_nil ?_
  | with_reducible refine' W_or_nil ?_)
local macro_rules | `(tactic| k_search "t") => `(tactic| first
  | k_search "nm2"
  | ((with_reducible refine' W_CInt ?_); intro)
  | ((with_reducible refine' W_CStr ?_); intro)
  | with_reducible refine' W_CNone ?_
  | with_reducible refine' W_CBool ?_
  | with_reducible refine' W_BinOp ?_
  | with_reducible refine' W_UnaryOp ?_
  | with_reducible refine' W_Sub ?_
  | ((with_reducible refine' W_Attr ?h9b ?_); (case h9b => exact fun _ => rfl))
  | with_reducible refine' W_CallN ?_
  | with_reducible refine' W_IfExp ?_
  | with_reducible refine' W_cmp ?_
  | k_search "op" | k_search "args" | k_search "stmt" | k_search "fl" | k_search "tst" | k_search "br" | k_search "disp2" | k_search "isn" | k_search "expr2")
local macro_rules | `(tactic| k_search "tt") => `(tactic| repeat k_search "t")
local macro_rules | `(tactic| k_search "br") => `(tactic| first
  | with_reducible refine' W_tests_nil ?_
  | with_reducible refine' W_tests_one ?_
  | ((with_reducible refine' Ite_t ?h9q ?_); (case h9q => first | rfl | decide))
  | ((with_reducible refine' Ite_f ?h9q ?_); (case h9q => first | rfl | decide)))
local macro_rules | `(tactic| k_search "t") => `(tactic| ((with_reducible refine' W_getA H Wd ?h9i ?h9c ?h9n ?h9d ?h9k ?h9v ?_); (case h9i => assumption); (case h9c => decide); (case h9n => k_search "mm"); (case h9d => first | assumption | decide +kernel); (case h9k => first | assumption | k_search "kk"); (case h9v => first | rfl | assumption)))
local macro_rules | `(tactic| k_search "op") => `(tactic| first
  | with_reducible refine' W_eqs ?_
  | with_reducible refine' W_nes ?_)
local macro_rules | `(tactic| k_search "set2") => `(tactic| ((with_reducible refine' W_setI Wd.K ?h9k ?h9n H ?h9o ?h9u ?h9p ?h9z ?_); (case h9o => exact H.at (s := .obj (instObj _ _)) (by k_search "mm")); (case h9k => exact cl_of (by decide)); (case h9n => exact (na_of' (by k_search "mm")).taker); (case h9u => k_search "up"); (case h9p => exact Pu.old (by decide +kernel) (by k_search "ks")); (case h9z => decide); clear H; intro h H; try dsimp only [List.nil_append, List.cons_append] at H))
local macro_rules | `(tactic| k_search "gol") => `(tactic| (refine W_getI (Wd.K.keeps H.le) (cl_of (by decide)) (na_of' (by k_search "mm")) (H.inst (by k_search "mm") (by k_search "mm")) (by decide +kernel) (by k_search "kk") rfl ?_))
local macro_rules | `(tactic| k_search "bc") => `(tactic| ((with_reducible refine' W_bindC F H ?h9n ?h9c ?h9u ?_); (case h9n => kernel_rfl); (case h9c => rfl); (case h9u => k_search "up"); clear H; intro h H; try dsimp only [List.nil_append, List.cons_append] at H))
section
set_option maxHeartbeats 4000000
theorem fillK1 (w : World) (h : Heap) : (hd.heap_39 w.params).In h → PySem.Challenge.rw_at6004_01.prog = PySem.Challenge.rw_at6004_01.prog → True := by
  k_fill
  exact fun _ _ => trivial

theorem pylong2 (k : Int) : Builtin.divisionGoesByPylong k 2 = false := by
  unfold Builtin.divisionGoesByPylong
  dsimp only
  rw [show (decide ((if ((2 : Int) == 0) = true then 0 else (2 : Int).natAbs.log2 / 30 + 1) > 300)) = false by decide +kernel]
  rfl
def drawI (ns : List Int) (k m : Int) : Int := (ns.getD (k.fmod ns.length).toNat 0 + k * k + k.fdiv 2).fmod m
theorem draw_ok {C : Cfg} {A : Around} {g h : Heap} {V : Led} {n : Nat} {R : Result → Heap → Prop} {rl : Addr} {vs : List Value} {ns : List Int} {k m : Int} {t1 t2 : Tok}
    (H0 : Hp C.w.params g V h) (Wd : Wld C g) (S0 : Stk A V) (r0 : Rm A (n + 1)) (hL : Lst g rl vs) (hi : IntsAre vs ns) (hp : 0 < ns.length) (hn : ns.length < 64) (hm : 0 < m) (hk : 0 ≤ k) (hk2 : k < 100)
    (q : ∀ t h', Hp C.w.params g V h' → R (.ok (.ret (.int (drawI ns k m) t))) h') : CW C A (.call (.ref 567) ⟨[.ref rl, .int k t1, .int m t2], []⟩) R h := by
  refine CW_fn (xs := [Str.ofString "rows", Str.ofString "k", Str.ofString "m"]) (binds := [(Str.ofString "rows", .ref rl), (Str.ofString "k", .int k t1), (Str.ofString "m", .int m t2)]) (vs := [some (.ref rl), some (.int k t1), some (.int m t2)]) (n := n) H0 Wd S0 r0
    (Wd.K _ _ (show List.lookup 567 (hd.heap_39 C.w.params) = some _ by k_is)) rfl (codeRec_of (K := hd.heap_39 C.w.params) Wd.K (by k_is)) rfl (Looks.of_pure (by kernel_rfl)) rfl ⟨rfl, rfl⟩ ⟨⟨rfl, rfl⟩, rfl⟩ (by kernel_rfl) (by kernel_rfl) (by kernel_rfl) (by decide +kernel) (by kernel_rfl) ?_
  k_search "in"
  k_search "ss"


  have hlen : vs.length = ns.length := hi.length
  refine W_len_list (hL.up H.le) (by omega) ?_; intro
  k_search "ss"
  refine W_mod (by omega) ?_; intro
  have h1 : 0 ≤ k.fmod vs.length := Int.fmod_nonneg_of_pos k (by omega)
  have h2 : k.fmod vs.length < vs.length := Int.fmod_lt_of_pos k (by omega)
  obtain ⟨x, hx⟩ : ∃ x, vs[(k.fmod vs.length).toNat]? = some x := ⟨_, List.getElem?_eq_getElem (by omega)⟩
  obtain ⟨t, rfl⟩ := hi.int_at _ _ hx
  refine W_sub_list (hL.up H.le) h1 (by omega) hx ?_
  k_search "ss"
  refine W_mul (.of_left (intBits_le_64 (by omega) (by omega))) ?_; intro
  k_search "ss"
  refine W_fdiv (by decide) (pylong2 k) ?_; intro
  k_search "ss"
  refine W_mod (by omega) ?_; intro
  have e : ∀ t, R (.ok (.ret (.int (drawI ns k m) t))) h := fun t => q t h H.drop
  unfold drawI at e
  rw [hlen]
  exact e _

end
section
set_option maxHeartbeats 4000000
section
variable {C : Cfg} {A : Around} {g h : Heap} {V : Led} {n : Nat} {R : Result → Heap → Prop}
abbrev nvK : List Str := [Str.ofString "bound", Str.ofString "compare_op", Str.ofString "compare_func"]
theorem nv_init {a dx : Addr} {b o f : Value} (H0 : Hp C.w.params g ((a, .obj (instObj 540 dx)) :: (dx, .sd [] []) :: V) h) (Wd : Wld C g) (S0 : Stk A V) (r0 : Rm A (n + 1))
    (q : ∀ g' h', Le g g' → Inst C.w.params g' a 540 nvK [b, o, f] → Hp C.w.params g' V h' → R (.ok (.ret (.ref a))) h') : CW C A (.call (.ref 530) ⟨[.ref a, b, o, f], []⟩) (Ib a R) h := by
  refine CW_fn (xs := [Str.ofString "self", Str.ofString "bound", Str.ofString "compare_op", Str.ofString "compare_func"]) (binds := [(Str.ofString "self", .ref a), (Str.ofString "bound", b), (Str.ofString "compare_op", o), (Str.ofString "compare_func", f)]) (vs := [some (.ref a), some (b), some (o), some (f)]) (n := n) H0 Wd (S0.more.more) r0
    (Wd.K _ _ (show List.lookup 530 (hd.heap_39 C.w.params) = some _ by k_is)) rfl (codeRec_of (K := hd.heap_39 C.w.params) Wd.K (by k_is)) rfl (Looks.of_pure (by kernel_rfl)) rfl ⟨rfl, rfl⟩ ⟨⟨rfl, rfl⟩, rfl⟩ (by kernel_rfl) (by kernel_rfl) (by kernel_rfl) (by decide +kernel) (by kernel_rfl) ?_
  k_search "in"
  k_search "ss"
  obtain ⟨g', l, I, H⟩ := H.drop.ready
  exact q _ _ l I H
theorem nv_make {b o f : Value} (H0 : Hp C.w.params g V h) (Wd : Wld C g) (S0 : Stk A V) (r0 : Rm A (n + 2))
    (q : ∀ a g' h', Le g g' → Inst C.w.params g' a 540 nvK [b, o, f] → Hp C.w.params g' V h' → R (.ok (.ret (.ref a))) h') : CW C A (.call (.ref 540) ⟨[b, o, f], []⟩) R h :=
  have m := mk_of (P := C.w.params) (c := 540) (f := 530) (by decide)
  CW_make H0 Wd m.1 m.2.1 m.2.2 fun a _ _ H' => nv_init H' Wd S0.under r0.under (q a)
theorem le_ok {v : Value} (H0 : Hp C.w.params g V h) (Wd : Wld C g) (S0 : Stk A V) (r0 : Rm A (n + 3))
    (q : ∀ a t g' h', Le g g' → Inst C.w.params g' a 540 nvK [v, .str (Str.ofString "<=") t, .builtin "_operator.le"] → Hp C.w.params g' V h' → R (.ok (.ret (.ref a))) h') : CW C A (.call (.ref 551) ⟨[v], []⟩) R h := by
  refine CW_fn (xs := [Str.ofString "val"]) (binds := [(Str.ofString "val", v)]) (vs := [some (v)]) (n := n + 2) H0 Wd (S0) r0
    (Wd.K _ _ (show List.lookup 551 (hd.heap_39 C.w.params) = some _ by k_is)) rfl (codeRec_of (K := hd.heap_39 C.w.params) Wd.K (by k_is)) rfl (Looks.of_pure (by kernel_rfl)) rfl ⟨rfl, rfl⟩ ⟨⟨rfl, rfl⟩, rfl⟩ (by kernel_rfl) (by kernel_rfl) (by kernel_rfl) (by decide +kernel) (by kernel_rfl) ?_
  k_search "in"
  k_search "ss"
  refine W_call (nv_make H Wd (by k_search "stk") r ?_)
  intro a g h le I H
  k_search "ss"
  exact q _ _ _ _ le I H.drop
theorem ge_ok {v : Value} (H0 : Hp C.w.params g V h) (Wd : Wld C g) (S0 : Stk A V) (r0 : Rm A (n + 3))
    (q : ∀ a t g' h', Le g g' → Inst C.w.params g' a 540 nvK [v, .str (Str.ofString ">=") t, .builtin "_operator.ge"] → Hp C.w.params g' V h' → R (.ok (.ret (.ref a))) h') : CW C A (.call (.ref 558) ⟨[v], []⟩) R h := by
  refine CW_fn (xs := [Str.ofString "val"]) (binds := [(Str.ofString "val", v)]) (vs := [some (v)]) (n := n + 2) H0 Wd (S0) r0
    (Wd.K _ _ (show List.lookup 558 (hd.heap_39 C.w.params) = some _ by k_is)) rfl (codeRec_of (K := hd.heap_39 C.w.params) Wd.K (by k_is)) rfl (Looks.of_pure (by kernel_rfl)) rfl ⟨rfl, rfl⟩ ⟨⟨rfl, rfl⟩, rfl⟩ (by kernel_rfl) (by kernel_rfl) (by kernel_rfl) (by decide +kernel) (by kernel_rfl) ?_
  k_search "in"
  k_search "ss"
  refine W_call (nv_make H Wd (by k_search "stk") r ?_)
  intro a g h le I H
  k_search "ss"
  exact q _ _ _ _ le I H.drop
abbrev avK : List Str := [Str.ofString "_validators"]
theorem av_init {a dx : Addr} {b : Value} (H0 : Hp C.w.params g ((a, .obj (instObj 465 dx)) :: (dx, .sd [] []) :: V) h) (Wd : Wld C g) (S0 : Stk A V) (r0 : Rm A (n + 1))
    (q : ∀ g' h', Le g g' → Inst C.w.params g' a 465 avK [b] → Hp C.w.params g' V h' → R (.ok (.ret (.ref a))) h') : CW C A (.call (.ref 455) ⟨[.ref a, b], []⟩) (Ib a R) h := by
  refine CW_fn (xs := [Str.ofString "self", Str.ofString "validators"]) (binds := [(Str.ofString "self", .ref a), (Str.ofString "validators", b)]) (vs := [some (.ref a), some (b)]) (n := n) H0 Wd (S0.more.more) r0
    (Wd.K _ _ (show List.lookup 455 (hd.heap_39 C.w.params) = some _ by k_is)) rfl (codeRec_of (K := hd.heap_39 C.w.params) Wd.K (by k_is)) rfl (Looks.of_pure (by kernel_rfl)) rfl ⟨rfl, rfl⟩ ⟨⟨rfl, rfl⟩, rfl⟩ (by kernel_rfl) (by kernel_rfl) (by kernel_rfl) (by decide +kernel) (by kernel_rfl) ?_
  k_search "in"
  k_search "ss"
  obtain ⟨g', l, I, H⟩ := H.drop.ready
  exact q _ _ l I H
theorem av_make {b : Value} (H0 : Hp C.w.params g V h) (Wd : Wld C g) (S0 : Stk A V) (r0 : Rm A (n + 2))
    (q : ∀ a g' h', Le g g' → Inst C.w.params g' a 465 avK [b] → Hp C.w.params g' V h' → R (.ok (.ret (.ref a))) h') : CW C A (.call (.ref 465) ⟨[b], []⟩) R h :=
  have m := mk_of (P := C.w.params) (c := 465) (f := 455) (by decide)
  CW_make H0 Wd m.1 m.2.1 m.2.2 fun a _ _ H' => av_init H' Wd S0.under r0.under (q a)
end

end
section
set_option maxHeartbeats 4000000
section
variable {C : Cfg} {A : Around} {g h : Heap} {V : Led} {n : Nat} {R : Result → Heap → Prop}
abbrev lcQ : Pos → Str := fun p => if p.line == 478 && p.col == 4 then Str.ofString "_law_check.<locals>.check" else Str.ofString ""
def Chk (P : Params) (g : Heap) (f : Addr) (nm iv sv : Value) : Prop := ∃ c1 c2 c3, Nst P g f 574 0 (Str.ofString "_law_check.<locals>.check") [(Str.ofString "side", c3), (Str.ofString "names", c1), (Str.ofString "i", c2)] ∧
  Sat P g g c1 (.cell (some nm)) ∧ Sat P g g c2 (.cell (some iv)) ∧ Sat P g g c3 (.cell (some sv))
theorem lcheck_ok {nm iv sv : Value} (H0 : Hp C.w.params g V h) (Wd : Wld C g) (S0 : Stk A V) (r0 : Rm A (n + 1)) (mt : (569, .tab lcQ) ∈ V)
    (q : ∀ f g' h', Le g g' → Chk C.w.params g' f nm iv sv → Hp C.w.params g' V h' → R (.ok (.ret (.ref f))) h') : CW C A (.call (.ref 574) ⟨[nm, iv, sv], []⟩) R h := by
  refine CW_fnK (xs := [Str.ofString "check"]) (cn := [Str.ofString "names", Str.ofString "i", Str.ofString "side"]) (binds := [(Str.ofString "names", nm), (Str.ofString "i", iv), (Str.ofString "side", sv)]) (vs := [none]) (n := n) (ccl := (fun ca => [(Str.ofString "side", ca 2), (Str.ofString "i", ca 1), (Str.ofString "names", ca 0)])) (cled := (fun ca => [(ca 2, .cell (some (sv))), (ca 1, .cell (some (iv))), (ca 0, .cell (some (nm)))])) H0 Wd (S0) r0
    (Wd.K _ _ (show List.lookup 574 (hd.heap_39 C.w.params) = some _ by k_is)) rfl (codeRec_of (K := hd.heap_39 C.w.params) Wd.K (by k_is)) rfl (Looks.of_pure (by kernel_rfl)) rfl ⟨⟨rfl, rfl⟩, rfl⟩ ⟨⟨rfl, rfl⟩, rfl⟩ (by kernel_rfl) (by decide +kernel) (by kernel_rfl) (by kernel_rfl) (by kernel_rfl) (by decide +kernel) (by kernel_rfl) (fun _ => rfl) (fun _ => by kernel_rfl) ?_
  k_search "ink"
  refine W_execs (W_Def ?_ rfl rfl rfl)
  rw [show qualnameIn en (Str.ofString "check") (Str.ofString "check") = Str.ofString "_law_check.<locals>.check" from by unfold qualnameIn; rw [F.kof (k := .local) (by kernel_rfl), Fq.2.1]; kernel_rfl]
  refine W_makeFn (P := 569) (q := lcQ) (clos := [(Str.ofString "side", ca 2), (Str.ofString "names", ca 0), (Str.ofString "i", ca 1)]) H Wd F.glob Fq.2.2 (by decide) (by k_search "mt") (by rw [F.cells]; kernel_rfl) (fun p a b => by unfold lcQ; rw [a, b]; rfl) ?_
  intro f g1 h1 l1 fo H1
  refine W_storeL F H1 St.head ?_
  intro h2 H2
  obtain ⟨g3, l3, s3, H3⟩ := H2.give
  obtain ⟨g4, l4, s4, H4⟩ := H3.give
  obtain ⟨g5, l5, s5, H⟩ := H4.give
  k_search "ss"
  exact q f g5 _ (l1.trans (l3.trans (l4.trans l5))) ⟨_, _, _, ⟨_, _, _, _, _, _, _, _, _, _, (show List.lookup 574 (hd.heap_39 C.w.params) = some _ by k_is), rfl, rfl, fo.up (l3.trans (l4.trans l5))⟩, s5,
    (s4.up l5).of_get fun o e => l5 _ o e, (s3.up (l4.trans l5)).of_get fun o e => (l4.trans l5) _ o e⟩ H.drop
def Nm (P : Params) (g : Heap) (one : Addr) (x : Str) : Prop := ∃ ks vs t, Inst P g one 344 ks vs ∧ ks.Nodup ∧ Kk ks vs (Str.ofString "name") (.str x t)
abbrev mdK : List Str := [Str.ofString "kind", Str.ofString "held"]
def Th (P : Params) (g : Heap) (z : Addr) (kv : Value) (nms : List Str) (row : List Int) : Prop := ∃ d vals, Inst P g z 244 mdK [kv, .ref d] ∧ Sd P g d nms vals ∧ IntsAre vals row ∧ nms.Nodup
theorem Th.up {P : Params} {g g' : Heap} {z : Addr} {kv : Value} {nms : List Str} {row : List Int} (x : Th P g z kv nms row) (le : Le g g') : Th P g' z kv nms row := let ⟨d, v, a, b, c⟩ := x; ⟨d, v, a.up le, b.up le, c⟩
theorem Nm.up {P : Params} {g g' : Heap} {one : Addr} {x : Str} (n : Nm P g one x) (le : Le g g') : Nm P g' one x := let ⟨ks, vs, t, a, b⟩ := n; ⟨ks, vs, t, a.up le, b⟩
def badC (sd : Int) (row : List Int) (i : Nat) (v : Int) : Bool := (decide (sd < 0) && decide (row.getD (i - 1) 0 > v)) || (decide (sd > 0) && decide (v > row.getD (i + 1) 0))
theorem badC_left {sd v : Int} {row : List Int} {i : Nat} (h : sd < 0) : badC sd row i v = decide (v < row.getD (i - 1) 0) := by
  unfold badC
  rw [decide_eq_true h, decide_eq_false (show ¬ sd > 0 by omega), Bool.true_and, Bool.false_and, Bool.or_false]
theorem badC_right {sd v : Int} {row : List Int} {i : Nat} (h : 0 < sd) : badC sd row i v = decide (row.getD (i + 1) 0 < v) := by
  unfold badC
  rw [decide_eq_false (show ¬ sd < 0 by omega), decide_eq_true (show sd > 0 by omega), Bool.true_and, Bool.false_and, Bool.false_or]
theorem badC_no {sd v : Int} {row : List Int} {i : Nat} (h : ¬ sd < 0) (h' : ¬ 0 < sd) : badC sd row i v = false := by
  unfold badC
  rw [decide_eq_false h, decide_eq_false (show ¬ sd > 0 by omega), Bool.false_and, Bool.false_and, Bool.false_or]
theorem chk_ok {f tv z one : Addr} {i : Nat} {sd v : Int} {t1 t2 t3 : Tok} {nvals : List Value} {nms : List Str} {row : List Int} {kv : Value} {x : Str}
    (H0 : Hp C.w.params g V h) (Wd : Wld C g) (S0 : Stk A V) (r0 : Rm A (n + 1)) (p1 : Chk C.w.params g f (.ref tv) (.int i t1) (.int sd t2)) (p2 : Tp g tv nvals) (hn : StrsAre nvals nms) (p3 : Th C.w.params g z kv nms row) (p4 : Nm C.w.params g one x)
    (hx : nms[i]? = some x) (hlo : sd < 0 → 1 ≤ i) (hhi : sd > 0 → i + 1 < nms.length) (hz : nms.length ≤ 4)
    (q1 : badC sd row i v = false → ∀ h', Hp C.w.params g V h' → R (.ok (.ret .none)) h')
    (q2 : badC sd row i v = true → ∀ e h', Ex C.w.params (.type "ValueError") e (some .none) g V h' → R (.error (.ref e)) h') :
    CW C A (.call (.ref f) ⟨[.ref z, .ref one, .int v t3], []⟩) R h := by
  obtain ⟨c1, c2, c3, ⟨oc, od, fdO, sl, bs, name, params, body, scope, pos, e1, e2, e3, doc, pm, cdv, ctv, e4, e5⟩, s1, s2, s3⟩ := p1
  have e0 : (KF C.w.params).lookup 574 = some _ := (show List.lookup 574 (hd.heap_39 C.w.params) = some _ by k_is)
  rw [e1] at e0
  cases e0
  cases e2
  cases e3
  refine CW_fn (xs := [Str.ofString "inst", Str.ofString "one", Str.ofString "value"]) (binds := [(Str.ofString "inst", .ref z), (Str.ofString "one", .ref one), (Str.ofString "value", .int v t3)]) (vs := [some (.ref z), some (.ref one), some (.int v t3)]) (n := n) H0 Wd S0 r0
    e4 rfl e5 rfl (Looks.of_pure (by kernel_rfl)) rfl ⟨rfl, rfl⟩ ⟨⟨rfl, rfl⟩, rfl⟩ (by kernel_rfl) (by kernel_rfl) (by kernel_rfl) (by decide +kernel) (by kernel_rfl) ?_
  k_search "in"
  k_search "ss"
  obtain ⟨kks, kvs, kt, kI, knd, kk⟩ := p4
  obtain ⟨d, vals, zI, zd, hv, znd⟩ := p3
  have nl : nvals.length = nms.length := hn.1
  have hil : i < nms.length := (List.getElem?_eq_some_iff.mp hx).1
  have vl : vals.length = nms.length := zd.len (C := C)
  have rl : vals.length = row.length := hv.length
  have raise : ∀ {h : Heap} {w : Value}, Hp C.w.params g ((L, Sp.frm [Str.ofString "inst", Str.ofString "one", Str.ofString "value"] [some (Value.ref z), some (Value.ref one), some (Value.int v t3)]) :: V) h → badC sd row i v = true →
      W C A (call (Value.type "ValueError") [w]) (fun v h' => Rz C (Be C A en R) v h') (Be C A en R) h := fun H b => by
    refine W_call_exc excClass_ValueError H (by simp) fun e h' X => ?_
    refine Be_ex (Sb.sf S (.head _) fun p hp => .tail _ hp) X (.inl rfl) fun h' X => ?_
    exact q2 b e h' X.drop
  k_search "tst"
  k_search "ss"
  refine W_getI (Wd.K.keeps H.le) (cl_of (by decide)) (na_of' (by k_search "mm")) (kI.up H.le) knd kk rfl ?_
  k_search "tst"
  k_search "ss"
  k_search "nc"
  k_search "ss"
  k_search "nc"
  obtain ⟨nt, hnt⟩ := hn.2 i x hx
  refine W_sub_tupN (p2.up H.le) rfl hnt (by omega) ?_
  refine W_nes ?_
  refine W_truthy_bool ?_
  refine ⟨fun e => absurd e (by simp), fun _ => ?_⟩
  k_search "ss"
  k_search "tst"
  refine W_and ?_
  k_search "tst"
  k_search "nc"
  k_search "tst"
  k_search "ss"
  have hd0 : ∀ j : Nat, j < nms.length → ∃ y yt nt vt, nms[j]? = some y ∧ nvals[j]? = some (.str y nt) ∧ vals[j]? = some (.int (row.getD j 0) vt) := fun j hj => by
    obtain ⟨nt, e2⟩ := hn.2 j _ (List.getElem?_eq_getElem hj)
    have : vals[j]? = some vals[j] := List.getElem?_eq_getElem (by omega)
    obtain ⟨vt, e3⟩ := hv.int_at _ _ this
    exact ⟨_, 0, nt, vt, List.getElem?_eq_getElem hj, e2, by rw [this, e3]⟩
  refine ⟨fun e => ?_, fun e => ⟨fun e' => absurd e' (by simp), fun _ => ?_⟩⟩
  · have hs : sd < 0 := of_decide_eq_true e
    have h1 := hlo hs
    obtain ⟨y, _, nt2, vt, b1, b2, b3⟩ := hd0 (i - 1) (by omega)
    refine W_and ?_
    k_search "tst"
    k_search "ss"
    refine W_getI (Wd.K.keeps H.le) (cl_of (by decide)) (na_of' (by k_search "mm")) (zI.up H.le) (by decide +kernel) (by k_search "kk") rfl ?_
    k_search "ss"
    k_search "nc"
    k_search "ss"
    k_search "nc"
    k_search "ss"
    refine W_sub_tupN (j := i - 1) (p2.up H.le) (by omega) b2 (by omega) ?_
    refine W_sub_sd (zd.up H.le) znd (Kk.of_get b1 b3) ?_
    k_search "tst"
    k_search "ss"
    refine ⟨fun b => W_and_nil ⟨fun _ => ?_, fun b' => absurd b' (by simp)⟩, fun b => ⟨fun b' => absurd b' (by simp), fun _ => ?_⟩⟩
    · refine W_execs (W_Raise r.hd ?_)
      k_search "ss"
      exact raise H ((badC_left hs).trans b)
    · k_search "ss"
      k_search "tst"
      refine W_and ?_
      k_search "tst"
      k_search "nc"
      k_search "tst"
      k_search "ss"
      refine ⟨fun e => absurd (of_decide_eq_true e) (by omega), fun _ => ⟨fun e => absurd e (by simp), fun _ => ?_⟩⟩
      k_search "ss"
      exact q1 ((badC_left hs).trans b) _ H.drop
  · have hs : ¬ sd < 0 := of_decide_eq_false e
    k_search "ss"
    k_search "tst"
    refine W_and ?_
    k_search "tst"
    k_search "nc"
    k_search "tst"
    k_search "ss"
    refine ⟨fun e => ?_, fun e => ⟨fun e' => absurd e' (by simp), fun _ => ?_⟩⟩
    · have hs2 : 0 < sd := of_decide_eq_true e
      have h1 := hhi hs2
      obtain ⟨y, _, nt2, vt, b1, b2, b3⟩ := hd0 (i + 1) (by omega)
      refine W_and ?_
      k_search "tst"
      k_search "ss"
      k_search "tst"
      k_search "ss"
      refine W_getI (Wd.K.keeps H.le) (cl_of (by decide)) (na_of' (by k_search "mm")) (zI.up H.le) (by decide +kernel) (by k_search "kk") rfl ?_
      k_search "ss"
      k_search "nc"
      k_search "ss"
      k_search "nc"
      k_search "ss"
      refine W_sub_tupN (j := i + 1) (p2.up H.le) (by omega) b2 (by omega) ?_
      refine W_sub_sd (zd.up H.le) znd (Kk.of_get b1 b3) ?_
      k_search "ss"
      refine ⟨fun b => W_and_nil ⟨fun _ => ?_, fun b' => absurd b' (by simp)⟩, fun b => ⟨fun b' => absurd b' (by simp), fun _ => ?_⟩⟩
      · refine W_execs (W_Raise r.hd ?_)
        k_search "ss"
        exact raise H ((badC_right hs2).trans b)
      · k_search "ss"
        exact q1 ((badC_right hs2).trans b) _ H.drop
    · have hs2 : ¬ 0 < sd := of_decide_eq_false e
      k_search "ss"
      exact q1 (badC_no hs hs2) _ H.drop
end

end
section
set_option maxHeartbeats 4000000
section
variable {C : Cfg} {A : Around} {g h : Heap} {V : Led} {n : Nat} {R : Result → Heap → Prop}
abbrev cvK : List Str := [Str.ofString "converter", Str.ofString "takes_self", Str.ofString "takes_field"]
theorem cv_init {a dx : Addr} {f : Value} (H0 : Hp C.w.params g ((a, .obj (instObj 430 dx)) :: (dx, .sd [] []) :: V) h) (Wd : Wld C g) (S0 : Stk A V) (r0 : Rm A (n + 1))
    (q : ∀ g' h', Le g g' → Inst C.w.params g' a 430 cvK [f, .bool true, .bool true] → Hp C.w.params g' V h' → R (.ok (.ret (.ref a))) h') : CW C A (.call (.ref 420) ⟨[.ref a, f], [(Str.ofString "takes_self", .bool true), (Str.ofString "takes_field", .bool true)]⟩) (Ib a R) h := by
  refine CW_fn (xs := [Str.ofString "self", Str.ofString "converter", Str.ofString "takes_self", Str.ofString "takes_field"]) (binds := [(Str.ofString "self", .ref a), (Str.ofString "converter", f), (Str.ofString "takes_self", .bool true), (Str.ofString "takes_field", .bool true)]) (vs := [some (.ref a), some (f), some (.bool true), some (.bool true)]) (n := n) H0 Wd (S0.more.more) r0
    (Wd.K _ _ (show List.lookup 420 (hd.heap_39 C.w.params) = some _ by k_is)) rfl (codeRec_of (K := hd.heap_39 C.w.params) Wd.K (by k_is)) rfl (Looks.of_peek (K := hd.heap_39 C.w.params) Wd.K (by kernel_rfl)) rfl ⟨rfl, rfl⟩ ⟨⟨rfl, rfl⟩, rfl⟩ (by kernel_rfl) (by kernel_rfl) (by kernel_rfl) (by decide +kernel) (by kernel_rfl) ?_
  k_search "in"
  k_search "ss"
  obtain ⟨g', l, I, H⟩ := H.drop.ready
  exact q _ _ l I H
theorem cv_make {f : Value} (H0 : Hp C.w.params g V h) (Wd : Wld C g) (S0 : Stk A V) (r0 : Rm A (n + 2))
    (q : ∀ a g' h', Le g g' → Inst C.w.params g' a 430 cvK [f, .bool true, .bool true] → Hp C.w.params g' V h' → R (.ok (.ret (.ref a))) h') : CW C A (.call (.ref 430) ⟨[f], [(Str.ofString "takes_self", .bool true), (Str.ofString "takes_field", .bool true)]⟩) R h :=
  have m := mk_of (P := C.w.params) (c := 430) (f := 420) (by decide)
  CW_make H0 Wd m.1 m.2.1 m.2.2 fun a _ _ H' => cv_init H' Wd S0.under r0.under (q a)
abbrev lrQ : Pos → Str := fun p => if p.line == 488 then Str.ofString "_law_round.<locals>.plain" else Str.ofString "_law_round.<locals>.full"
def Cvt (P : Params) (g : Heap) (v : Value) (hw : Int) (m nm : Value) : Prop :=
  (hw = 0 ∧ ∃ f c, v = .ref f ∧ Nst P g f 581 0 (Str.ofString "_law_round.<locals>.plain") [(Str.ofString "m", c)] ∧ Sat P g g c (.cell (some m))) ∨
  (hw ≠ 0 ∧ ∃ a f c1 c2, v = .ref a ∧ Inst P g a 430 cvK [.ref f, .bool true, .bool true] ∧ Nst P g f 581 1 (Str.ofString "_law_round.<locals>.full") [(Str.ofString "name", c2), (Str.ofString "m", c1)] ∧ Sat P g g c1 (.cell (some m)) ∧ Sat P g g c2 (.cell (some nm)))
theorem Cvt.up {P : Params} {g g' : Heap} {v : Value} {hw : Int} {m nm : Value} (x : Cvt P g v hw m nm) (le : Le g g') : Cvt P g' v hw m nm := by
  rcases x with ⟨e, f, c, e1, e2, e3⟩ | ⟨e, a, f, c1, c2, e1, e2, e3, e4, e5⟩
  · exact .inl ⟨e, f, c, e1, e2.up le, e3.up1 le⟩
  · exact .inr ⟨e, a, f, c1, c2, e1, e2.up le, e3.up le, e4.up1 le, e5.up1 le⟩
theorem lround_ok {m nm : Value} {hw : Int} {t : Tok} (H0 : Hp C.w.params g V h) (Wd : Wld C g) (S0 : Stk A V) (r0 : Rm A (n + 3)) (mt : (576, .tab lrQ) ∈ V)
    (q : ∀ v g' h', Le g g' → Cvt C.w.params g' v hw m nm → Hp C.w.params g' V h' → R (.ok (.ret v)) h') : CW C A (.call (.ref 581) ⟨[m, .int hw t, nm], []⟩) R h := by
  refine CW_fnK (xs := [Str.ofString "how", Str.ofString "plain", Str.ofString "full"]) (cn := [Str.ofString "m", Str.ofString "name"]) (binds := [(Str.ofString "m", m), (Str.ofString "how", .int hw t), (Str.ofString "name", nm)]) (vs := [some (.int hw t), none, none]) (n := n + 2) (ccl := (fun ca => [(Str.ofString "name", ca 1), (Str.ofString "m", ca 0)])) (cled := (fun ca => [(ca 1, .cell (some (nm))), (ca 0, .cell (some (m)))])) H0 Wd (S0) r0
    (Wd.K _ _ (show List.lookup 581 (hd.heap_39 C.w.params) = some _ by k_is)) rfl (codeRec_of (K := hd.heap_39 C.w.params) Wd.K (by k_is)) rfl (Looks.of_pure (by kernel_rfl)) rfl ⟨⟨rfl, rfl⟩, rfl⟩ ⟨⟨rfl, rfl⟩, rfl⟩ (by kernel_rfl) (by decide +kernel) (by kernel_rfl) (by kernel_rfl) (by kernel_rfl) (by decide +kernel) (by kernel_rfl) (fun _ => rfl) (fun _ => by kernel_rfl) ?_
  k_search "ink"
  refine W_execs (W_Def ?_ rfl rfl rfl)
  rw [show qualnameIn en (Str.ofString "plain") (Str.ofString "plain") = Str.ofString "_law_round.<locals>.plain" from by unfold qualnameIn; rw [F.kof (k := .local) (by kernel_rfl), Fq.2.1]; kernel_rfl]
  refine W_makeFn (P := 576) (q := lrQ) (clos := [(Str.ofString "m", ca 0)]) H Wd F.glob Fq.2.2 (by decide) (by k_search "mt") (by rw [F.cells]; kernel_rfl) (fun p a b => by unfold lrQ; rw [a]; rfl) ?_
  intro f1 g1 h1 l1 fo1 H1
  refine W_storeL F H1 (.tail .head) ?_
  intro h2 H2
  k_search "fl"
  refine W_execs (W_Def ?_ rfl rfl rfl)
  rw [show qualnameIn en (Str.ofString "full") (Str.ofString "full") = Str.ofString "_law_round.<locals>.full" from by unfold qualnameIn; rw [F.kof (k := .local) (by kernel_rfl), Fq.2.1]; kernel_rfl]
  refine W_makeFn (P := 576) (q := lrQ) (clos := [(Str.ofString "name", ca 1), (Str.ofString "m", ca 0)]) H2 (Wd.up l1) F.glob Fq.2.2 (by decide) (by k_search "mt") (by rw [F.cells]; kernel_rfl) (fun p a b => by unfold lrQ; rw [a]; rfl) ?_
  intro f2 g2 h3 l2 fo2 H3
  refine W_storeL F H3 (.tail (.tail .head)) ?_
  intro h4 H4
  obtain ⟨g5, l5, s5, H5⟩ := H4.give
  obtain ⟨g6, l6, s6, H⟩ := H5.give
  have l26 : Le g2 g6 := l5.trans l6
  have l16 : Le g1 g6 := l2.trans l26
  replace Wd := Wd.up (l1.trans l16)
  have e0 : (KF C.w.params).lookup 581 = some _ := (show List.lookup 581 (hd.heap_39 C.w.params) = some _ by k_is)
  k_search "ss"
  k_search "tst"
  k_search "ss"
  refine W_truthy_int ?_
  refine ⟨fun b => ?_, fun b => ?_⟩
  · k_search "ss"
    refine W_call (cv_make H Wd (by k_search "stk") r ?_)
    intro a g' h' le I H
    k_search "ss"
    exact q _ _ _ ((l1.trans l16).trans le) (.inr ⟨by simpa using b, a, f2, ca 0, ca 1, rfl, I, ⟨_, _, _, _, _, _, _, _, _, _, e0, rfl, rfl, fo2.up (l26.trans le)⟩, s6.up1 le, (s5.up1 l6).up1 le⟩) H.drop
  · k_search "ss"
    exact q _ _ _ (l1.trans l16) (.inl ⟨by simpa using b, f1, ca 0, rfl, ⟨_, _, _, _, _, _, _, _, _, _, e0, rfl, rfl, fo1.up l16⟩, s6⟩) H.drop
end

end
section
set_option maxHeartbeats 4000000
section
variable {C : Cfg} {A : Around} {g h : Heap} {V : Led} {n : Nat} {R : Result → Heap → Prop}
def rd (m v : Int) : Int := v - v.fmod m
theorem plain_ok {f c : Addr} {m v : Int} {t1 t2 : Tok} (H0 : Hp C.w.params g V h) (Wd : Wld C g) (S0 : Stk A V) (r0 : Rm A (n + 1)) (p1 : Nst C.w.params g f 581 0 (Str.ofString "_law_round.<locals>.plain") [(Str.ofString "m", c)]) (p2 : Sat C.w.params g g c (.cell (some (.int m t1)))) (hm : m ≠ 0)
    (q : ∀ t h', Hp C.w.params g V h' → R (.ok (.ret (.int (rd m v) t))) h') : CW C A (.call (.ref f) ⟨[.int v t2], []⟩) R h := by
  obtain ⟨oc, od, fdO, sl, bs, name, params, body, scope, pos, e1, e2, e3, doc, pm, cdv, ctv, e4, e5⟩ := p1
  have e0 : (KF C.w.params).lookup 581 = some _ := (show List.lookup 581 (hd.heap_39 C.w.params) = some _ by k_is)
  rw [e1] at e0
  cases e0; cases e2; cases e3
  clear e1
  refine CW_fn (xs := [Str.ofString "value"]) (binds := [(Str.ofString "value", .int v t2)]) (vs := [some (.int v t2)]) (n := n) H0 Wd S0 r0
    e4 rfl e5 rfl (Looks.of_pure (by kernel_rfl)) rfl ⟨rfl, rfl⟩ ⟨⟨rfl, rfl⟩, rfl⟩ (by kernel_rfl) (by kernel_rfl) (by kernel_rfl) (by decide +kernel) (by kernel_rfl) ?_
  k_search "in"
  clear e4 e5
  k_search "ss"
  k_search "nc"
  refine W_mod hm ?_; intro
  k_search "ss"
  exact q _ _ H.drop
def Kn (P : Params) (g : Heap) (k : Addr) (x : Str) : Prop := ∃ ks vs t, Inst P g k 173 ks vs ∧ ks.Nodup ∧ Kk ks vs (Str.ofString "name") (.str x t)
theorem Kn.up {P : Params} {g g' : Heap} {one : Addr} {x : Str} (n : Kn P g one x) (le : Le g g') : Kn P g' one x := let ⟨ks, vs, t, a, b⟩ := n; ⟨ks, vs, t, a.up le, b⟩
theorem full_ok {f c1 c2 z one k : Addr} {m v : Int} {x : Str} {t1 t2 t3 : Tok} {hv : Value} (H0 : Hp C.w.params g V h) (Wd : Wld C g) (S0 : Stk A V) (r0 : Rm A (n + 1)) (p1 : Nst C.w.params g f 581 1 (Str.ofString "_law_round.<locals>.full") [(Str.ofString "name", c2), (Str.ofString "m", c1)]) (p2 : Sat C.w.params g g c1 (.cell (some (.int m t1)))) (p3 : Sat C.w.params g g c2 (.cell (some (.str x t3))))
    (p4 : Inst C.w.params g z 244 mdK [.ref k, hv]) (p5 : Kn C.w.params g k (Str.ofString "Row")) (p6 : Nm C.w.params g one x) (hm : m ≠ 0)
    (q : ∀ t h', Hp C.w.params g V h' → R (.ok (.ret (.int (rd m v) t))) h') : CW C A (.call (.ref f) ⟨[.int v t2, .ref z, .ref one], []⟩) R h := by
  obtain ⟨oc, od, fdO, sl, bs, name, params, body, scope, pos, e1, e2, e3, doc, pm, cdv, ctv, e4, e5⟩ := p1
  have e0 : (KF C.w.params).lookup 581 = some _ := (show List.lookup 581 (hd.heap_39 C.w.params) = some _ by k_is)
  rw [e1] at e0
  cases e0; cases e2; cases e3
  clear e1
  refine CW_fn (xs := [Str.ofString "value", Str.ofString "inst", Str.ofString "one"]) (binds := [(Str.ofString "value", .int v t2), (Str.ofString "inst", .ref z), (Str.ofString "one", .ref one)]) (vs := [some (.int v t2), some (.ref z), some (.ref one)]) (n := n) H0 Wd S0 r0
    e4 rfl e5 rfl (Looks.of_pure (by kernel_rfl)) rfl ⟨rfl, rfl⟩ ⟨⟨rfl, rfl⟩, rfl⟩ (by kernel_rfl) (by kernel_rfl) (by kernel_rfl) (by decide +kernel) (by kernel_rfl) ?_
  k_search "in"
  clear e4 e5
  obtain ⟨kks, kvs, kt, kI, knd, kk⟩ := p6
  obtain ⟨nks, nvs, nt, nI, nnd, nk⟩ := p5
  k_search "ss"
  k_search "tst"
  refine W_or ?_
  k_search "tst"
  k_search "ss"
  refine W_getI (Wd.K.keeps H.le) (cl_of (by decide)) (na_of' (by k_search "mm")) (kI.up H.le) knd kk rfl ?_
  k_search "tst"
  k_search "nc"
  refine W_nes ?_
  refine W_truthy_bool ?_
  refine ⟨fun e => absurd e (by simp), fun _ => ?_⟩
  refine W_or ?_
  k_search "tst"
  k_search "ss"
  refine W_getI (Wd.K.keeps H.le) (cl_of (by decide)) (na_of' (by k_search "mm")) (p4.up H.le) (by decide +kernel) (by k_search "kk") rfl ?_
  refine W_getI (Wd.K.keeps H.le) (cl_of (by decide)) (na_of' (by k_search "mm")) (nI.up H.le) nnd nk rfl ?_
  k_search "tst"
  k_search "ss"
  refine ⟨fun e => absurd e (by simp), fun _ => W_or_nil ⟨fun e => absurd e (by simp), fun _ => ?_⟩⟩
  k_search "ss"
  k_search "nc"
  refine W_mod hm ?_; intro
  k_search "ss"
  exact q _ _ H.drop
theorem cvcall_ok {a f c1 c2 z one k : Addr} {m v : Int} {x : Str} {t1 t2 t3 : Tok} {hv : Value} (H0 : Hp C.w.params g V h) (Wd : Wld C g) (S0 : Stk A V) (r0 : Rm A (n + 2)) (p0 : Inst C.w.params g a 430 cvK [.ref f, .bool true, .bool true]) (p1 : Nst C.w.params g f 581 1 (Str.ofString "_law_round.<locals>.full") [(Str.ofString "name", c2), (Str.ofString "m", c1)]) (p2 : Sat C.w.params g g c1 (.cell (some (.int m t1)))) (p3 : Sat C.w.params g g c2 (.cell (some (.str x t3))))
    (p4 : Inst C.w.params g z 244 mdK [.ref k, hv]) (p5 : Kn C.w.params g k (Str.ofString "Row")) (p6 : Nm C.w.params g one x) (hm : m ≠ 0)
    (q : ∀ t h', Hp C.w.params g V h' → R (.ok (.ret (.int (rd m v) t))) h') : CW C A (.call (.ref a) ⟨[.int v t2, .ref z, .ref one], []⟩) R h := by
  refine CW_instT (Wd.K.keeps H0.le) (p0.up H0.le) (c := 430) (fC := 427) (by decide) ?_
  refine CW_fn (xs := [Str.ofString "self", Str.ofString "value", Str.ofString "instance", Str.ofString "field"]) (binds := [(Str.ofString "self", .ref a), (Str.ofString "value", .int v t2), (Str.ofString "instance", .ref z), (Str.ofString "field", .ref one)]) (vs := [some (.ref a), some (.int v t2), some (.ref z), some (.ref one)]) (n := n + 1) H0 Wd (S0) r0
    (Wd.K _ _ (show List.lookup 427 (hd.heap_39 C.w.params) = some _ by k_is)) rfl (codeRec_of (K := hd.heap_39 C.w.params) Wd.K (by k_is)) rfl (Looks.of_pure (by kernel_rfl)) rfl ⟨rfl, rfl⟩ ⟨⟨rfl, rfl⟩, rfl⟩ (by kernel_rfl) (by kernel_rfl) (by kernel_rfl) (by decide +kernel) (by kernel_rfl) ?_
  k_search "in"
  k_search "ss"
  k_search "tst"
  k_search "tst"
  refine W_or ?_
  k_search "tst"
  k_search "ss"
  refine W_getI (Wd.K.keeps H.le) (cl_of (by decide)) (na_of' (by k_search "mm")) (p0.up H.le) (by decide +kernel) (by k_search "kk") rfl ?_
  k_search "ss"
  refine ⟨fun _ => ⟨fun e => absurd e (by simp), fun _ => ?_⟩, fun e => absurd e (by simp)⟩
  k_search "ss"
  k_search "tst"
  refine W_and ?_
  k_search "tst"
  k_search "ss"
  refine W_getI (Wd.K.keeps H.le) (cl_of (by decide)) (na_of' (by k_search "mm")) (p0.up H.le) (by decide +kernel) (by k_search "kk") rfl ?_
  k_search "ss"
  refine ⟨fun _ => W_and ?_, fun e => absurd e (by simp)⟩
  k_search "tst"
  k_search "tst"
  k_search "ss"
  refine W_getI (Wd.K.keeps H.le) (cl_of (by decide)) (na_of' (by k_search "mm")) (p0.up H.le) (by decide +kernel) (by k_search "kk") rfl ?_
  k_search "ss"
  refine ⟨fun e => absurd e (by simp), fun _ => ⟨fun e => absurd e (by simp), fun _ => ?_⟩⟩
  k_search "ss"
  k_search "tst"
  refine W_and ?_
  k_search "tst"
  k_search "tst"
  k_search "ss"
  refine W_getI (Wd.K.keeps H.le) (cl_of (by decide)) (na_of' (by k_search "mm")) (p0.up H.le) (by decide +kernel) (by k_search "kk") rfl ?_
  k_search "ss"
  refine ⟨fun e => absurd e (by simp), fun _ => ⟨fun e => absurd e (by simp), fun _ => ?_⟩⟩
  k_search "ss"
  refine W_CallM (fun _ => rfl) rfl ?_
  k_search "ss"
  refine W_callee rfl ?_
  refine W_methA (Wd.K.keeps H.le) (cl_of (by decide)) (p0.up H.le) (na_of' (by k_search "mm")) (by decide +kernel) (by k_search "kk") rfl ?_
  k_search "ss"
  refine ⟨?_, ?_⟩
  · obtain ⟨_, _, _, _, _, _, _, _, _, _, _, _, _, fo⟩ := p1
    exact fo.kpr H.le
  dsimp only [List.nil_append, List.cons_append, List.zip, List.zipWith, namesOf, Option.toList]
  refine W_call (full_ok H Wd (by k_search "stk") r p1 p2 p3 p4 p5 p6 hm ?_)
  intro t h' H
  k_search "ss"
  exact q _ _ H.drop
end

end
section
set_option maxHeartbeats 4000000
section
variable {C : Cfg} {A : Around} {g h : Heap} {V : Led} {n : Nat} {R : Result → Heap → Prop}
def Nv (P : Params) (g : Heap) (a : Addr) (up : Bool) (b : Int) : Prop := ∃ t o t2, Inst P g a 540 nvK [.int b t, .str o t2, .builtin (if up then "_operator.le" else "_operator.ge")] ∧ o.length ≤ 10
theorem Nv.up {P : Params} {g g' : Heap} {a : Addr} {u : Bool} {b : Int} (x : Nv P g a u b) (le : Le g g') : Nv P g' a u b := let ⟨t, o, t2, i, e⟩ := x; ⟨t, o, t2, i.up le, e⟩
def badN (up : Bool) (b v : Int) : Bool := if up then !decide (v ≤ b) else !decide (b ≤ v)
theorem W_op {up : Bool} {b v : Int} {t u : Tok} {E : Value → Heap → Prop} {Q : Value → Heap → Prop} (q : Q (.bool (!badN up b v)) h) : W C A (call (.builtin (if up then "_operator.le" else "_operator.ge")) [.int v t, .int b u]) Q E h := by
  cases up
  · exact W_op_ge (by simpa [badN] using q)
  · exact W_op_le (by simpa [badN] using q)
theorem nvcall_ok {a z one : Addr} {up : Bool} {b v : Int} {t3 : Tok} {x : Str} (H0 : Hp C.w.params g V h) (Wd : Wld C g) (S0 : Stk A V) (r0 : Rm A (n + 1)) (p1 : Nv C.w.params g a up b) (p2 : Nm C.w.params g one x) (hx : x.length ≤ 10) (hb : b.natAbs < 1000) (hv : v.natAbs < 1000)
    (q1 : badN up b v = false → ∀ h', Hp C.w.params g V h' → R (.ok (.ret .none)) h')
    (q2 : badN up b v = true → ∀ e h', Ex C.w.params (.type "ValueError") e (some .none) g V h' → R (.error (.ref e)) h') :
    CW C A (.call (.ref a) ⟨[.ref z, .ref one, .int v t3], []⟩) R h := by
  obtain ⟨t, o, t2, I, ho⟩ := p1
  refine CW_instT (Wd.K.keeps H0.le) (I.up H0.le) (c := 540) (fC := 537) (by decide) ?_
  refine CW_fn (xs := [Str.ofString "self", Str.ofString "inst", Str.ofString "attr", Str.ofString "value", Str.ofString "msg"]) (binds := [(Str.ofString "self", .ref a), (Str.ofString "inst", .ref z), (Str.ofString "attr", .ref one), (Str.ofString "value", .int v t3)]) (vs := [some (.ref a), some (.ref z), some (.ref one), some (.int v t3), none]) (n := n) H0 Wd (S0) r0
    (Wd.K _ _ (show List.lookup 537 (hd.heap_39 C.w.params) = some _ by k_is)) rfl (codeRec_of (K := hd.heap_39 C.w.params) Wd.K (by k_is)) rfl (Looks.of_pure (by kernel_rfl)) rfl ⟨rfl, rfl⟩ ⟨⟨rfl, rfl⟩, rfl⟩ (by kernel_rfl) (by kernel_rfl) (by kernel_rfl) (by decide +kernel) (by kernel_rfl) ?_
  k_search "in"
  k_search "ss"
  k_search "tst"
  k_search "tst"
  refine W_CallM (fun _ => rfl) rfl ?_
  k_search "ss"
  refine W_callee rfl ?_
  refine W_methA (Wd.K.keeps H.le) (cl_of (by decide)) (I.up H.le) (na_of' (by k_search "mm")) (by decide +kernel) (by k_search "kk") (by cases up <;> rfl) ?_
  k_search "ss"
  k_search "at1"
  k_search "ss"
  refine W_op ?_
  k_search "ss"
  refine ⟨fun e => ?_, fun e => ?_⟩
  · have e : badN up b v = true := by simpa using e
    obtain ⟨kks, kvs, kt, kI, knd, kk⟩ := p2
    k_search "ss"
    k_search "joi"
    k_search "joi"
    k_search "ss"
    refine ⟨_, _, 1, rfl, by decide +kernel, by decide +kernel, fun o1 z1 => ?_⟩
    replace z1 : o1.length ≤ 1 := z1
    k_search "joi"
    k_search "joi"
    k_search "ss"
    k_search "at1"
    refine W_fmt_str (by omega) ?_; intro
    refine ⟨_, _, 10, rfl, hx, by decide, fun o2 z2 => ?_⟩
    k_search "joi"
    k_search "ss"
    refine ⟨_, _, 10, rfl, by decide +kernel, by decide, fun o3 z3 => ?_⟩
    k_search "joi"
    k_search "joi"
    k_search "ss"
    k_search "at1"
    refine W_fmt_str (by omega) ?_; intro
    refine ⟨_, _, 10, rfl, ho, by decide, fun o4 z4 => ?_⟩
    k_search "joi"
    k_search "ss"
    refine ⟨_, _, 1, rfl, by decide +kernel, by decide, fun o5 z5 => ?_⟩
    k_search "joi"
    k_search "joi"
    k_search "ss"
    k_search "at1"
    refine W_fmt_int hb ?_; intro s1 _ w1
    refine ⟨_, _, 10, rfl, w1, by decide, fun o6 z6 => ?_⟩
    k_search "joi"
    k_search "ss"
    refine ⟨_, _, 2, rfl, by decide +kernel, by decide, fun o7 z7 => ?_⟩
    k_search "joi"
    k_search "joi"
    k_search "ss"
    refine W_fmt_int hv ?_; intro s2 _ w2
    refine ⟨_, _, 10, rfl, w2, by decide, fun o8 z8 => ?_⟩
    refine W_join_nil (by omega) ?_; intro
    k_search "ss"
    refine W_Raise r.hd ?_
    k_search "ss"
    refine W_call_exc excClass_ValueError H (by simp) fun ea h' X => ?_
    refine Be_ex (Sb.sf S (.head _) fun p hp => .tail _ hp) X (.inl rfl) fun h' X => ?_
    exact q2 e ea h' X.drop
  · have e : badN up b v = false := by simpa using e
    k_search "ss"
    exact q1 e _ H.drop
inductive VS where
  | chk (sd : Int)
  | num (up : Bool) (b : Int)
def Vd (P : Params) (g : Heap) (tv : Addr) (i : Nat) (v : Value) : VS → Prop
  | .chk sd => ∃ f t1 t2, v = .ref f ∧ Chk P g f (.ref tv) (.int i t1) (.int sd t2)
  | .num up b => ∃ a, v = .ref a ∧ Nv P g a up b
theorem Vd.up {P : Params} {g g' : Heap} {tv : Addr} {i : Nat} {v : Value} {s : VS} (x : Vd P g tv i v s) (le : Le g g') : Vd P g' tv i v s := by
  cases s with
  | chk sd => obtain ⟨f, t1, t2, e, c1, c2, c3, n, s1, s2, s3⟩ := x; exact ⟨f, t1, t2, e, c1, c2, c3, n.up le, s1.up1 le, s2.up1 le, s3.up1 le⟩
  | num u b => obtain ⟨a, e, n⟩ := x; exact ⟨a, e, n.up le⟩
def badV (row : List Int) (i : Nat) (v : Int) : VS → Bool
  | .chk sd => badC sd row i v
  | .num up b => badN up b v
def okV (i n : Nat) : VS → Prop
  | .chk sd => (sd < 0 → 1 ≤ i) ∧ (sd > 0 → i + 1 < n)
  | .num _ b => b.natAbs < 1000
theorem vd_ok {tv z one : Addr} {i : Nat} {v : Int} {t3 : Tok} {vv : Value} {sp : VS} {nvals : List Value} {nms : List Str} {row : List Int} {kv : Value} {x : Str}
    (H0 : Hp C.w.params g V h) (Wd : Wld C g) (S0 : Stk A V) (r0 : Rm A (n + 1)) (p1 : Vd C.w.params g tv i vv sp) (ok : okV i nms.length sp) (p2 : Tp g tv nvals) (hn : StrsAre nvals nms) (p3 : Th C.w.params g z kv nms row) (p4 : Nm C.w.params g one x)
    (hx : nms[i]? = some x) (hz : nms.length ≤ 4) (hl : x.length ≤ 10) (hv : v.natAbs < 1000)
    (q1 : badV row i v sp = false → ∀ h', Hp C.w.params g V h' → R (.ok (.ret .none)) h')
    (q2 : badV row i v sp = true → ∀ e h', Ex C.w.params (.type "ValueError") e (some .none) g V h' → R (.error (.ref e)) h') :
    CW C A (.call vv ⟨[.ref z, .ref one, .int v t3], []⟩) R h := by
  cases sp with
  | chk sd => obtain ⟨f, t1, t2, rfl, c⟩ := p1; exact chk_ok H0 Wd S0 r0 c p2 hn p3 p4 hx ok.1 ok.2 hz q1 q2
  | num u b => obtain ⟨a, rfl, c⟩ := p1; exact nvcall_ok H0 Wd S0 r0 c p4 hl ok hv q1 q2
theorem Vd.kpr {tv : Addr} {i : Nat} {v : Value} {s : VS} (x : Vd C.w.params g tv i v s) (le : Le g h) : Kpr C v h := by
  cases s with
  | chk sd => obtain ⟨f, t1, t2, rfl, c1, c2, c3, ⟨_, _, _, _, _, _, _, _, _, _, _, _, _, fo⟩, _⟩ := x; exact fo.kpr le
  | num u b => obtain ⟨a, rfl, t, o, t2, ⟨dx, e, _⟩, _⟩ := x; exact Kpr.inst (le _ _ e) rfl
def Av (P : Params) (g : Heap) (a tv : Addr) (i : Nat) (sps : List VS) : Prop := ∃ tp vals, Inst P g a 465 avK [.ref tp] ∧ Tp g tp vals ∧ vals.length = sps.length ∧ ∀ (j : Nat) (v : Value) (s : VS), vals[j]? = some v → sps[j]? = some s → Vd P g tv i v s
theorem Av.up {P : Params} {g g' : Heap} {a tv : Addr} {i : Nat} {sps : List VS} (x : Av P g a tv i sps) (le : Le g g') : Av P g' a tv i sps := let ⟨tp, vals, a1, a2, a3, a4⟩ := x; ⟨tp, vals, a1.up le, a2.up le, a3, fun j v s e1 e2 => (a4 j v s e1 e2).up le⟩
theorem Ex.left {cls : Value} {e : Addr} {st : Option Value} {S : Led} (X : Ex C.w.params cls e st g (V ++ S) h) : Ex C.w.params cls e st g V h := by
  obtain ⟨H, eg, eV, oe, vs, a0, he, hc, hd, h0, r⟩ := X
  rw [List.map_append] at eV
  refine ⟨H.left, eg, fun m => eV (List.mem_append_left _ m), oe, vs, a0, he, hc, hd, h0, ?_⟩
  cases st with
  | none => exact r
  | some fl =>
    obtain ⟨T, oT, ts, h1, Tg, TV, r⟩ := r
    rw [List.map_append] at TV
    exact ⟨T, oT, ts, h1, Tg, fun m => TV (List.mem_append_left _ m), r⟩
theorem avcall_ok {a tv z one : Addr} {i : Nat} {v : Int} {t3 : Tok} {sps : List VS} {nvals : List Value} {nms : List Str} {row : List Int} {kv : Value} {x : Str}
    (H0 : Hp C.w.params g V h) (Wd : Wld C g) (S0 : Stk A V) (r0 : Rm A (n + 2)) (p1 : Av C.w.params g a tv i sps) (ok : ∀ s ∈ sps, okV i nms.length s) (p2 : Tp g tv nvals) (hn : StrsAre nvals nms) (p3 : Th C.w.params g z kv nms row) (p4 : Nm C.w.params g one x)
    (hx : nms[i]? = some x) (hz : nms.length ≤ 4) (hl : x.length ≤ 10) (hv : v.natAbs < 1000)
    (q1 : sps.any (badV row i v) = false → ∀ g' h', Le g g' → Hp C.w.params g' V h' → R (.ok (.ret .none)) h')
    (q2 : sps.any (badV row i v) = true → ∀ e g' h', Le g g' → Ex C.w.params (.type "ValueError") e (some .none) g' V h' → R (.error (.ref e)) h') :
    CW C A (.call (.ref a) ⟨[.ref z, .ref one, .int v t3], []⟩) R h := by
  obtain ⟨tp, vals, I, T, vl, vd⟩ := p1
  refine CW_instT (Wd.K.keeps H0.le) (I.up H0.le) (c := 465) (fC := 462) (by decide) ?_
  refine CW_fn (xs := [Str.ofString "self", Str.ofString "inst", Str.ofString "attr", Str.ofString "value", Str.ofString "v"]) (binds := [(Str.ofString "self", .ref a), (Str.ofString "inst", .ref z), (Str.ofString "attr", .ref one), (Str.ofString "value", .int v t3)]) (vs := [some (.ref a), some (.ref z), some (.ref one), some (.int v t3), none]) (n := n + 1) H0 Wd (S0) r0
    (Wd.K _ _ (show List.lookup 462 (hd.heap_39 C.w.params) = some _ by k_is)) rfl (codeRec_of (K := hd.heap_39 C.w.params) Wd.K (by k_is)) rfl (Looks.of_pure (by kernel_rfl)) rfl ⟨rfl, rfl⟩ ⟨⟨rfl, rfl⟩, rfl⟩ (by kernel_rfl) (by kernel_rfl) (by kernel_rfl) (by decide +kernel) (by kernel_rfl) ?_
  k_search "in"
  refine W_execs (W_For ?_ (fun _ => rfl))
  k_search "ss"
  k_search "at1"
  refine W_iter_tup r.hd T H ?_
  intro it h' IT H
  refine CW_for (R := fun _ _ => True) (IT _ _) (fun i' g' V' => Le g g' ∧ (∃ vv, V' = (L, Sp.frm [Str.ofString "self", Str.ofString "inst", Str.ofString "attr", Str.ofString "value", Str.ofString "v"] [some (.ref a), some (.ref z), some (.ref one), some (.int v t3), vv]) :: V) ∧ (sps.take i').any (badV row i v) = false) ?_ H (Le.refl g) ⟨Le.refl g, ⟨_, rfl⟩, by simp⟩ ?_ ?_
  · exact fun _ _ _ _ l ⟨l1, b, c⟩ => ⟨l1.trans l, b, c⟩
  · rintro j g1 V1 h1 v1 le1 hj ⟨le, ⟨vv, rfl⟩, ht⟩ hy H
    dsimp only [List.cons_append] at H
    have hs : sps[j]? = some sps[j] := List.getElem?_eq_getElem (by omega)
    have p5 := vd j v1 _ hy hs
    k_search "lift"
    have tk : (sps.take (j + 1)).any (badV row i v) = badV row i v sps[j] := by
      rw [List.take_add_one, List.any_append, ht, hs]; simp
    k_search "ss"
    k_search "expr2"
    k_search "ss"
    refine ⟨p5.kpr H.le, ?_⟩
    dsimp only [List.nil_append, List.cons_append, List.zip, List.zipWith, namesOf, Option.toList]
    refine W_call (vd_ok H Wd (by k_search "stk") r p5 (ok _ (List.getElem_mem _)) p2 hn p3 p4 hx hz hl hv ?_ ?_)
    · intro b h2 H
      k_search "ss"
      exact ⟨g1, _, Le.refl g1, ⟨le, ⟨_, rfl⟩, tk.trans b⟩, H⟩
    · intro b e h2 X
      k_search "ss"
      refine Nf_ex (Sb.sf S (.head _) fun p hp => .tail _ (List.mem_append_left _ hp)) X (.inr (.inl rfl)) fun h' X => ?_
      refine Be_ex (Sb.sf S (.head _) fun p hp => .tail _ (List.mem_append_left _ hp)) X (.inr (.inr rfl)) fun h' X => ?_
      refine q2 ?_ e g1 _ le (Ex.left X.drop)
      rw [List.any_eq_true]
      exact ⟨_, List.getElem_mem _, b⟩
  · rintro g1 V1 h1 le1 ⟨le, ⟨vv, rfl⟩, ht⟩ H
    k_search "ss"
    refine q1 ?_ g1 _ le H.drop
    rwa [vl, List.take_length] at ht
end

end
section
set_option maxHeartbeats 4000000
section
variable {C : Cfg} {A : Around} {g h : Heap} {V : Led} {n : Nat} {R : Result → Heap → Prop}
abbrev caK : List Str := [Str.ofString "_default", Str.ofString "_validator", Str.ofString "converter", Str.ofString "eq", Str.ofString "eq_key", Str.ofString "order", Str.ofString "order_key", Str.ofString "init", Str.ofString "kw_only", Str.ofString "on_setattr", Str.ofString "alias"]
abbrev caA (d v i c k e ek o ok s al : Value) : List (Str × Value) := [(Str.ofString "default", d), (Str.ofString "validator", v), (Str.ofString "init", i), (Str.ofString "converter", c), (Str.ofString "kw_only", k), (Str.ofString "eq", e), (Str.ofString "eq_key", ek), (Str.ofString "order", o), (Str.ofString "order_key", ok), (Str.ofString "on_setattr", s), (Str.ofString "alias", al)]
theorem ca_init {a dx : Addr} {d v i c k e ek o ok s al : Value} (H0 : Hp C.w.params g ((a, .obj (instObj 379 dx)) :: (dx, .sd [] []) :: V) h) (Wd : Wld C g) (S0 : Stk A V) (r0 : Rm A (n + 1))
    (q : ∀ g' h', Le g g' → Inst C.w.params g' a 379 caK [d, v, c, e, ek, o, ok, i, k, s, al] → Hp C.w.params g' V h' → R (.ok (.ret (.ref a))) h') : CW C A (.call (.ref 362) ⟨[.ref a], caA d v i c k e ek o ok s al⟩) (Ib a R) h := by
  refine CW_fn (xs := [Str.ofString "self", Str.ofString "default", Str.ofString "validator", Str.ofString "init", Str.ofString "converter", Str.ofString "kw_only", Str.ofString "eq", Str.ofString "eq_key", Str.ofString "order", Str.ofString "order_key", Str.ofString "on_setattr", Str.ofString "alias"]) (binds := [(Str.ofString "self", .ref a), (Str.ofString "default", d), (Str.ofString "validator", v), (Str.ofString "init", i), (Str.ofString "converter", c), (Str.ofString "kw_only", k), (Str.ofString "eq", e), (Str.ofString "eq_key", ek), (Str.ofString "order", o), (Str.ofString "order_key", ok), (Str.ofString "on_setattr", s), (Str.ofString "alias", al)]) (vs := [some (.ref a), some (d), some (v), some (i), some (c), some (k), some (e), some (ek), some (o), some (ok), some (s), some (al)]) (n := n) H0 Wd (S0.more.more) r0
    (Wd.K _ _ (show List.lookup 362 (hd.heap_39 C.w.params) = some _ by k_is)) rfl (codeRec_of (K := hd.heap_39 C.w.params) Wd.K (by k_is)) rfl (Looks.of_pure (by kernel_rfl)) rfl ⟨rfl, rfl⟩ ⟨⟨rfl, rfl⟩, rfl⟩ (by kernel_rfl) (by kernel_rfl) (by kernel_rfl) (by decide +kernel) (by kernel_rfl) ?_
  k_search "in"
  k_search "ss"
  obtain ⟨g', l, I, H⟩ := H.drop.ready
  exact q _ _ l I H
theorem ca_make {d v i c k e ek o ok s al : Value} (H0 : Hp C.w.params g V h) (Wd : Wld C g) (S0 : Stk A V) (r0 : Rm A (n + 2))
    (q : ∀ a g' h', Le g g' → Inst C.w.params g' a 379 caK [d, v, c, e, ek, o, ok, i, k, s, al] → Hp C.w.params g' V h' → R (.ok (.ret (.ref a))) h') : CW C A (.call (.ref 379) ⟨[], caA d v i c k e ek o ok s al⟩) R h :=
  have m := mk_of (P := C.w.params) (c := 379) (f := 362) (by decide)
  CW_make H0 Wd m.1 m.2.1 m.2.2 fun a _ _ H' => ca_init H' Wd S0.under r0.under (q a)
abbrev deQ : Pos → Str := fun _ => Str.ofString "_determine_attrib_eq_order.<locals>.decide_callable_or_boolean"
theorem det_none (H0 : Hp C.w.params g V h) (Wd : Wld C g) (S0 : Stk A V) (r0 : Rm A (n + 2)) (mt : (276, .tab deQ) ∈ V)
    (q : ∀ a g' h', Le g g' → Tp g' a [.bool true, .none, .bool true, .none] → Hp C.w.params g' V h' → R (.ok (.ret (.ref a))) h') : CW C A (.call (.ref 281) ⟨[.none, .none, .none, .bool true], []⟩) R h := by
  refine CW_fn (xs := [Str.ofString "cmp", Str.ofString "eq", Str.ofString "order", Str.ofString "default_eq", Str.ofString "decide_callable_or_boolean", Str.ofString "cmp_key", Str.ofString "eq_key", Str.ofString "order_key", Str.ofString "msg"]) (binds := [(Str.ofString "cmp", .none), (Str.ofString "eq", .none), (Str.ofString "order", .none), (Str.ofString "default_eq", .bool true)]) (vs := [some (.none), some (.none), some (.none), some (.bool true), none, none, none, none, none]) (n := n + 1) H0 Wd (S0) r0
    (Wd.K _ _ (show List.lookup 281 (hd.heap_39 C.w.params) = some _ by k_is)) rfl (codeRec_of (K := hd.heap_39 C.w.params) Wd.K (by k_is)) rfl (Looks.of_pure (by kernel_rfl)) rfl ⟨rfl, rfl⟩ ⟨⟨rfl, rfl⟩, rfl⟩ (by kernel_rfl) (by kernel_rfl) (by kernel_rfl) (by decide +kernel) (by kernel_rfl) ?_
  k_search "in"
  k_search "ss"
  k_search "tst"
  refine W_and ?_
  k_search "tst"
  k_search "ss"
  k_search "tst"
  k_search "ss"
  k_search "isn"
  k_search "ss"
  refine ⟨fun e => absurd e (by decide), fun _ => ⟨fun e => absurd e (by decide), fun _ => ?_⟩⟩
  k_search "ss"
  refine W_Def ?_ rfl rfl rfl
  rw [show qualnameIn en (Str.ofString "decide_callable_or_boolean") (Str.ofString "decide_callable_or_boolean") = Str.ofString "_determine_attrib_eq_order.<locals>.decide_callable_or_boolean" from by unfold qualnameIn; rw [F.kof (k := .local) (by kernel_rfl), Fq.2.1]; kernel_rfl]
  refine W_makeFn (P := 276) (q := deQ) (clos := []) H Wd F.glob Fq.2.2 (by decide) (by k_search "mt") (by rw [F.cells]; kernel_rfl) (fun p a b => rfl) ?_
  intro f1 g1 h1 le0 fo1 H1
  refine W_storeL F H1 (by k_search "st") ?_
  intro h2 H
  replace Wd := Wd.up le0
  k_search "ss"
  k_search "tst"
  k_search "ss"
  k_search "tst"
  k_search "ss"
  k_search "isn"
  k_search "ss"
  refine ⟨fun e => absurd e (by decide), fun _ => ?_⟩
  k_search "ss"
  k_search "tst"
  k_search "ss"
  k_search "tst"
  k_search "ss"
  k_search "isn"
  k_search "ss"
  refine ⟨fun _ => ?_, fun e => absurd e (by decide)⟩
  k_search "ss"
  refine W_AssignSw2 (nms := [Str.ofString "eq", Str.ofString "eq_key"]) F (fun _ _ _ _ _ _ _ _ _ _ _ => by kernel_rfl) rfl ?_
  k_search "disp"
  k_search "ss"
  refine W_newTuple H (by simp) ?_
  intro tp g2 h2 le T H
  k_search "lift"
  refine W_unpackTup r.hd H T (by decide) ?_
  intro h2 H
  dsimp only [List.reverse, List.reverseAux, List.map]
  k_search "disp"
  k_search "ss"
  k_search "disp"
  k_search "ss"
  k_search "disp"
  k_search "ss"
  k_search "tst"
  k_search "ss"
  k_search "tst"
  k_search "ss"
  k_search "isn"
  k_search "ss"
  refine ⟨fun _ => ?_, fun e => absurd e (by decide)⟩
  k_search "ss"
  refine W_AssignSw2 (nms := [Str.ofString "order", Str.ofString "order_key"]) F (fun _ _ _ _ _ _ _ _ _ _ _ => by kernel_rfl) rfl ?_
  k_search "disp"
  k_search "ss"
  refine W_newTuple H (by simp) ?_
  intro tp2 g3 h2 le3 T2 H
  replace Wd := Wd.up le3
  refine W_unpackTup r.hd H T2 (by decide) ?_
  intro h2 H
  dsimp only [List.reverse, List.reverseAux, List.map]
  k_search "disp"
  k_search "ss"
  k_search "disp"
  k_search "ss"
  k_search "disp"
  k_search "ss"
  k_search "tst"
  refine W_and ?_
  k_search "tst"
  k_search "ss"
  k_search "tst"
  k_search "ss"
  k_search "isn"
  k_search "ss"
  refine ⟨fun e => absurd e (by decide), fun _ => ⟨fun e => absurd e (by decide), fun _ => ?_⟩⟩
  k_search "ss"
  k_search "disp"
  k_search "ss"
  refine W_newTuple H (by simp) ?_
  intro tp4 g4 h2 le4 T4 H
  k_search "ss"
  exact q _ _ _ (((le0.trans le).trans le3).trans le4) T4 H.drop
theorem decide_ok {f : Addr} {b : Bool} (H0 : Hp C.w.params g V h) (Wd : Wld C g) (S0 : Stk A V) (r0 : Rm A (n + 1)) (p1 : Nst C.w.params g f 281 1 (Str.ofString "_determine_attrib_eq_order.<locals>.decide_callable_or_boolean") [])
    (q : ∀ a g' h', Le g g' → Tp g' a [.bool b, .none] → Hp C.w.params g' V h' → R (.ok (.ret (.ref a))) h') : CW C A (.call (.ref f) ⟨[.bool b], []⟩) R h := by
  obtain ⟨oc, od, fdO, sl, bs, name, params, body, scope, pos, e1, e2, e3, doc, pm, cdv, ctv, e4, e5⟩ := p1
  have e0 : (KF C.w.params).lookup 281 = some _ := (show List.lookup 281 (hd.heap_39 C.w.params) = some _ by k_is)
  rw [e1] at e0
  cases e0; cases e2; cases e3
  clear e1
  refine CW_fn (xs := [Str.ofString "value", Str.ofString "key"]) (binds := [(Str.ofString "value", .bool b)]) (vs := [some (.bool b), none]) (n := n) H0 Wd S0 r0
    e4 rfl e5 rfl (Looks.of_pure (by kernel_rfl)) rfl ⟨rfl, rfl⟩ ⟨⟨rfl, rfl⟩, rfl⟩ (by kernel_rfl) (by kernel_rfl) (by kernel_rfl) (by decide +kernel) (by kernel_rfl) ?_
  k_search "in"
  clear e4 e5
  k_search "ss"
  k_search "tst"
  k_search "ss"
  refine W_callable_bool ?_
  k_search "ss"
  refine ⟨fun e => absurd e (by decide), fun _ => ?_⟩
  k_search "ss"
  k_search "disp"
  k_search "ss"
  refine W_newTuple H (by simp) ?_
  intro tp g2 h2 le T H
  k_search "ss"
  exact q _ _ _ le T H.drop
theorem det_true (H0 : Hp C.w.params g V h) (Wd : Wld C g) (S0 : Stk A V) (r0 : Rm A (n + 3)) (mt : (276, .tab deQ) ∈ V)
    (q : ∀ a g' h', Le g g' → Tp g' a [.bool true, .none, .bool true, .none] → Hp C.w.params g' V h' → R (.ok (.ret (.ref a))) h') : CW C A (.call (.ref 281) ⟨[.none, .bool true, .bool true, .bool true], []⟩) R h := by
  refine CW_fn (xs := [Str.ofString "cmp", Str.ofString "eq", Str.ofString "order", Str.ofString "default_eq", Str.ofString "decide_callable_or_boolean", Str.ofString "cmp_key", Str.ofString "eq_key", Str.ofString "order_key", Str.ofString "msg"]) (binds := [(Str.ofString "cmp", .none), (Str.ofString "eq", .bool true), (Str.ofString "order", .bool true), (Str.ofString "default_eq", .bool true)]) (vs := [some (.none), some (.bool true), some (.bool true), some (.bool true), none, none, none, none, none]) (n := n + 2) H0 Wd (S0) r0
    (Wd.K _ _ (show List.lookup 281 (hd.heap_39 C.w.params) = some _ by k_is)) rfl (codeRec_of (K := hd.heap_39 C.w.params) Wd.K (by k_is)) rfl (Looks.of_pure (by kernel_rfl)) rfl ⟨rfl, rfl⟩ ⟨⟨rfl, rfl⟩, rfl⟩ (by kernel_rfl) (by kernel_rfl) (by kernel_rfl) (by decide +kernel) (by kernel_rfl) ?_
  k_search "in"
  k_search "ss"
  k_search "tst"
  refine W_and ?_
  k_search "tst"
  k_search "ss"
  k_search "tst"
  k_search "ss"
  k_search "isn"
  k_search "ss"
  refine ⟨fun e => absurd e (by decide), fun _ => ⟨fun e => absurd e (by decide), fun _ => ?_⟩⟩
  k_search "ss"
  refine W_Def ?_ rfl rfl rfl
  rw [show qualnameIn en (Str.ofString "decide_callable_or_boolean") (Str.ofString "decide_callable_or_boolean") = Str.ofString "_determine_attrib_eq_order.<locals>.decide_callable_or_boolean" from by unfold qualnameIn; rw [F.kof (k := .local) (by kernel_rfl), Fq.2.1]; kernel_rfl]
  refine W_makeFn (P := 276) (q := deQ) (clos := []) H Wd F.glob Fq.2.2 (by decide) (by k_search "mt") (by rw [F.cells]; kernel_rfl) (fun p a b => rfl) ?_
  intro f1 g1 h1 le0 fo1 H1
  refine W_storeL F H1 (by k_search "st") ?_
  intro h2 H
  replace Wd := Wd.up le0
  have e0 : (KF C.w.params).lookup 281 = some _ := (show List.lookup 281 (hd.heap_39 C.w.params) = some _ by k_is)
  have p1 : Nst C.w.params g1 f1 281 1 (Str.ofString "_determine_attrib_eq_order.<locals>.decide_callable_or_boolean") [] := ⟨_, _, _, _, _, _, _, _, _, _, e0, rfl, rfl, fo1⟩
  clear e0 fo1
  k_search "ss"
  k_search "tst"
  k_search "ss"
  k_search "tst"
  k_search "ss"
  k_search "isn"
  k_search "ss"
  refine ⟨fun e => absurd e (by decide), fun _ => ?_⟩
  k_search "ss"
  k_search "tst"
  k_search "ss"
  k_search "tst"
  k_search "ss"
  k_search "isn"
  k_search "ss"
  refine ⟨fun e => absurd e (by decide), fun _ => ?_⟩
  k_search "ss"
  refine ⟨by obtain ⟨_, _, _, _, _, _, _, _, _, _, _, _, _, fo⟩ := p1; exact fo.kpr H.le, ?_⟩
  dsimp only [List.nil_append, List.cons_append, List.zip, List.zipWith, namesOf, Option.toList]
  refine W_call (decide_ok H Wd (by k_search "stk") r p1 ?_)
  intro tp g2 h2 le T H
  have le1 := le
  k_search "lift"
  k_search "fl"
  refine W_asT r.hd H T rfl rfl ?_
  intro h2 H
  k_search "disp"
  k_search "ss"
  k_search "disp"
  k_search "ss"
  k_search "disp"
  k_search "ss"
  k_search "tst"
  k_search "ss"
  k_search "tst"
  k_search "ss"
  k_search "isn"
  k_search "ss"
  refine ⟨fun e => absurd e (by decide), fun _ => ?_⟩
  k_search "ss"
  refine ⟨by obtain ⟨_, _, _, _, _, _, _, _, _, _, _, _, _, fo⟩ := p1; exact fo.kpr H.le, ?_⟩
  dsimp only [List.nil_append, List.cons_append, List.zip, List.zipWith, namesOf, Option.toList]
  refine W_call (decide_ok H Wd (by k_search "stk") r p1 ?_)
  intro tp g3 h2 le T H
  have le2 := le
  k_search "lift"
  k_search "fl"
  refine W_asT r.hd H T rfl rfl ?_
  intro h2 H
  k_search "disp"
  k_search "ss"
  k_search "disp"
  k_search "ss"
  k_search "disp"
  k_search "ss"
  k_search "tst"
  refine W_and ?_
  k_search "tst"
  k_search "ss"
  k_search "tst"
  k_search "ss"
  k_search "isn"
  k_search "ss"
  refine ⟨fun e => absurd e (by decide), fun _ => ⟨fun e => absurd e (by decide), fun _ => ?_⟩⟩
  k_search "ss"
  k_search "disp"
  k_search "ss"
  refine W_newTuple H (by simp) ?_
  intro tp4 g4 h2 le4 T4 H
  k_search "ss"
  exact q _ _ _ (((le0.trans le1).trans le2).trans le4) T4 H.drop
end

end
section
set_option maxHeartbeats 4000000
section
variable {C : Cfg} {A : Around} {g h : Heap} {V : Led} {n : Nat} {R : Result → Heap → Prop}
theorem Vd.isi {tv : Addr} {i : Nat} {v : Value} {s : VS} {E : Value → Heap → Prop} {Q : Value → Heap → Prop} (x : Vd C.w.params g tv i v s) (Wd : Wld C g) (le : Le g h) (q : Q (.bool false) h) : W C A (call (.builtin "isinstance") [v, .ref 465]) Q E h := by
  cases s with
  | chk sd => obtain ⟨f, t1, t2, rfl, c1, c2, c3, ⟨_, _, _, _, _, _, _, _, _, _, _, _, _, _, _, _, _, e, _⟩, _⟩ := x; exact W_isi_fn (Wd.K.keeps le) (le _ _ e) rfl (isi_of (by decide +kernel)) q
  | num u b => obtain ⟨a, rfl, t, o, t2, I, _⟩ := x; exact W_isi_inst (Wd.K.keeps le) (I.up le) (by decide) (isi_of (by decide +kernel)) q
theorem and_ok {vals : List Value} {tv : Addr} {i : Nat} {sps : List VS} (H0 : Hp C.w.params g V h) (Wd : Wld C g) (S0 : Stk A V) (r0 : Rm A (n + 3)) (hl : vals.length = sps.length) (hz : vals.length ≤ 10) (vd : ∀ (j : Nat) (v : Value) (s : VS), vals[j]? = some v → sps[j]? = some s → Vd C.w.params g tv i v s)
    (q : ∀ a g' h', Le g g' → Av C.w.params g' a tv i sps → Hp C.w.params g' V h' → R (.ok (.ret (.ref a))) h') : CW C A (.call (.ref 476) ⟨vals, []⟩) R h := by
  refine CW_fnB (xs := [Str.ofString "validators", Str.ofString "vals", Str.ofString "validator"]) (n := n + 2) H0.le Wd r0
    (Wd.K _ _ (show List.lookup 476 (hd.heap_39 C.w.params) = some _ by k_is)) rfl (codeRec_of (K := hd.heap_39 C.w.params) Wd.K (by k_is)) rfl rfl ⟨rfl, rfl⟩ ⟨⟨rfl, rfl⟩, rfl⟩ (by kernel_rfl) (by kernel_rfl) (by decide +kernel) ?_
  refine W_bind0 rfl rfl H0 (by omega) ?_
  intro tp g1 h1 l1 T H1
  refine ⟨g1, V, [some (.ref tp), none, none], l1, H1, S0, by kernel_rfl, by kernel_rfl, ?_⟩
  k_search "in"
  have vd1 : ∀ (j : Nat) (v : Value) (s : VS), vals[j]? = some v → sps[j]? = some s → Vd C.w.params g1 tv i v s := fun j v s a b => (vd j v s a b).up l1
  clear vd
  replace Wd := Wd.up l1
  k_search "ss"
  k_search "disp"
  k_search "ss"
  refine W_newList H (by simp) ?_
  intro D h2 H2
  have H3 := H2.swap
  clear H H2 H1
  have H := H3
  clear H3
  k_search "ss"
  refine W_For ?_ (fun _ => rfl)
  k_search "ss"
  refine W_iter_tup r.hd T H ?_
  intro it h' IT H
  refine CW_for (R := fun _ _ => True) (IT _ _) (fun j g' V' => Le g1 g' ∧ ∃ vv, V' = (L, Sp.frm [Str.ofString "validators", Str.ofString "vals", Str.ofString "validator"] [some (.ref tp), some (.ref D), vv]) :: (D, .lst (vals.take j)) :: V) ?_ H (Le.refl g1) ⟨Le.refl g1, _, rfl⟩ ?_ ?_
  · exact fun _ _ _ _ l ⟨l1, b⟩ => ⟨l1.trans l, b⟩
  · rintro j g2 V1 h1 v1 le1 hj ⟨le, vv, rfl⟩ hy H
    dsimp only [List.cons_append] at H
    have hs : sps[j]? = some sps[j] := List.getElem?_eq_getElem (by omega)
    have p5 := vd1 j v1 _ hy hs
    k_search "lift"
    k_search "ss"
    k_search "expr2"
    refine W_CallM (fun _ => rfl) rfl ?_
    k_search "ss"
    refine W_callee rfl ?_
    refine W_get_extend (vs := vals.take j) (H.at (s := .lst _) (by k_search "mm")) ?_
    k_search "ss"
    k_search "tst"
    k_search "ss"
    refine p5.isi Wd H.le ?_
    k_search "ss"
    refine ⟨fun e => absurd e (by decide), fun _ => ?_⟩
    k_search "disp"
    k_search "ss"
    refine W_newList H (by simp) ?_
    intro D2 h2 H2
    have H3 := H2.swap
    clear H H2
    have H := H3
    clear H3
    have tk : vals.take (j + 1) = vals.take j ++ [v1] := by rw [List.take_add_one, hy]; rfl
    k_search "ss"
    refine W_extend H (.tail (.tail .head)) (H.at (s := .lst [v1]) (by k_search "mm")) (by rw [List.length_take]; simp; omega) ?_
    intro h3 H
    k_search "ss"
    exact ⟨g2, _, Le.refl g2, ⟨le, _, by rw [tk]⟩, H.drop2⟩
  · rintro g2 V1 h1 le1 ⟨le, vv, rfl⟩ H
    rw [List.take_length] at H
    have vd2 : ∀ (j : Nat) (v : Value) (s : VS), vals[j]? = some v → sps[j]? = some s → Vd C.w.params g2 tv i v s := fun j v s a b => (vd1 j v s a b).up le
    k_search "lift"
    k_search "ss"
    refine W_tuple_list H (H.at (s := .lst vals) (by k_search "mm")) (by omega) ?_
    intro tp2 g3 h3 le3 T3 H
    replace Wd := Wd.up le3
    k_search "ss"
    refine W_call (av_make H Wd (by k_search "stk") r ?_)
    intro a g4 h4 le4 I4 H
    k_search "ss"
    exact q a g4 _ (((l1.trans le).trans le3).trans le4) ⟨tp2, vals, I4, T3.up le4, hl, fun j v s a b => ((vd2 j v s a b).up le3).up le4⟩ H.drop.drop
end

end
section
set_option maxHeartbeats 4000000
section
variable {C : Cfg} {A : Around} {g h : Heap} {V : Led} {n : Nat} {R : Result → Heap → Prop}
def Va (P : Params) (g : Heap) (v : Value) (tv : Addr) (i : Nat) (sps : List VS) : Prop := (v = .none ∧ sps = []) ∨ (∃ l vals, v = .ref l ∧ Lst g l vals ∧ vals.length = sps.length ∧ sps ≠ [] ∧ sps.length ≤ 10 ∧ ∀ (j : Nat) (v : Value) (s : VS), vals[j]? = some v → sps[j]? = some s → Vd P g tv i v s)
def Vk (P : Params) (g : Heap) (v : Value) (tv : Addr) (i : Nat) (sps : List VS) : Prop := (v = .none ∧ sps = []) ∨ (∃ a, v = .ref a ∧ Av P g a tv i sps ∧ sps ≠ [])
theorem Va.up {P : Params} {g g' : Heap} {v : Value} {tv : Addr} {i : Nat} {sps : List VS} (x : Va P g v tv i sps) (le : Le g g') : Va P g' v tv i sps := by
  rcases x with x | ⟨l, vals, a, b, c, d, d2, e⟩
  · exact .inl x
  · exact .inr ⟨l, vals, a, b.up le, c, d, d2, fun j v s e1 e2 => (e j v s e1 e2).up le⟩
theorem Vk.up {P : Params} {g g' : Heap} {v : Value} {tv : Addr} {i : Nat} {sps : List VS} (x : Vk P g v tv i sps) (le : Le g g') : Vk P g' v tv i sps := by
  rcases x with x | ⟨a, e, b, c⟩
  · exact .inl x
  · exact .inr ⟨a, e, b.up le, c⟩
theorem Cvt.tru {v : Value} {hw : Int} {m nm : Value} {E : Value → Heap → Prop} {Q : Bool → Heap → Prop} (x : Cvt C.w.params g v hw m nm) (Wd : Wld C g) (le : Le g h) (q : Q true h) : W C A (truthy v) Q E h := by
  rcases x with ⟨e, f, c, rfl, ⟨_, _, _, _, _, _, _, _, _, _, _, _, _, _, _, _, _, e2, _⟩, _⟩ | ⟨e, a, f, c1, c2, rfl, I, _⟩
  · exact W_truthy_fn (le _ _ e2) rfl q
  · exact W_truthy_inst (Wd.K.keeps le) (I.up le) (by decide) q
theorem Cvt.lt {v : Value} {tp : Addr} {hw : Int} {m nm : Value} {E : Value → Heap → Prop} {Q : Value → Heap → Prop} (x : Cvt C.w.params g v hw m nm) (Wd : Wld C g) (le : Le g h) (T : Tp h tp [.type "list", .type "tuple"]) (q : Q (.bool false) h) : W C A (call (.builtin "isinstance") [v, .ref tp]) Q E h := by
  rcases x with ⟨e, f, c, rfl, ⟨_, _, _, _, _, _, _, _, _, _, _, _, _, _, _, _, _, e2, _⟩, _⟩ | ⟨e, a, f, c1, c2, rfl, I, _⟩
  · exact W_isi_ltF (Wd.K.keeps le) (le _ _ e2) rfl T q
  · exact W_isi_ltI (Wd.K.keeps le) (I.up le) T q
theorem att_ok {cv va : Value} {hw : Int} {m nm : Value} {tv : Addr} {i : Nat} {sps : List VS} (H0 : Hp C.w.params g V h) (Wd : Wld C g) (S0 : Stk A V) (r0 : Rm A (n + 5)) (mt : (276, .tab deQ) ∈ V) (p1 : Cvt C.w.params g cv hw m nm) (p2 : Va C.w.params g va tv i sps)
    (q : ∀ a vk g' h', Le g g' → Vk C.w.params g' vk tv i sps → Inst C.w.params g' a 379 caK [.ref 101, vk, cv, .bool true, .none, .bool true, .none, .bool true, .none, .none, .none] → Hp C.w.params g' V h' → R (.ok (.ret (.ref a))) h') :
    CW C A (.call (.ref 109) ⟨[], [(Str.ofString "converter", cv), (Str.ofString "validator", va)]⟩) R h := by
  refine CW_fn (xs := [Str.ofString "default", Str.ofString "validator", Str.ofString "cmp", Str.ofString "init", Str.ofString "converter", Str.ofString "factory", Str.ofString "kw_only", Str.ofString "eq", Str.ofString "order", Str.ofString "on_setattr", Str.ofString "alias", Str.ofString "eq_key", Str.ofString "order_key", Str.ofString "msg"]) (binds := [(Str.ofString "default", .ref 101), (Str.ofString "validator", va), (Str.ofString "cmp", .none), (Str.ofString "init", .bool true), (Str.ofString "converter", cv), (Str.ofString "factory", .none), (Str.ofString "kw_only", .none), (Str.ofString "eq", .none), (Str.ofString "order", .none), (Str.ofString "on_setattr", .none), (Str.ofString "alias", .none)]) (vs := [some (.ref 101), some (va), some (.none), some (.bool true), some (cv), some (.none), some (.none), some (.none), some (.none), some (.none), some (.none), none, none, none]) (n := n + 4) H0 Wd (S0) r0
    (Wd.K _ _ (show List.lookup 109 (hd.heap_39 C.w.params) = some _ by k_is)) rfl (codeRec_of (K := hd.heap_39 C.w.params) Wd.K (by k_is)) rfl (Looks.of_peek (K := hd.heap_39 C.w.params) Wd.K (by kernel_rfl)) rfl ⟨rfl, rfl⟩ ⟨⟨rfl, rfl⟩, rfl⟩ (by kernel_rfl) (by kernel_rfl) (by kernel_rfl) (by decide +kernel) (by kernel_rfl) ?_
  k_search "in"
  k_search "ss"
  refine W_call (det_none (n := n + 2) H Wd (by k_search "stk") r (by k_search "mt") ?_)
  intro tp g1 h2 le T H
  have le1 := le
  k_search "lift"
  k_search "fl"
  refine W_asT r.hd H T rfl rfl ?_
  intro h2 H
  k_search "disp"
  k_search "ss"
  k_search "disp"
  k_search "ss"
  k_search "disp"
  k_search "ss"
  k_search "disp"
  k_search "ss"
  k_search "disp"
  k_search "ss"
  k_search "tst"
  k_search "ss"
  k_search "tst"
  k_search "ss"
  k_search "isn"
  k_search "ss"
  refine ⟨fun e => absurd e (by decide), fun _ => ?_⟩
  refine W_execs_nil (Fl_next (W_execs ?_))
  refine W_cut (fun h' => ∃ vk g2, Le g1 g2 ∧ Vk C.w.params g2 vk tv i sps ∧ Hp C.w.params g2 ((L, Sp.frm [Str.ofString "default", Str.ofString "validator", Str.ofString "cmp", Str.ofString "init", Str.ofString "converter", Str.ofString "factory", Str.ofString "kw_only", Str.ofString "eq", Str.ofString "order", Str.ofString "on_setattr", Str.ofString "alias", Str.ofString "eq_key", Str.ofString "order_key", Str.ofString "msg"]
    [some (.ref 101), some vk, some .none, some (.bool true), some cv, some .none, some .none, some (.bool true), some (.bool true), some .none, some .none, some .none, some .none, none]) :: V) h') ?_ ?_
  · k_search "ss"
    k_search "tst"
    refine W_and ?_
    k_search "tst"
    k_search "ss"
    rcases p2 with ⟨rfl, rfl⟩ | ⟨l, vals, rfl, Ll, hl, hne, hz, vd⟩
    · k_search "ss"
      refine ⟨fun e => absurd e (by decide), fun _ => ⟨fun e => absurd e (by decide), fun _ => ?_⟩⟩
      k_search "ss"
      exact ⟨rfl, .none, g1, Le.refl g1, .inl ⟨rfl, rfl⟩, H⟩
    · have hvn : vals.isEmpty = false := by
        cases vals with
        | nil => simp at hl; exact absurd (List.length_eq_zero_iff.mp hl.symm) hne
        | cons _ _ => rfl
      refine W_truthy_list (Ll.up H.le) (by omega) ?_
      rw [hvn]
      refine ⟨fun _ => W_and ?_, fun e => absurd e (by decide)⟩
      k_search "tst"
      k_search "ss"
      k_search "disp"
      k_search "ss"
      refine W_newTuple H (by simp) ?_
      intro tp2 g2 h2 le T2 H
      k_search "lift"
      k_search "ss"
      refine W_isi_lt (Wd.K.keeps H.le) ((Ll.up le).up H.le) (T2.up H.le) ?_
      k_search "ss"
      refine ⟨fun _ => W_and_nil ⟨fun _ => ?_, fun e => absurd e (by decide)⟩, fun e => absurd e (by decide)⟩
      k_search "ss"
      refine W_argsLone ?_
      k_search "ss"
      refine ⟨l, vals, g2, _, rfl, .inl ((Ll.up le).up H.le), H, by omega, fun h2 H => ?_⟩
      k_search "ss"
      refine W_call (and_ok (n := n + 1) (i := i) (tv := tv) (sps := sps) H Wd (by k_search "stk") r hl (by omega) (fun j v s a b => (vd j v s a b).up le) ?_)
      intro a g3 h3 le3 av H
      k_search "ss"
      exact ⟨rfl, .ref a, g3, le.trans le3, .inr ⟨a, rfl, av, hne⟩, H⟩
  · rintro h2 ⟨vk, g2, le, vk2, H⟩
    replace Wd := Wd.up le
    replace p1 := p1.up le
    k_search "ss"
    k_search "tst"
    refine W_and ?_
    k_search "tst"
    k_search "ss"
    refine p1.tru Wd H.le ?_
    refine ⟨fun _ => W_and ?_, fun e => absurd e (by decide)⟩
    k_search "tst"
    k_search "ss"
    k_search "disp"
    k_search "ss"
    refine W_newTuple H (by simp) ?_
    intro tp2 g3 h2 le3 T2 H
    replace Wd := Wd.up le3
    replace p1 := p1.up le3
    k_search "ss"
    refine p1.lt Wd H.le (T2.up H.le) ?_
    k_search "ss"
    refine ⟨fun e => absurd e (by decide), fun _ => ⟨fun e => absurd e (by decide), fun _ => ?_⟩⟩
    k_search "ss"
    refine W_call (ca_make (n := n + 2) H Wd (by k_search "stk") r ?_)
    intro a g4 h4 le4 I4 H
    k_search "ss"
    exact q a vk g4 _ (((le1.trans le).trans le3).trans le4) ((vk2.up le3).up le4) I4 H.drop
end

end
section
set_option maxHeartbeats 4000000
section
variable {C : Cfg} {A : Around} {g h : Heap} {V : Led} {n : Nat} {R : Result → Heap → Prop}
theorem linear_ok {kd tb : Addr} (H0 : Hp C.w.params g V h) (Wd : Wld C g) (S0 : Stk A V) (r0 : Rm A (n + 1)) (p1 : Tp g tb [])
    (q : ∀ l g' h', Le g g' → Lst g' l [.ref kd] → Hp C.w.params g' V h' → R (.ok (.ret (.ref l))) h') : CW C A (.call (.ref 182) ⟨[.ref kd, .ref tb], []⟩) R h := by
  refine CW_fnK (xs := [Str.ofString "kind", Str.ofString "bases", Str.ofString "found", Str.ofString "msg"]) (cn := [Str.ofString "rows", Str.ofString "heads"]) (binds := [(Str.ofString "kind", .ref kd), (Str.ofString "bases", .ref tb)]) (vs := [some (.ref kd), some (.ref tb), none, none]) (n := n) (ccl := (fun ca => [(Str.ofString "heads", ca 1), (Str.ofString "rows", ca 0)])) (cled := (fun ca => [(ca 1, .cell (none)), (ca 0, .cell (none))])) H0 Wd (S0) r0
    (Wd.K _ _ (show List.lookup 182 (hd.heap_39 C.w.params) = some _ by k_is)) rfl (codeRec_of (K := hd.heap_39 C.w.params) Wd.K (by k_is)) rfl (Looks.of_pure (by kernel_rfl)) rfl ⟨⟨rfl, rfl⟩, rfl⟩ ⟨⟨rfl, rfl⟩, rfl⟩ (by kernel_rfl) (by decide +kernel) (by kernel_rfl) (by kernel_rfl) (by kernel_rfl) (by decide +kernel) (by kernel_rfl) (fun _ => rfl) (fun _ => by kernel_rfl) ?_
  k_search "ink"
  k_search "ss"
  refine W_ListComp (ns' := [(Str.ofString ".0", .local), (Str.ofString "base", .local)]) (cl' := []) (cxs := [Str.ofString "base"]) F ⟨by kernel_rfl, by kernel_rfl, rfl, by kernel_rfl, by kernel_rfl, by decide +kernel⟩ ?_ (fun _ => rfl)
  k_search "ss"
  refine W_iter_tup r.hd p1 H ?_
  intro it h1 IT H
  refine ⟨_, 0, _, _, g, fun _ _ acc => acc = [], IT _ _, by decide, H, rfl, fun _ _ _ _ _ e => e, fun i g' acc Cf D cen cvs v h3 le hi => absurd hi (Nat.not_lt_zero _), ?_⟩
  rintro g1 D1 _ le1 rfl h1 H
  have H' := H.swap
  clear H
  have H := H'
  clear H'
  replace Wd := Wd.up le1
  replace p1 := p1.up le1
  k_search "disp"
  k_search "ss"
  refine W_ListComp (ns' := [(Str.ofString ".0", .local), (Str.ofString "base", .local)]) (cl' := []) (cxs := [Str.ofString "base"]) F ⟨by kernel_rfl, by kernel_rfl, rfl, by kernel_rfl, by kernel_rfl, by decide +kernel⟩ ?_ (fun _ => rfl)
  k_search "ss"
  refine W_iter_tup r.hd p1 H ?_
  intro it2 h1 IT H
  refine ⟨_, 0, _, _, g1, fun _ _ acc => acc = [], IT _ _, by decide, H, rfl, fun _ _ _ _ _ e => e, fun i g' acc Cf D cen cvs v h3 le hi => absurd hi (Nat.not_lt_zero _), ?_⟩
  rintro g2 D2 _ le2 rfl h1 H
  have H' := H.swap
  clear H
  have H := H'
  clear H'
  replace Wd := Wd.up le2
  replace p1 := p1.up le2
  k_search "ss"
  refine W_newList H (by simp) ?_
  intro D3 h1 H
  refine W_addL H (H.at (s := .lst []) (by k_search "mm")) (H.at (s := .lst [.ref D2]) (by k_search "mm")) (by simp) ?_
  intro D4 h1 H
  refine W_as_Name ?_
  refine W_bindC F H (by kernel_rfl) (lookup_of_mem (of_decide_eq_true (by kernel_rfl)) (show (Str.ofString "rows", ca 0) ∈ _ by k_search "mm")) (U := by k_search "up") ?_
  clear H
  intro h1 H
  have H' : Hp C.w.params g2 ((L, Sp.frm [Str.ofString "kind", Str.ofString "bases", Str.ofString "found", Str.ofString "msg"] [some (.ref kd), some (.ref tb), none, none]) :: (D4, .lst [.ref D2]) :: (D3, .lst [.ref D2]) :: (D2, .lst []) :: (D1, .lst []) :: (ca 1, .cell none) :: (ca 0, .cell (some (.ref D4))) :: V) h1 := H.perm ((List.Perm.swap _ _ _).cons _ |>.trans (.swap _ _ _))
  clear H
  obtain ⟨g3, l3, s4, H3⟩ := H'.give
  obtain ⟨g4, l4, s5, H4⟩ := H3.drop2.give
  have q4 : Lst g4 D4 [.ref D2] := Lst.up (show Lst g3 D4 [.ref D2] from s4) l4
  have q2 : Lst g4 D2 [] := s5
  have H := H4.drop2
  clear H' H3 H4 s4 s5
  replace Wd := Wd.up (l3.trans l4)
  k_search "ss"
  k_search "disp"
  k_search "ss"
  refine W_newList H (by simp) ?_
  intro D5 h1 H
  have H' := H.swap
  clear H
  have H := H'
  clear H'
  k_search "ss"
  refine W_While0 ?_
  refine W_T_p (fun _ => rfl) ?_
  refine W_ListComp (ns' := [(Str.ofString ".0", .local), (Str.ofString "row", .local)]) (cl' := []) (cxs := [Str.ofString "row"]) F ⟨by kernel_rfl, by kernel_rfl, rfl, by kernel_rfl, by kernel_rfl, by decide +kernel⟩ ?_ (fun _ => rfl)
  k_search "nc"
  refine W_iter_list r.hd q4 H ?_
  intro it3 h1 IT H
  refine ⟨_, 1, _, _, g4, fun _ _ acc => acc = [], IT _ _, by decide, H, rfl, fun _ _ _ _ _ e => e, ?_, ?_⟩
  · rintro i g' acc Cf D cen cvs v h3 le hi rfl hy F H
    have hi0 : i = 0 := by omega
    subst hi0
    cases hy
    obtain ⟨cv, rfl⟩ : ∃ cv, cvs = [cv] := by
      obtain ⟨m, _, lo⟩ := H.at (s := .frm _ _) (.head _)
      have := lo.1
      match cvs, this with
      | [c], _ => exact ⟨c, rfl⟩
    refine W_as_Name ?_
    k_search "ss"
    refine W_tests_one ?_
    k_search "tst"
    k_search "ss"
    refine W_truthy_list ((q2.up le).up H.le) (by simp) ?_
    rw [if_neg (by simp)]
    exact ⟨g', _, Le.refl g', rfl, H⟩
  · rintro g5 D6 _ le5 rfl h1 H
    refine W_truthy_list (H.at (s := .lst []) (by k_search "mm")) (by simp) ?_
    refine ⟨rfl, ?_⟩
    have H' := H.swap
    clear H
    have H := H'.drop2
    clear H'
    k_search "ss"
    obtain ⟨g6, l6, s6, H6⟩ := H.give
    have : Lst g6 D5 [.ref kd] := s6
    exact q D5 g6 _ (((((le1.trans le2).trans l3).trans l4).trans le5).trans l6) this H6.drop2.drop2.drop
end

end
section
set_option maxHeartbeats 4000000
section
variable {C : Cfg} {A : Around} {g h : Heap} {V : Led} {n : Nat} {R : Result → Heap → Prop}
abbrev kdK : List Str := [Str.ofString "name", Str.ofString "mro", Str.ofString "attrs", Str.ofString "eq_attrs", Str.ofString "order_attrs"]
theorem kd_init {a dx tb : Addr} {nm : Value} (H0 : Hp C.w.params g ((a, .obj (instObj 173 dx)) :: (dx, .sd [] []) :: V) h) (Wd : Wld C g) (S0 : Stk A V) (r0 : Rm A (n + 2)) (p1 : Tp g tb [])
    (q : ∀ l t g' h', Le g g' → Lst g' l [.ref a] → Tp g' t [] → Hp C.w.params g' ((a, .obj (instObj 173 dx)) :: (dx, .sd kdK [nm, .ref l, .ref t, .none, .none]) :: V) h' → R (.ok (.ret (.ref a))) h') : CW C A (.call (.ref 149) ⟨[.ref a, nm, .ref tb], []⟩) (Ib a R) h := by
  refine CW_fn (xs := [Str.ofString "self", Str.ofString "name", Str.ofString "bases"]) (binds := [(Str.ofString "self", .ref a), (Str.ofString "name", nm), (Str.ofString "bases", .ref tb)]) (vs := [some (.ref a), some (nm), some (.ref tb)]) (n := n + 1) H0 Wd (S0.more.more) r0
    (Wd.K _ _ (show List.lookup 149 (hd.heap_39 C.w.params) = some _ by k_is)) rfl (codeRec_of (K := hd.heap_39 C.w.params) Wd.K (by k_is)) rfl (Looks.of_pure (by kernel_rfl)) rfl ⟨rfl, rfl⟩ ⟨⟨rfl, rfl⟩, rfl⟩ (by kernel_rfl) (by kernel_rfl) (by kernel_rfl) (by decide +kernel) (by kernel_rfl) ?_
  k_search "in"
  replace S := (S.less rfl).less rfl
  k_search "ss"
  refine W_call (linear_ok (n := n) H Wd (by k_search "stk") r p1 ?_)
  intro l g1 h1 l1 Ll H
  replace Wd := Wd.up l1
  k_search "ss"
  k_search "disp"
  k_search "ss"
  refine W_newTuple H (by simp) ?_
  intro t g2 h1 l2 T H
  replace Wd := Wd.up l2
  k_search "ss"
  exact q l t g2 _ (l1.trans l2) (Ll.up l2) T H.drop
theorem kd_make {tb : Addr} {nm : Value} (H0 : Hp C.w.params g V h) (Wd : Wld C g) (S0 : Stk A V) (r0 : Rm A (n + 3)) (p1 : Tp g tb [])
    (q : ∀ a dx l t g' h', Le g g' → Lst g' l [.ref a] → Tp g' t [] → Hp C.w.params g' ((a, .obj (instObj 173 dx)) :: (dx, .sd kdK [nm, .ref l, .ref t, .none, .none]) :: V) h' → R (.ok (.ret (.ref a))) h') : CW C A (.call (.ref 173) ⟨[nm, .ref tb], []⟩) R h :=
  have m := mk_of (P := C.w.params) (c := 173) (f := 149) (by decide)
  CW_make H0 Wd m.1 m.2.1 m.2.2 fun a dx _ H' => kd_init H' Wd S0.under r0.under p1 (q a dx)
theorem md_init {a dx : Addr} {kv : Value} (H0 : Hp C.w.params g ((a, .obj (instObj 244 dx)) :: (dx, .sd [] []) :: V) h) (Wd : Wld C g) (S0 : Stk A V) (r0 : Rm A (n + 1))
    (q : ∀ d g' h', Le g g' → Inst C.w.params g' a 244 mdK [kv, .ref d] → Hp C.w.params g' ((d, .sd [] []) :: V) h' → R (.ok (.ret (.ref a))) h') : CW C A (.call (.ref 201) ⟨[.ref a, kv], []⟩) (Ib a R) h := by
  refine CW_fn (xs := [Str.ofString "self", Str.ofString "kind"]) (binds := [(Str.ofString "self", .ref a), (Str.ofString "kind", kv)]) (vs := [some (.ref a), some (kv)]) (n := n) H0 Wd (S0.more.more) r0
    (Wd.K _ _ (show List.lookup 201 (hd.heap_39 C.w.params) = some _ by k_is)) rfl (codeRec_of (K := hd.heap_39 C.w.params) Wd.K (by k_is)) rfl (Looks.of_pure (by kernel_rfl)) rfl ⟨rfl, rfl⟩ ⟨⟨rfl, rfl⟩, rfl⟩ (by kernel_rfl) (by kernel_rfl) (by kernel_rfl) (by decide +kernel) (by kernel_rfl) ?_
  k_search "in"
  k_search "ss"
  refine W_Dict0 H Wd ?_
  intro d h1 H
  have H' := H.swap
  clear H
  have H := H'
  clear H'
  k_search "ss"
  obtain ⟨g', l, I, H⟩ := (H.drop.perm ((List.Perm.swap _ _ _).trans ((List.Perm.swap _ _ _).cons _))).ready
  exact q d g' _ l I H
theorem md_make {kv : Value} (H0 : Hp C.w.params g V h) (Wd : Wld C g) (S0 : Stk A V) (r0 : Rm A (n + 2))
    (q : ∀ a d g' h', Le g g' → Inst C.w.params g' a 244 mdK [kv, .ref d] → Hp C.w.params g' ((d, .sd [] []) :: V) h' → R (.ok (.ret (.ref a))) h') : CW C A (.call (.ref 244) ⟨[kv], []⟩) R h :=
  have m := mk_of (P := C.w.params) (c := 244) (f := 201) (by decide)
  CW_make H0 Wd m.1 m.2.1 m.2.2 fun a _ _ H' => md_init H' Wd S0.under r0.under (q a)
end

end
section
set_option maxHeartbeats 4000000
section
variable {C : Cfg} {A : Around} {g h : Heap} {V : Led} {n : Nat} {R : Result → Heap → Prop}
theorem detk_ok (H0 : Hp C.w.params g V h) (Wd : Wld C g) (S0 : Stk A V) (r0 : Rm A (n + 1))
    (q : ∀ a g' h', Le g g' → Tp g' a [.bool true, .bool true] → Hp C.w.params g' V h' → R (.ok (.ret (.ref a))) h') : CW C A (.call (.ref 274) ⟨[.none, .none, .none, .bool true], []⟩) R h := by
  refine CW_fn (xs := [Str.ofString "cmp", Str.ofString "eq", Str.ofString "order", Str.ofString "default_eq", Str.ofString "msg"]) (binds := [(Str.ofString "cmp", .none), (Str.ofString "eq", .none), (Str.ofString "order", .none), (Str.ofString "default_eq", .bool true)]) (vs := [some (.none), some (.none), some (.none), some (.bool true), none]) (n := n) H0 Wd (S0) r0
    (Wd.K _ _ (show List.lookup 274 (hd.heap_39 C.w.params) = some _ by k_is)) rfl (codeRec_of (K := hd.heap_39 C.w.params) Wd.K (by k_is)) rfl (Looks.of_pure (by kernel_rfl)) rfl ⟨rfl, rfl⟩ ⟨⟨rfl, rfl⟩, rfl⟩ (by kernel_rfl) (by kernel_rfl) (by kernel_rfl) (by decide +kernel) (by kernel_rfl) ?_
  k_search "in"
  k_search "ss"
  k_search "tst"
  refine W_and ?_
  k_search "tst"
  k_search "ss"
  k_search "tst"
  k_search "ss"
  k_search "isn"
  k_search "ss"
  refine ⟨fun e => absurd e (by decide), fun _ => ⟨fun e => absurd e (by decide), fun _ => ?_⟩⟩
  k_search "ss"
  k_search "tst"
  k_search "ss"
  k_search "tst"
  k_search "ss"
  k_search "isn"
  k_search "ss"
  refine ⟨fun e => absurd e (by decide), fun _ => ?_⟩
  k_search "ss"
  k_search "tst"
  k_search "ss"
  k_search "tst"
  k_search "ss"
  k_search "isn"
  k_search "ss"
  refine ⟨fun _ => ?_, fun e => absurd e (by decide)⟩
  k_search "ss"
  k_search "tst"
  k_search "ss"
  k_search "tst"
  k_search "ss"
  k_search "isn"
  k_search "ss"
  refine ⟨fun _ => ?_, fun e => absurd e (by decide)⟩
  k_search "ss"
  k_search "tst"
  refine W_and ?_
  k_search "tst"
  k_search "ss"
  k_search "tst"
  k_search "ss"
  k_search "isn"
  k_search "ss"
  refine ⟨fun e => absurd e (by decide), fun _ => ⟨fun e => absurd e (by decide), fun _ => ?_⟩⟩
  k_search "ss"
  k_search "disp"
  k_search "ss"
  refine W_newTuple H (by simp) ?_
  intro tp4 g4 h2 le4 T4 H
  k_search "ss"
  exact q _ _ _ le4 T4 H.drop
abbrev atK : List Str := [Str.ofString "name", Str.ofString "default", Str.ofString "validator", Str.ofString "eq", Str.ofString "eq_key", Str.ofString "order", Str.ofString "order_key", Str.ofString "init", Str.ofString "converter", Str.ofString "kw_only", Str.ofString "inherited", Str.ofString "on_setattr", Str.ofString "alias", Str.ofString "alias_is_default"]
theorem at_init {a dx : Addr} {nm d vk cv : Value} (H0 : Hp C.w.params g ((a, .obj (instObj 344 dx)) :: (dx, .sd [] []) :: V) h) (Wd : Wld C g) (S0 : Stk A V) (r0 : Rm A (n + 4)) (mt : (276, .tab deQ) ∈ V)
    (q : ∀ g' h', Le g g' → Hp C.w.params g' ((a, .obj (instObj 344 dx)) :: (dx, .sd atK [nm, d, vk, .bool true, .none, .bool true, .none, .bool true, cv, .bool false, .bool false, .none, .none, .bool true]) :: V) h' → R (.ok (.ret (.ref a))) h') :
    CW C A (.call (.ref 310) ⟨[.ref a, nm, d, vk, .none, .bool true, .bool false, cv, .bool false, .bool true, .none, .bool true, .none, .none, .none, .bool true], []⟩) (Ib a R) h := by
  refine CW_fn (xs := [Str.ofString "self", Str.ofString "name", Str.ofString "default", Str.ofString "validator", Str.ofString "cmp", Str.ofString "init", Str.ofString "inherited", Str.ofString "converter", Str.ofString "kw_only", Str.ofString "eq", Str.ofString "eq_key", Str.ofString "order", Str.ofString "order_key", Str.ofString "on_setattr", Str.ofString "alias", Str.ofString "alias_is_default"]) (binds := [(Str.ofString "self", .ref a), (Str.ofString "name", nm), (Str.ofString "default", d), (Str.ofString "validator", vk), (Str.ofString "cmp", .none), (Str.ofString "init", .bool true), (Str.ofString "inherited", .bool false), (Str.ofString "converter", cv), (Str.ofString "kw_only", .bool false), (Str.ofString "eq", .bool true), (Str.ofString "eq_key", .none), (Str.ofString "order", .bool true), (Str.ofString "order_key", .none), (Str.ofString "on_setattr", .none), (Str.ofString "alias", .none), (Str.ofString "alias_is_default", .bool true)]) (vs := [some (.ref a), some (nm), some (d), some (vk), some (.none), some (.bool true), some (.bool false), some (cv), some (.bool false), some (.bool true), some (.none), some (.bool true), some (.none), some (.none), some (.none), some (.bool true)]) (n := n + 3) H0 Wd (S0.more.more) r0
    (Wd.K _ _ (show List.lookup 310 (hd.heap_39 C.w.params) = some _ by k_is)) rfl (codeRec_of (K := hd.heap_39 C.w.params) Wd.K (by k_is)) rfl (Looks.of_peek (K := hd.heap_39 C.w.params) Wd.K (by kernel_rfl)) rfl ⟨rfl, rfl⟩ ⟨⟨rfl, rfl⟩, rfl⟩ (by kernel_rfl) (by kernel_rfl) (by kernel_rfl) (by decide +kernel) (by kernel_rfl) ?_
  k_search "in"
  replace S := (S.less rfl).less rfl
  k_search "ss"
  refine W_or2 ?_
  k_search "ss"
  refine ⟨fun e => absurd e (by decide), fun _ => ?_⟩
  k_search "ss"
  refine W_or2 ?_
  k_search "ss"
  refine ⟨fun e => absurd e (by decide), fun _ => ?_⟩
  k_search "ss"
  refine W_call (det_true (n := n) H Wd (by k_search "stk") r (by k_search "mt") ?_)
  intro tp g1 h2 le T H
  have le1 := le
  k_search "lift"
  k_search "fl"
  refine W_asT r.hd H T rfl rfl ?_
  intro h2 H
  k_search "disp"
  k_search "ss"
  k_search "disp"
  k_search "ss"
  k_search "disp"
  k_search "ss"
  k_search "disp"
  k_search "ss"
  k_search "disp"
  k_search "ss"
  k_search "tst"
  k_search "ss"
  k_search "tst"
  k_search "ss"
  k_search "isn"
  k_search "ss"
  refine ⟨fun e => absurd e (by decide), fun _ => ?_⟩
  k_search "ss"
  exact q _ _ le1 H.drop
end

end
section
set_option maxHeartbeats 4000000
section
variable {C : Cfg} {A : Around} {g h : Heap} {V : Led} {n : Nat} {R : Result → Heap → Prop}
theorem fieldsK_ok {k : Addr} {a1 a2 a3 a4 a5 : Value} (H0 : Hp C.w.params g V h) (Wd : Wld C g) (S0 : Stk A V) (r0 : Rm A (n + 1)) (p1 : Inst C.w.params g k 173 kdK [a1, a2, a3, a4, a5]) (hv : handedIn a3 = true)
    (q : ∀ h', Hp C.w.params g V h' → R (.ok (.ret a3)) h') : CW C A (.call (.ref 288) ⟨[.ref k], []⟩) R h := by
  refine CW_fn (xs := [Str.ofString "cls", Str.ofString "msg"]) (binds := [(Str.ofString "cls", .ref k)]) (vs := [some (.ref k), none]) (n := n) H0 Wd (S0) r0
    (Wd.K _ _ (show List.lookup 288 (hd.heap_39 C.w.params) = some _ by k_is)) rfl (codeRec_of (K := hd.heap_39 C.w.params) Wd.K (by k_is)) rfl (Looks.of_pure (by kernel_rfl)) rfl ⟨rfl, rfl⟩ ⟨⟨rfl, rfl⟩, rfl⟩ (by kernel_rfl) (by kernel_rfl) (by kernel_rfl) (by decide +kernel) (by kernel_rfl) ?_
  k_search "in"
  k_search "ss"
  k_search "tst"
  k_search "ss"
  refine W_isi_inst (b := false) (Wd.K.keeps H.le) (p1.up H.le) (by decide) (isi_of (by decide +kernel)) ?_
  k_search "ss"
  refine ⟨fun e => absurd e (by decide), fun _ => ?_⟩
  k_search "ss"
  k_search "tst"
  k_search "tst"
  k_search "ss"
  refine W_isi_inst (b := true) (Wd.K.keeps H.le) (p1.up H.le) (by decide) (isi_of (by decide +kernel)) ?_
  k_search "ss"
  refine ⟨fun e => absurd e (by decide), fun _ => ?_⟩
  k_search "ss"
  refine W_getA H Wd p1 (by decide) (by k_search "mm") (by decide +kernel) (by k_search "kk") hv ?_
  k_search "ss"
  exact q _ H.drop
theorem fieldsM_ok {z k : Addr} {hv a1 a2 a3 a4 a5 : Value} (H0 : Hp C.w.params g V h) (Wd : Wld C g) (S0 : Stk A V) (r0 : Rm A (n + 2)) (p0 : Inst C.w.params g z 244 mdK [.ref k, hv]) (p1 : Inst C.w.params g k 173 kdK [a1, a2, a3, a4, a5]) (ha : handedIn a3 = true)
    (q : ∀ h', Hp C.w.params g V h' → R (.ok (.ret a3)) h') : CW C A (.call (.ref 288) ⟨[.ref z], []⟩) R h := by
  refine CW_fn (xs := [Str.ofString "cls", Str.ofString "msg"]) (binds := [(Str.ofString "cls", .ref z)]) (vs := [some (.ref z), none]) (n := n + 1) H0 Wd (S0) r0
    (Wd.K _ _ (show List.lookup 288 (hd.heap_39 C.w.params) = some _ by k_is)) rfl (codeRec_of (K := hd.heap_39 C.w.params) Wd.K (by k_is)) rfl (Looks.of_pure (by kernel_rfl)) rfl ⟨rfl, rfl⟩ ⟨⟨rfl, rfl⟩, rfl⟩ (by kernel_rfl) (by kernel_rfl) (by kernel_rfl) (by decide +kernel) (by kernel_rfl) ?_
  k_search "in"
  k_search "ss"
  k_search "tst"
  k_search "ss"
  refine W_isi_inst (b := true) (Wd.K.keeps H.le) (p0.up H.le) (by decide) (isi_of (by decide +kernel)) ?_
  k_search "ss"
  refine ⟨fun _ => ?_, fun e => absurd e (by decide)⟩
  k_search "ss"
  k_search "at1"
  k_search "ss"
  refine W_call (fieldsK_ok (n := n) H Wd (by k_search "stk") r p1 ha ?_)
  intro h1 H
  k_search "ss"
  exact q _ H.drop
theorem kindof_ok {z : Addr} {kv hv : Value} (H0 : Hp C.w.params g V h) (Wd : Wld C g) (S0 : Stk A V) (r0 : Rm A (n + 1)) (p0 : Inst C.w.params g z 244 mdK [kv, hv]) (hk : handedIn kv = true)
    (q : ∀ h', Hp C.w.params g V h' → R (.ok (.ret kv)) h') : CW C A (.call (.ref 255) ⟨[.ref z], []⟩) R h := by
  refine CW_fn (xs := [Str.ofString "thing"]) (binds := [(Str.ofString "thing", .ref z)]) (vs := [some (.ref z)]) (n := n) H0 Wd (S0) r0
    (Wd.K _ _ (show List.lookup 255 (hd.heap_39 C.w.params) = some _ by k_is)) rfl (codeRec_of (K := hd.heap_39 C.w.params) Wd.K (by k_is)) rfl (Looks.of_pure (by kernel_rfl)) rfl ⟨rfl, rfl⟩ ⟨⟨rfl, rfl⟩, rfl⟩ (by kernel_rfl) (by kernel_rfl) (by kernel_rfl) (by decide +kernel) (by kernel_rfl) ?_
  k_search "in"
  k_search "ss"
  k_search "tst"
  k_search "ss"
  refine W_isi_inst (b := true) (Wd.K.keeps H.le) (p0.up H.le) (by decide) (isi_of (by decide +kernel)) ?_
  k_search "ss"
  refine ⟨fun _ => ?_, fun e => absurd e (by decide)⟩
  k_search "ss"
  refine W_getA H Wd p0 (by decide) (by k_search "mm") (by decide +kernel) (by k_search "kk") hk ?_
  k_search "ss"
  exact q _ H.drop
theorem keyed_ok {z one : Addr} {kv : Value} {nms : List Str} {row : List Int} {x : Str} {i : Nat} (H0 : Hp C.w.params g V h) (Wd : Wld C g) (S0 : Stk A V) (r0 : Rm A (n + 1)) (p3 : Th C.w.params g z kv nms row) (p4 : Nm C.w.params g one x) (hx : nms[i]? = some x)
    (q : ∀ t h', Hp C.w.params g V h' → R (.ok (.ret (.int (row.getD i 0) t))) h') : CW C A (.call (.ref 262) ⟨[.ref z, .ref one, .none], []⟩) R h := by
  refine CW_fn (xs := [Str.ofString "inst", Str.ofString "a", Str.ofString "key"]) (binds := [(Str.ofString "inst", .ref z), (Str.ofString "a", .ref one), (Str.ofString "key", .none)]) (vs := [some (.ref z), some (.ref one), some (.none)]) (n := n) H0 Wd (S0) r0
    (Wd.K _ _ (show List.lookup 262 (hd.heap_39 C.w.params) = some _ by k_is)) rfl (codeRec_of (K := hd.heap_39 C.w.params) Wd.K (by k_is)) rfl (Looks.of_pure (by kernel_rfl)) rfl ⟨rfl, rfl⟩ ⟨⟨rfl, rfl⟩, rfl⟩ (by kernel_rfl) (by kernel_rfl) (by kernel_rfl) (by decide +kernel) (by kernel_rfl) ?_
  k_search "in"
  obtain ⟨kks, kvs, kt, kI, knd, kk⟩ := p4
  obtain ⟨d, vals, zI, zd, hv, znd⟩ := p3
  have hil : i < nms.length := (List.getElem?_eq_some_iff.mp hx).1
  have vl : vals.length = nms.length := zd.len (C := C)
  have e1 : vals[i]? = some vals[i] := List.getElem?_eq_getElem (by omega)
  obtain ⟨vt, e2⟩ := hv.int_at _ _ e1
  rw [e2] at e1
  k_search "ss"
  k_search "tst"
  k_search "ss"
  refine ⟨fun e => absurd e (by decide), fun _ => ?_⟩
  k_search "ss"
  k_search "at1"
  k_search "ss"
  k_search "at1"
  refine W_sub_sd (zd.up H.le) znd (Kk.of_get hx e1) ?_
  k_search "ss"
  exact q _ _ H.drop
end

end
section
set_option maxHeartbeats 4000000
section
variable {C : Cfg} {A : Around} {g h : Heap} {V : Led} {n : Nat} {R : Result → Heap → Prop}
theorem eqof_ok {k l ea : Addr} {a1 a3 a5 : Value} (H0 : Hp C.w.params g V h) (Wd : Wld C g) (S0 : Stk A V) (r0 : Rm A (n + 1)) (p1 : Inst C.w.params g k 173 kdK [a1, .ref l, a3, .ref ea, a5]) (p2 : Lst g l [.ref k])
    (q : ∀ g' h', Le g g' → Hp C.w.params g' V h' → R (.ok (.ret (.ref ea))) h') : CW C A (.call (.ref 156) ⟨[.ref k], []⟩) R h := by
  refine CW_fn (xs := [Str.ofString "self", Str.ofString "one"]) (binds := [(Str.ofString "self", .ref k)]) (vs := [some (.ref k), none]) (n := n) H0 Wd (S0) r0
    (Wd.K _ _ (show List.lookup 156 (hd.heap_39 C.w.params) = some _ by k_is)) rfl (codeRec_of (K := hd.heap_39 C.w.params) Wd.K (by k_is)) rfl (Looks.of_pure (by kernel_rfl)) rfl ⟨rfl, rfl⟩ ⟨⟨rfl, rfl⟩, rfl⟩ (by kernel_rfl) (by kernel_rfl) (by kernel_rfl) (by decide +kernel) (by kernel_rfl) ?_
  k_search "in"
  refine W_execs (W_For ?_ (fun _ => rfl))
  k_search "ss"
  k_search "at1"
  refine W_iter_list r.hd p2 H ?_
  intro it h' IT H
  refine CW_for (R := fun _ _ => True) (IT _ _) (fun j g' V' => j = 0 ∧ Le g g' ∧ V' = (L, Sp.frm [Str.ofString "self", Str.ofString "one"] [some (.ref k), none]) :: V) ?_ H (Le.refl g) ⟨rfl, Le.refl g, rfl⟩ ?_ ?_
  · exact fun _ _ _ _ l ⟨a, b, c⟩ => ⟨a, b.trans l, c⟩
  · rintro j g1 V1 h1 v1 le1 hj ⟨rfl, le, rfl⟩ hy H
    dsimp only [List.cons_append] at H
    cases hy
    k_search "lift"
    k_search "ss"
    k_search "tst"
    k_search "ss"
    k_search "at1"
    k_search "tst"
    k_search "ss"
    k_search "isn"
    k_search "ss"
    refine ⟨fun _ => ?_, fun e => by cases e⟩
    k_search "ss"
    k_search "at1"
    k_search "ss"
    exact q g1 _ le H.drop.left
  · rintro g1 V1 h1 le1 ⟨e, _, _⟩ H
    cases e
end

end
section
set_option maxHeartbeats 4000000
section
variable {C : Cfg} {A : Around} {g h : Heap} {V : Led} {n : Nat} {R : Result → Heap → Prop}
def Fd (P : Params) (g : Heap) (a tv : Addr) (i : Nat) (x sh : Str) (sps : List VS) (hw m : Int) : Prop := ∃ t1 t2 t3 t4 vk cv, Inst P g a 344 atK [.str x t1, .ref 101, vk, .bool true, .none, .bool true, .none, .bool true, cv, .bool false, .bool false, .none, .str sh t4, .bool true] ∧ Vk P g vk tv i sps ∧ Cvt P g cv hw (.int m t2) (.str x t3)
theorem Fd.up {P : Params} {g g' : Heap} {a tv : Addr} {i : Nat} {x sh : Str} {sps : List VS} {hw m : Int} (f : Fd P g a tv i x sh sps hw m) (le : Le g g') : Fd P g' a tv i x sh sps hw m := let ⟨t1, t2, t3, t4, vk, cv, I, v, c⟩ := f; ⟨t1, t2, t3, t4, vk, cv, I.up le, v.up le, c.up le⟩
theorem Fd.nm {P : Params} {g : Heap} {a tv : Addr} {i : Nat} {x sh : Str} {sps : List VS} {hw m : Int} (f : Fd P g a tv i x sh sps hw m) : Nm P g a x := let ⟨t1, t2, t3, t4, vk, cv, I, v, c⟩ := f; ⟨_, _, t1, I, by decide +kernel, .head⟩
theorem Cvt.isi0 {v : Value} {m nm : Value} {E : Value → Heap → Prop} {Q : Value → Heap → Prop} {hw : Int} (x : Cvt C.w.params g v hw m nm) (Wd : Wld C g) (le : Le g h) (q : Q (.bool (hw != 0)) h) : W C A (call (.builtin "isinstance") [v, .ref 430]) Q E h := by
  rcases x with ⟨e, f, c, rfl, ⟨_, _, _, _, _, _, _, _, _, _, _, _, _, _, _, _, _, e2, _⟩, _⟩ | ⟨e, a, f, c1, c2, rfl, I, _⟩
  · exact W_isi_fn (b := false) (Wd.K.keeps le) (le _ _ e2) rfl (isi_of (by decide +kernel)) (by rw [e] at q; exact q)
  · exact W_isi_inst (b := true) (Wd.K.keeps le) (I.up le) (by decide) (isi_of (by decide +kernel)) (by rw [bne_iff_ne.mpr e] at q; exact q)
theorem Cvt.kpr {v : Value} {m nm : Value} {hw : Int} (x : Cvt C.w.params g v hw m nm) (le : Le g h) : Kpr C v h := by
  rcases x with ⟨e, f, c, rfl, ⟨_, _, _, _, _, _, _, _, _, _, _, _, _, fo⟩, _⟩ | ⟨e, a, f, c1, c2, rfl, ⟨dx, e2, _⟩, _⟩
  · exact fo.kpr le
  · exact Kpr.inst (le _ _ e2) rfl
theorem Cvt.hin {P : Params} {v : Value} {m nm : Value} {hw : Int} (x : Cvt P g v hw m nm) : handedIn v = true := by
  rcases x with ⟨e, f, c, rfl, _⟩ | ⟨e, a, f, c1, c2, rfl, _⟩ <;> rfl
theorem convert_ok {z one k tv : Addr} {i : Nat} {x sh : Str} {sps : List VS} {hw m v : Int} {t : Tok} {hv : Value} (H0 : Hp C.w.params g V h) (Wd : Wld C g) (S0 : Stk A V) (r0 : Rm A (n + 3)) (p1 : Fd C.w.params g one tv i x sh sps hw m) (p4 : Inst C.w.params g z 244 mdK [.ref k, hv]) (p5 : Kn C.w.params g k (Str.ofString "Row")) (hm : m ≠ 0)
    (q : ∀ t h', Hp C.w.params g V h' → R (.ok (.ret (.int (rd m v) t))) h') : CW C A (.call (.ref 516) ⟨[.ref z, .ref one, .int v t], []⟩) R h := by
  refine CW_fn (xs := [Str.ofString "instance", Str.ofString "attrib", Str.ofString "new_value", Str.ofString "c"]) (binds := [(Str.ofString "instance", .ref z), (Str.ofString "attrib", .ref one), (Str.ofString "new_value", .int v t)]) (vs := [some (.ref z), some (.ref one), some (.int v t), none]) (n := n + 2) H0 Wd (S0) r0
    (Wd.K _ _ (show List.lookup 516 (hd.heap_39 C.w.params) = some _ by k_is)) rfl (codeRec_of (K := hd.heap_39 C.w.params) Wd.K (by k_is)) rfl (Looks.of_pure (by kernel_rfl)) rfl ⟨rfl, rfl⟩ ⟨⟨rfl, rfl⟩, rfl⟩ (by kernel_rfl) (by kernel_rfl) (by kernel_rfl) (by decide +kernel) (by kernel_rfl) ?_
  k_search "in"
  have p6 := p1.nm
  obtain ⟨t1, t2, t3, t4, vk, cv, I, vk2, cvt⟩ := p1
  k_search "ss"
  refine W_getA H Wd I (by decide) (by k_search "mm") (by decide +kernel) (by k_search "kk") cvt.hin ?_
  k_search "ss"
  k_search "tst"
  k_search "ss"
  refine cvt.tru Wd H.le ?_
  refine ⟨fun _ => ?_, fun e => absurd e (by decide)⟩
  k_search "ss"
  k_search "tst"
  k_search "tst"
  k_search "ss"
  refine cvt.isi0 Wd H.le ?_
  k_search "ss"
  have kp := cvt.kpr H.le
  rcases cvt with ⟨e, f, c, rfl, c1, c2⟩ | ⟨e, a, f, c1, c2, rfl, c3, c4, c5, c6⟩
  · refine ⟨fun _ => ?_, fun e' => by simp [e] at e'⟩
    k_search "ss"
    refine ⟨kp, ?_⟩
    dsimp only [List.nil_append, List.cons_append, List.zip, List.zipWith, namesOf, Option.toList]
    refine W_call (plain_ok (n := n + 1) H Wd (by k_search "stk") r c1 c2 hm ?_)
    intro t h1 H
    k_search "ss"
    exact q _ _ H.drop
  · refine ⟨fun e' => by simp [e] at e', fun _ => ?_⟩
    k_search "ss"
    refine ⟨kp, ?_⟩
    dsimp only [List.nil_append, List.cons_append, List.zip, List.zipWith, namesOf, Option.toList]
    refine W_call (cvcall_ok (n := n) H Wd (by k_search "stk") r c3 c4 c5 c6 p4 p5 p6 hm ?_)
    intro t h1 H
    k_search "ss"
    exact q _ _ H.drop
theorem validate_ok {z one tv : Addr} {i : Nat} {x sh : Str} {sps : List VS} {hw m v : Int} {t : Tok} {kv : Value} {nvals : List Value} {nms : List Str} {row : List Int} (H0 : Hp C.w.params g V h) (Wd : Wld C g) (S0 : Stk A V) (r0 : Rm A (n + 3)) (p1 : Fd C.w.params g one tv i x sh sps hw m)
    (ok : ∀ s ∈ sps, okV i nms.length s) (p2 : Tp g tv nvals) (hn : StrsAre nvals nms) (p3 : Th C.w.params g z kv nms row) (hx : nms[i]? = some x) (hz : nms.length ≤ 4) (hl : x.length ≤ 10) (hv : v.natAbs < 1000)
    (q1 : sps.any (badV row i v) = false → ∀ g' h', Le g g' → Hp C.w.params g' V h' → R (.ok (.ret (.int v t))) h')
    (q2 : sps.any (badV row i v) = true → ∀ e g' h', Le g g' → Ex C.w.params (.type "ValueError") e (some .none) g' V h' → R (.error (.ref e)) h') :
    CW C A (.call (.ref 509) ⟨[.ref z, .ref one, .int v t], []⟩) R h := by
  refine CW_fn (xs := [Str.ofString "instance", Str.ofString "attrib", Str.ofString "new_value", Str.ofString "v"]) (binds := [(Str.ofString "instance", .ref z), (Str.ofString "attrib", .ref one), (Str.ofString "new_value", .int v t)]) (vs := [some (.ref z), some (.ref one), some (.int v t), none]) (n := n + 2) H0 Wd (S0) r0
    (Wd.K _ _ (show List.lookup 509 (hd.heap_39 C.w.params) = some _ by k_is)) rfl (codeRec_of (K := hd.heap_39 C.w.params) Wd.K (by k_is)) rfl (Looks.of_pure (by kernel_rfl)) rfl ⟨rfl, rfl⟩ ⟨⟨rfl, rfl⟩, rfl⟩ (by kernel_rfl) (by kernel_rfl) (by kernel_rfl) (by decide +kernel) (by kernel_rfl) ?_
  k_search "in"
  have p4 := p1.nm
  obtain ⟨t1, t2, t3, t4, vk, cv, I, vk2, cvt⟩ := p1
  k_search "ss"
  k_search "tst"
  k_search "ss"
  k_search "tst"
  k_search "ss"
  k_search "isn"
  k_search "ss"
  refine ⟨fun e => absurd e (by decide), fun _ => ?_⟩
  k_search "ss"
  rcases vk2 with ⟨rfl, rfl⟩ | ⟨a, rfl, av, hne⟩
  · k_search "at1"
    k_search "ss"
    k_search "tst"
    k_search "tst"
    k_search "ss"
    refine ⟨fun _ => ?_, fun e => absurd e (by decide)⟩
    k_search "ss"
    exact q1 rfl g _ (Le.refl g) H.drop
  · k_search "at1"
    k_search "ss"
    k_search "tst"
    k_search "tst"
    k_search "ss"
    have av' := av
    obtain ⟨tp, vls, aI, aT, a3, a4⟩ := av'
    refine W_truthy_inst (Wd.K.keeps H.le) (aI.up H.le) (by decide) ?_
    refine ⟨fun e => absurd e (by decide), fun _ => ?_⟩
    k_search "ss"
    k_search "expr2"
    k_search "ss"
    refine ⟨by obtain ⟨dx, e2, _⟩ := aI; exact Kpr.inst (H.le _ _ e2) rfl, ?_⟩
    dsimp only [List.nil_append, List.cons_append, List.zip, List.zipWith, namesOf, Option.toList]
    refine W_call (avcall_ok (n := n) H Wd (by k_search "stk") r av ok p2 hn p3 p4 hx hz hl hv ?_ ?_)
    · intro b g1 h1 l1 H
      replace Wd := Wd.up l1
      k_search "ss"
      exact q1 b g1 _ l1 H.drop
    · intro b e g1 h1 l1 X
      refine Be_ex (Sb.sf S (.head _) fun p hp => .tail _ hp) X (.inr (.inl rfl)) fun h' X => ?_
      exact q2 b e g1 _ l1 X.drop
end

end
section
set_option maxHeartbeats 4000000
section
variable {C : Cfg} {A : Around} {g h : Heap} {V : Led} {n : Nat} {R : Result → Heap → Prop}
theorem W_get_lstrip {x : Str} {t : Tok} {pl : Sem Bool} {E : Value → Heap → Prop} {Q : Value × List Value → Heap → Prop} (q : Q (.builtin "str.lstrip", [.str x t]) h) : W C A (getMethod (.str x t) "lstrip" pl) Q E h := fun k =>
  getMethod_builtin (s := C.sh h k) (T := "str") rfl F.plainAttrs_str F.slot_str_lstrip F.type_str_lstrip (fun b e => by cases e) (po q)
theorem W_lstripC {x y : Str} {t u : Tok} {E : Value → Heap → Prop} {Q : Value → Heap → Prop} (hz : x.length ≤ 1000) (q : ∀ t', Q (.str (Txt.lstripChars x y) t') h) : W C A (call (.builtin "str.lstrip") [.str x t, .str y u]) Q E h := fun k =>
  PySem.SC.lstripChars (fun t' k => po (q t')) (by rw [sizeLine_eq]; omega)
theorem alias_ok {x : Str} {t : Tok} (H0 : Hp C.w.params g V h) (Wd : Wld C g) (S0 : Stk A V) (r0 : Rm A (n + 1)) (hz : x.length ≤ 10)
    (q : ∀ t' h', Hp C.w.params g V h' → R (.ok (.ret (.str (Txt.lstripChars x (Str.ofString "_")) t'))) h') : CW C A (.call (.ref 295) ⟨[.str x t], []⟩) R h := by
  refine CW_fn (xs := [Str.ofString "name"]) (binds := [(Str.ofString "name", .str x t)]) (vs := [some (.str x t)]) (n := n) H0 Wd (S0) r0
    (Wd.K _ _ (show List.lookup 295 (hd.heap_39 C.w.params) = some _ by k_is)) rfl (codeRec_of (K := hd.heap_39 C.w.params) Wd.K (by k_is)) rfl (Looks.of_pure (by kernel_rfl)) rfl ⟨rfl, rfl⟩ ⟨⟨rfl, rfl⟩, rfl⟩ (by kernel_rfl) (by kernel_rfl) (by kernel_rfl) (by decide +kernel) (by kernel_rfl) ?_
  k_search "in"
  k_search "ss"
  refine W_CallM (fun _ => rfl) rfl ?_
  k_search "ss"
  refine W_callee rfl ?_
  refine W_get_lstrip ?_
  k_search "ss"
  refine W_lstripC (by omega) ?_
  intro t'
  k_search "ss"
  exact q _ _ H.drop
end

end
section
set_option maxHeartbeats 4000000
section
variable {C : Cfg} {A : Around} {g h : Heap} {V : Led} {n : Nat} {R : Result → Heap → Prop}
def rightI (ns : List Int) : Bool := if ns.getD 0 0 < -12 ∨ 12 < ns.getD (ns.length - 1) 0 then false else (List.range (ns.length - 1)).all fun i => !decide (ns.getD (i + 1) 0 < ns.getD i 0)
theorem right_ok {l : Addr} {vs : List Value} {ns : List Int} (H0 : Hp C.w.params g V h) (Wd : Wld C g) (S0 : Stk A V) (r0 : Rm A (n + 1)) (p1 : Lst g l vs) (hi1 : IntsAre vs ns) (hn : 0 < ns.length) (hz : ns.length ≤ 10)
    (q : ∀ g' h', Le g g' → Hp C.w.params g' V h' → R (.ok (.ret (.bool (rightI ns)))) h') : CW C A (.call (.ref 586) ⟨[.ref l], []⟩) R h := by
  refine CW_fnK (xs := []) (cn := [Str.ofString "row"]) (binds := [(Str.ofString "row", .ref l)]) (vs := []) (n := n) (ccl := (fun ca => [(Str.ofString "row", ca 0)])) (cled := (fun ca => [(ca 0, .cell (some (.ref l)))])) H0 Wd (S0) r0
    (Wd.K _ _ (show List.lookup 586 (hd.heap_39 C.w.params) = some _ by k_is)) rfl (codeRec_of (K := hd.heap_39 C.w.params) Wd.K (by k_is)) rfl (Looks.of_pure (by kernel_rfl)) rfl ⟨⟨rfl, rfl⟩, rfl⟩ ⟨⟨rfl, rfl⟩, rfl⟩ (by kernel_rfl) (by decide +kernel) (by kernel_rfl) (by kernel_rfl) (by kernel_rfl) (by decide +kernel) (by kernel_rfl) (fun _ => rfl) (fun _ => by kernel_rfl) ?_
  k_search "ink"
  k_search "ss"
  k_search "tst"
  refine W_or ?_
  k_search "tst"
  k_search "ss"
  k_search "nc"
  have hvl : vs.length = ns.length := hi1.length
  have at0 : ∀ j : Nat, j < ns.length → ∃ t, vs[j]? = some (.int (ns.getD j 0) t) := fun j hj => by
    have e1 : vs[j]? = some vs[j] := List.getElem?_eq_getElem (by omega)
    obtain ⟨t, e2⟩ := hi1.int_at _ _ e1
    exact ⟨t, by rw [e1, e2]⟩
  obtain ⟨t0, e0⟩ := at0 0 hn
  obtain ⟨t1, e1⟩ := at0 (ns.length - 1) (by omega)
  k_search "ss"
  refine W_sub_listN (j := 0) (p1.up H.le) rfl e0 (by omega) ?_
  k_search "tst"
  refine W_UnaryOp ?_
  k_search "ss"
  refine W_neg ?_
  intro
  k_search "ss"
  have fls : ns.getD 0 0 < -12 ∨ 12 < ns.getD (ns.length - 1) 0 → rightI ns = false := fun b => by unfold rightI; rw [if_pos b]
  refine ⟨fun b => ⟨fun _ => ?_, fun e => absurd e (by decide)⟩, fun b => W_or ?_⟩
  · k_search "ss"
    have := q g _ (Le.refl g) H.drop.drop
    rw [fls (.inl (of_decide_eq_true b))] at this
    exact this
  k_search "tst"
  k_search "ss"
  k_search "nc"
  refine W_UnaryOp ?_
  k_search "ss"
  refine W_neg ?_
  intro
  refine W_sub_listL (p1.up H.le) (by rw [hvl]; exact e1) ?_
  k_search "tst"
  k_search "ss"
  refine ⟨fun b2 => ⟨fun _ => ?_, fun e => absurd e (by decide)⟩, fun b2 => W_or_nil ⟨fun e => absurd e (by decide), fun _ => ?_⟩⟩
  · k_search "ss"
    have := q g _ (Le.refl g) H.drop.drop
    rw [fls (.inr (of_decide_eq_true b2))] at this
    exact this
  k_search "ss"
  refine W_UnaryOp ?_
  refine W_ListComp (cl' := [(Str.ofString "row", ca 0)]) (cxs := [Str.ofString "i"]) F ⟨rfl, by kernel_rfl, rfl, by kernel_rfl, by kernel_rfl, by decide +kernel⟩ ?_ (fun _ => rfl)
  k_search "tt"
  refine W_len_list (p1.up H.le) (by omega) ?_
  intro
  k_search "tt"
  refine W_range1 H ?_
  intro rg g1 h1 l1 Rg1 H
  replace Wd := Wd.up l1
  replace p1 := p1.up l1
  k_search "tt"
  refine W_iter_rangeN (n := ns.length - 1) r.hd Rg1 (by omega) (by omega) H ?_
  intro it S1 h1 IT H
  refine ⟨_, ns.length - 1, _, _, g1, fun i _ acc => acc.length ≤ i ∧ acc.isEmpty = (List.range i).all fun j => !decide (ns.getD (j + 1) 0 < ns.getD j 0), IT _ _, by omega, H, ⟨Nat.le_refl _, rfl⟩, fun _ _ _ _ _ e => e, ?_, ?_⟩
  · rintro i g' acc Cf D cen cvs v h3 le hi ⟨hJl, hJ⟩ ⟨ti, rfl⟩ F H
    obtain ⟨cv, rfl⟩ := one_of H
    replace Wd := Wd.up le
    replace p1 := p1.up le
    dsimp only [List.cons_append] at H
    k_search "tt"
    obtain ⟨tt1, b1⟩ := ints_at hi1 (j := i) (by omega)
    refine W_sub_listN (p1.up H.le) rfl b1 (by omega) ?_
    k_search "tt"
    obtain ⟨tt2, b2⟩ := ints_at hi1 (j := i + 1) (by omega)
    refine W_sub_listN (j := i + 1) (p1.up H.le) (by omega) b2 (by omega) ?_
    k_search "tt"
    refine Ite_b (fun e => ?_) (fun e => ?_)
    · k_search "tt"
      refine ⟨g', _, Le.refl g', ⟨by simp; omega, ?_⟩, H⟩
      rw [List.range_succ, List.all_append]
      simp only [List.all_cons, List.all_nil, Bool.and_true, e, Bool.not_true, Bool.and_false]
      cases acc <;> rfl
    · refine ⟨g', _, Le.refl g', ⟨by omega, ?_⟩, H⟩
      rw [List.range_succ, List.all_append, hJ]
      simp only [List.all_cons, List.all_nil, Bool.and_true, e, Bool.not_false]
  · rintro g2 D1 acc le2 ⟨hJl, hJ⟩ h2 H
    refine W_notv ?_
    refine W_truthy_list (H.at (s := .lst acc) (by k_search "mm")) (by omega) ?_
    k_search "tt"
    have := q g2 _ (l1.trans le2) H.drop.drop.drop
    have e : rightI ns = !!acc.isEmpty := by
      unfold rightI
      have e1 := of_decide_eq_false b
      have e2 := of_decide_eq_false b2
      rw [if_neg (by omega), hJ, Bool.not_not]
    rw [e] at this
    exact this
end

end
section
set_option maxHeartbeats 4000000
section
variable {C : Cfg} {A : Around} {g h : Heap} {V : Led} {n : Nat} {R : Result → Heap → Prop}
theorem at_make {nm d vk cv : Value} (H0 : Hp C.w.params g V h) (Wd : Wld C g) (S0 : Stk A V) (r0 : Rm A (n + 5)) (mt : (276, .tab deQ) ∈ V)
    (q : ∀ a dx g' h', Le g g' → Hp C.w.params g' ((a, .obj (instObj 344 dx)) :: (dx, .sd atK [nm, d, vk, .bool true, .none, .bool true, .none, .bool true, cv, .bool false, .bool false, .none, .none, .bool true]) :: V) h' → R (.ok (.ret (.ref a))) h') :
    CW C A (.call (.ref 344) ⟨[nm, d, vk, .none, .bool true, .bool false, cv, .bool false, .bool true, .none, .bool true, .none, .none, .none, .bool true], []⟩) R h :=
  have m := mk_of (P := C.w.params) (c := 344) (f := 310) (by decide)
  CW_make H0 Wd m.1 m.2.1 m.2.2 fun a dx _ H' => at_init H' Wd S0.under r0.under mt (q a dx)
theorem fca_ok {nm vk cv : Value} {ca : Addr} (H0 : Hp C.w.params g V h) (Wd : Wld C g) (S0 : Stk A V) (r0 : Rm A (n + 6)) (mt : (276, .tab deQ) ∈ V)
    (p1 : Inst C.w.params g ca 379 caK [.ref 101, vk, cv, .bool true, .none, .bool true, .none, .bool true, .none, .none, .none]) (hv : handedIn vk = true) (hc : handedIn cv = true)
    (q : ∀ a dx g' h', Le g g' → Hp C.w.params g' ((a, .obj (instObj 344 dx)) :: (dx, .sd atK [nm, .ref 101, vk, .bool true, .none, .bool true, .none, .bool true, cv, .bool false, .bool false, .none, .none, .bool true]) :: V) h' → R (.ok (.ret (.ref a))) h') :
    CW C A (.call (.ref 331) ⟨[.ref 344, nm, .ref ca, .bool false], []⟩) R h := by
  refine CW_fn (xs := [Str.ofString "cls", Str.ofString "name", Str.ofString "ca", Str.ofString "kw_only"]) (binds := [(Str.ofString "cls", .ref 344), (Str.ofString "name", nm), (Str.ofString "ca", .ref ca), (Str.ofString "kw_only", .bool false)]) (vs := [some (.ref 344), some (nm), some (.ref ca), some (.bool false)]) (n := n + 5) H0 Wd (S0) r0
    (Wd.K _ _ (show List.lookup 331 (hd.heap_39 C.w.params) = some _ by k_is)) rfl (codeRec_of (K := hd.heap_39 C.w.params) Wd.K (by k_is)) rfl (Looks.of_pure (by kernel_rfl)) rfl ⟨rfl, rfl⟩ ⟨⟨rfl, rfl⟩, rfl⟩ (by kernel_rfl) (by kernel_rfl) (by kernel_rfl) (by decide +kernel) (by kernel_rfl) ?_
  k_search "in"
  k_search "tt"
  refine W_call (at_make (n := n) H Wd (by k_search "stk") r (by k_search "mt") ?_)
  intro a dx g1 h1 l1 H
  k_search "tt"
  exact q a dx g1 _ l1 (H.perm ((List.Perm.swap _ _ _).cons _ |>.trans (.swap _ _ _))).drop
end

end
section
set_option maxHeartbeats 4000000
section
variable {C : Cfg} {A : Around} {g h : Heap} {V : Led} {n : Nat} {R : Result → Heap → Prop}
theorem base_ok {kd kdx mro sv : Addr} {kvs : List Value} (H0 : Hp C.w.params g V h) (Wd : Wld C g) (S0 : Stk A V) (r0 : Rm A (n + 1)) (k1 : (kd, Sp.obj (instObj 173 kdx)) ∈ V) (k2 : (kdx, Sp.sd kdK kvs) ∈ V) (kk : Kk kdK kvs (Str.ofString "mro") (.ref mro)) (p1 : Lst g mro [.ref kd])
    (q : ∀ a bl bm g' h', Le g g' → Tp g' a [.ref bl, .ref bm] → Lst g' bl [] → Hp C.w.params g' V h' → R (.ok (.ret (.ref a))) h') : CW C A (.call (.ref 123) ⟨[.ref kd, .ref sv], []⟩) R h := by
  refine CW_fn (xs := [Str.ofString "cls", Str.ofString "taken_attr_names", Str.ofString "base_attrs", Str.ofString "base_attr_map", Str.ofString "base_cls", Str.ofString "a"]) (binds := [(Str.ofString "cls", .ref kd), (Str.ofString "taken_attr_names", .ref sv)]) (vs := [some (.ref kd), some (.ref sv), none, none, none, none]) (n := n) H0 Wd (S0) r0
    (Wd.K _ _ (show List.lookup 123 (hd.heap_39 C.w.params) = some _ by k_is)) rfl (codeRec_of (K := hd.heap_39 C.w.params) Wd.K (by k_is)) rfl (Looks.of_pure (by kernel_rfl)) rfl ⟨rfl, rfl⟩ ⟨⟨rfl, rfl⟩, rfl⟩ (by kernel_rfl) (by kernel_rfl) (by kernel_rfl) (by decide +kernel) (by kernel_rfl) ?_
  k_search "in"
  k_search "tt"
  refine W_newList H (by simp) ?_
  intro D1 h1 H
  replace H := H.swap
  k_search "tt"
  refine W_Dict0 H Wd ?_
  intro D2 h1 H
  replace H := H.swap
  k_search "tt"
  refine W_For ?_ (fun _ => rfl)
  k_search "tt"
  refine W_getI (Wd.K.keeps H.le) (cl_of (by decide)) (na_of' (by k_search "mm")) (H.inst (x := kd) (c := 173) (.tail _ (.tail _ (.tail _ k1))) (.tail _ (.tail _ (.tail _ k2)))) (by decide +kernel) kk rfl ?_
  refine W_SliceE (W_part ?_)
  k_search "tt"
  refine W_part0 ⟨_, _, H, ?_⟩
  intro sl g1 h1 l1 hs H
  replace Wd := Wd.up l1
  replace p1 := p1.up l1
  refine W_subSl H (p1.up H.le) (by simp) hs (.int _ _) .none ?_
  intro D3 g2 h1 l2 L3 H
  replace Wd := Wd.up l2
  have e0 : (slicePick [Value.ref kd].toArray (some 1) none none).toList = [] := by kernel_rfl
  rw [e0] at L3
  refine W_iter_list r.hd L3 H ?_
  intro it h' IT H
  refine CW_for (R := fun _ _ => True) (IT _ _) (fun j g' V' => Le g2 g' ∧ V' = (L, Sp.frm [Str.ofString "cls", Str.ofString "taken_attr_names", Str.ofString "base_attrs", Str.ofString "base_attr_map", Str.ofString "base_cls", Str.ofString "a"] [some (.ref kd), some (.ref sv), some (.ref D1), some (.ref D2), none, none]) :: (D2, .sd [] []) :: (D1, .lst []) :: V) ?_ H (Le.refl g2) ⟨Le.refl g2, rfl⟩ ?_ ?_
  · exact fun _ _ _ _ l ⟨a, b⟩ => ⟨a.trans l, b⟩
  · rintro j g1 V1 h1 v1 le1 hj
    exact absurd hj (Nat.not_lt_zero _)
  · rintro g3 V1 h1 le1 ⟨le, rfl⟩ H
    replace Wd := Wd.up le
    k_search "tt"
    refine W_newTuple H (by simp) ?_
    intro tp g4 h2 l4 T4 H
    k_search "tt"
    obtain ⟨g5, l5, s5, H5⟩ := H.give
    obtain ⟨g6, l6, s6, H6⟩ := H5.give
    have s6 : Lst g6 D1 [] := s6
    exact q tp D1 D2 g6 _ (l1.trans (l2.trans (le.trans (l4.trans (l5.trans l6))))) (T4.up (l5.trans l6)) s6 H6.drop
end

end
section
set_option maxHeartbeats 4000000
section
variable {C : Cfg} {A : Around} {g h : Heap} {V : Led} {n : Nat} {R : Result → Heap → Prop}
structure Kc where
  nms : List Str
  shs : List Str
  spss : List (List VS)
  hw : Int
  m : Int
structure Kc.Ok (c : Kc) : Prop where
  nd1 : c.nms.Nodup
  nd2 : c.shs.Nodup
  l1 : c.shs.length = c.nms.length
  l2 : c.spss.length = c.nms.length
  z : c.nms.length ≤ 4
  m0 : 0 < c.m
  m9 : c.m ≤ 9
  sh : ∀ (i : Nat) (x : Str), c.nms[i]? = some x → c.shs[i]? = some (Txt.lstripChars x (Str.ofString "_"))
  s1 : ∀ x ∈ c.nms, Shrt x
  s2 : ∀ x ∈ c.shs, Shrt x ∧ x.length ≠ 0
  okv : ∀ (i : Nat) (sps : List VS), c.spss[i]? = some sps → ∀ s ∈ sps, okV i c.nms.length s
def Tab (P : Params) (g : Heap) (td tv : Addr) (c : Kc) : Prop := ∃ cas, Sd P g td c.nms cas ∧ ∀ (j : Nat) (v : Value), cas[j]? = some v → ∃ ca vk cv sps x t2 t3, v = .ref ca ∧ Inst P g ca 379 caK [.ref 101, vk, cv, .bool true, .none, .bool true, .none, .bool true, .none, .none, .none] ∧
  c.nms[j]? = some x ∧ c.spss[j]? = some sps ∧ Vk P g vk tv j sps ∧ Cvt P g cv c.hw (.int c.m t2) (.str x t3)
theorem Tab.up {P : Params} {g g' : Heap} {td tv : Addr} {c : Kc} (t : Tab P g td tv c) (le : Le g g') : Tab P g' td tv c :=
  let ⟨cas, s, f⟩ := t; ⟨cas, s.up le, fun j v e => let ⟨ca, vk, cv, sps, x, t2, t3, a, b, b1, b2, d, e'⟩ := f j v e; ⟨ca, vk, cv, sps, x, t2, t3, a, b.up le, b1, b2, d.up le, e'.up le⟩⟩
structure AR where
  a : Addr
  dx : Addr
  x : Str
  t : Tok
  vk : Value
  cv : Value
abbrev atV (p : AR × Value) : List Value := [.str p.1.x p.1.t, .ref 101, p.1.vk, .bool true, .none, .bool true, .none, .bool true, p.1.cv, .bool false, .bool false, .none, p.2, .bool true]
def arS (p : AR × Value) : Led := [(p.1.a, .obj (instObj 344 p.1.dx)), (p.1.dx, .sd atK (atV p))]
def arL (rs : List (AR × Value)) : Led := rs.flatMap arS
theorem arL_app (a b : List (AR × Value)) : arL (a ++ b) = arL a ++ arL b := List.flatMap_append
def ArOk (P : Params) (g : Heap) (tv : Addr) (c : Kc) (j : Nat) (r : AR) : Prop := ∃ sps t2 t3, c.nms[j]? = some r.x ∧ c.spss[j]? = some sps ∧ Vk P g r.vk tv j sps ∧ Cvt P g r.cv c.hw (.int c.m t2) (.str r.x t3)
theorem ArOk.up {P : Params} {g g' : Heap} {tv : Addr} {c : Kc} {j : Nat} {r : AR} (t : ArOk P g tv c j r) (le : Le g g') : ArOk P g' tv c j r := let ⟨sps, t2, t3, a, b, d, e⟩ := t; ⟨sps, t2, t3, a, b, d.up le, e.up le⟩
def ArsOk (P : Params) (g : Heap) (tv : Addr) (c : Kc) (rs : List AR) : Prop := ∀ (j : Nat) (r : AR), rs[j]? = some r → ArOk P g tv c j r
theorem Vk.hin {P : Params} {v : Value} {tv : Addr} {i : Nat} {sps : List VS} (x : Vk P g v tv i sps) : handedIn v = true := by
  rcases x with ⟨rfl, _⟩ | ⟨a, rfl, _⟩ <;> rfl
theorem arL_at {rs : List (AR × Value)} {i : Nat} {p : AR × Value} (e : rs[i]? = some p) : (p.1.a, Sp.obj (instObj 344 p.1.dx)) ∈ arL rs ∧ (p.1.dx, Sp.sd atK (atV p)) ∈ arL rs :=
  ⟨List.mem_flatMap.mpr ⟨p, List.mem_of_getElem? e, .head _⟩, List.mem_flatMap.mpr ⟨p, List.mem_of_getElem? e, .tail _ (.head _)⟩⟩
theorem arL_up {al : Value} : ∀ {ps : List (AR × Value)} {j : Nat} {p : AR × Value}, ps[j]? = some p → Up p.1.dx (.sd atK (atV p)) (.sd atK (atV (p.1, al))) (arL ps) (arL (ps.set j (p.1, al)))
  | q :: r, 0, p, e => by cases e; exact .tail .head
  | q :: r, j + 1, p, e => .tail (.tail (arL_up (by simpa using e)))
  | [], _, _, e => by simp at e
theorem Up.same {a : Addr} {s : Sp} : ∀ {W1 : Led}, (a, s) ∈ W1 → Up a s s W1 W1
  | _ :: _, .head _ => .head
  | _ :: _, .tail _ m => .tail (Up.same m)
theorem List.set_getElem?_self' {α : Type} {a : α} : ∀ {l : List α} {j : Nat}, l[j]? = some a → l.set j a = l
  | _ :: _, 0, e => by cases e; rfl
  | x :: r, j + 1, e => congrArg (x :: ·) (List.set_getElem?_self' (by simpa using e))
  | [], _, e => by simp at e
def Fls (P : Params) (g : Heap) (tv : Addr) (c : Kc) (fs : List Value) : Prop := fs.length = c.nms.length ∧ ∀ (i : Nat) (v : Value), fs[i]? = some v → ∃ a x sh sps, v = .ref a ∧ c.nms[i]? = some x ∧ c.shs[i]? = some sh ∧ c.spss[i]? = some sps ∧ Fd P g a tv i x sh sps c.hw c.m
theorem Fls.up {P : Params} {g g' : Heap} {tv : Addr} {c : Kc} {fs : List Value} (f : Fls P g tv c fs) (le : Le g g') : Fls P g' tv c fs := ⟨f.1, fun i v e => let ⟨a, x, sh, sps, b, c1, d, e1, f1⟩ := f.2 i v e; ⟨a, x, sh, sps, b, c1, d, e1, f1.up le⟩⟩
abbrev taX : List Str := [Str.ofString "cls", Str.ofString "these", Str.ofString "collect_by_mro", Str.ofString "field_transformer", Str.ofString "own_attrs", Str.ofString "base_attrs", Str.ofString "base_attr_map", Str.ofString "attrs", Str.ofString "a", Str.ofString "had_default", Str.ofString "msg"]
theorem trans_ok {kd kdx mro td tv : Addr} {kvs : List Value} {c : Kc} {tk : Tok} (ok : c.Ok) (H0 : Hp C.w.params g V h) (Wd : Wld C g) (S0 : Stk A V) (r0 : Rm A (n + 7)) (mt : (276, .tab deQ) ∈ V) (k1 : (kd, Sp.obj (instObj 173 kdx)) ∈ V) (k2 : (kdx, Sp.sd kdK kvs) ∈ V) (kk : Kk kdK kvs (Str.ofString "mro") (.ref mro)) (p1 : Lst g mro [.ref kd]) (p2 : Tab C.w.params g td tv c)
    (q : ∀ a at_ bl bm fs g' h', Le g g' → Tp g' a [.ref at_, .ref bl, .ref bm] → Tp g' at_ fs → Fls C.w.params g' tv c fs → Hp C.w.params g' V h' → R (.ok (.ret (.ref a))) h') : CW C A (.call (.ref 128) ⟨[.ref kd, .ref td, .str (Str.ofString "no") tk, .bool false, .none], []⟩) R h := by
  refine CW_fnK (xs := [Str.ofString "cls", Str.ofString "these", Str.ofString "collect_by_mro", Str.ofString "field_transformer", Str.ofString "own_attrs", Str.ofString "base_attrs", Str.ofString "base_attr_map", Str.ofString "attrs", Str.ofString "a", Str.ofString "had_default", Str.ofString "msg"]) (cn := [Str.ofString "kw_only"]) (binds := [(Str.ofString "cls", .ref kd), (Str.ofString "these", .ref td), (Str.ofString "kw_only", .str (Str.ofString "no") tk), (Str.ofString "collect_by_mro", .bool false), (Str.ofString "field_transformer", .none)]) (vs := [some (.ref kd), some (.ref td), some (.bool false), some (.none), none, none, none, none, none, none, none]) (n := n + 6) (ccl := (fun ca => [(Str.ofString "kw_only", ca 0)])) (cled := (fun ca => [(ca 0, .cell (some (.str (Str.ofString "no") tk)))])) H0 Wd (S0) r0
    (Wd.K _ _ (show List.lookup 128 (hd.heap_39 C.w.params) = some _ by k_is)) rfl (codeRec_of (K := hd.heap_39 C.w.params) Wd.K (by k_is)) rfl (Looks.of_pure (by kernel_rfl)) rfl ⟨⟨rfl, rfl⟩, rfl⟩ ⟨⟨rfl, rfl⟩, rfl⟩ (by kernel_rfl) (by decide +kernel) (by kernel_rfl) (by kernel_rfl) (by kernel_rfl) (by decide +kernel) (by kernel_rfl) (fun _ => rfl) (fun _ => by kernel_rfl) ?_
  k_search "ink"
  k_search "tt"
  refine W_AssignLCV (cl' := [(Str.ofString "kw_only", ca 0)]) (cxs := [Str.ofString "attr_name", Str.ofString "ca"]) F ⟨rfl, by kernel_rfl, rfl, by kernel_rfl, by kernel_rfl, by decide +kernel⟩ (F.env (P := fun en => swapsWith _ _ _ en = pure true) fun _ _ _ _ _ _ _ _ _ _ _ => by kernel_rfl) ?_ (fun _ => rfl)
  refine W_CallM (fun _ => rfl) rfl ?_
  k_search "tt"
  obtain ⟨cas, sd, cf⟩ := p2
  refine W_callee rfl ?_
  refine W_get_items (sd.up H.le) ?_
  k_search "tt"
  refine W_items H (sd.up H.le) ok.nd1 ?_
  intro vw g1 h1 l1 Vw1 H
  replace Wd := Wd.up l1
  replace p1 := p1.up l1
  replace sd := sd.up l1
  k_search "tt"
  refine W_iter_itemsN r.hd sd ok.nd1 Vw1 H ?_
  intro it S1 h1 IT H
  refine ⟨_, c.nms.length, _, _, g1, fun i g' acc W1 => ∃ rs : List AR, rs.length = i ∧ acc = rs.map (fun r => Value.ref r.a) ∧ ArsOk C.w.params g' tv c rs ∧ W1 = (L, Sp.frm taX [some (.ref kd), some (.ref td), some (.bool false), some .none, none, none, none, none, none, none, none]) :: (ca 0, Sp.cell (some (.str (Str.ofString "no") tk))) :: (arL (rs.map fun r => (r, .none)) ++ V), IT _ _ _, by have := ok.z; omega, H, ⟨[], rfl, rfl, fun j r e => by simp at e, rfl⟩, ?_, ?_, ?_⟩
  · rintro i g2 g3 acc W1 le ⟨rs, a, b, d, e⟩
    exact ⟨rs, a, b, fun j r q => (d j r q).up le, e⟩
  · rintro i g2 acc W1 Cf D cen cvs v h3 le hi ⟨rs, rl, rfl, ro, rfl⟩ ⟨ta, x, tx, y, rfl, hx, hy, tp⟩ F H
    obtain ⟨cv1, cv2, rfl⟩ := two_of H
    obtain ⟨ca1, vk, cv, sps, x', t2, t3, rfl, cI, e1, e2, e3, e4⟩ := cf i y hy
    rw [hx] at e1
    cases e1
    replace Wd := Wd.up le
    replace cI := cI.up (l1.trans le)
    dsimp only [List.cons_append] at H
    refine W_asI r.hd H tp rfl rfl ?_
    intro h4 H
    k_search "tt"
    refine W_CallM (fun _ => rfl) rfl ?_
    k_search "tt"
    refine W_callee rfl ?_
    refine W_methCM H Wd ?_
    intro mo g4 h5 l4 Mo H
    replace Wd := Wd.up l4
    replace cI := cI.up l4
    k_search "tt"
    refine ⟨Kpr.meth (C := C) (H.le _ _ Mo) (H.le _ _ (Wd.K _ _ (show List.lookup 331 (hd.heap_39 C.w.params) = some _ by k_is))) rfl, ?_⟩
    dsimp only [List.nil_append, List.cons_append, List.zip, List.zipWith, namesOf, Option.toList]
    have sub : ∀ p ∈ V, p ∈ (Cf, Sp.frm [Str.ofString "attr_name", Str.ofString "ca"] [some (.str x tx), some (.ref ca1)]) :: (D, Sp.lst (rs.map fun r => Value.ref r.a)) :: (L, Sp.frm taX [some (Value.ref kd), some (Value.ref td), some (Value.bool false), some Value.none, none, none, none, none, none, none, none]) :: (ca 0, Sp.cell (some (Value.str (Str.ofString "no") tk))) :: ((arL (rs.map fun r => (r, Value.none)) ++ V) ++ S1 (i + 1)) := fun p hp => .tail _ (.tail _ (.tail _ (.tail _ (List.mem_append_left _ (List.mem_append_right _ hp)))))
    refine W_call (CW_method (H.le _ _ Mo) (fca_ok (n := n) H Wd (Sb.stk S (by k_search "mm") sub) r (sub _ mt) cI e3.hin e4.hin ?_))
    intro a dx g5 h6 l5 H
    k_search "tt"
    refine ⟨g5, [some (.str x tx), some (.ref ca1)], (L, Sp.frm taX [some (Value.ref kd), some (Value.ref td), some (Value.bool false), some Value.none, none, none, none, none, none, none, none]) :: (ca 0, Sp.cell (some (Value.str (Str.ofString "no") tk))) :: (arL ((rs ++ [AR.mk a dx x tx vk cv]).map fun r => (r, Value.none)) ++ V), l4.trans l5, ⟨rs ++ [AR.mk a dx x tx vk cv], by simp [rl], by simp, ?_, rfl⟩, H.perm ?_⟩
    · intro j r1 hj
      rcases Nat.lt_trichotomy j rs.length with h1 | h1 | h1
      · rw [List.getElem?_append_left h1] at hj
        exact ((ro j r1 hj).up l4).up l5
      · subst h1
        rw [List.getElem?_append_right (Nat.le_refl _), Nat.sub_self] at hj
        cases hj
        rw [rl]
        have lg : Le g g5 := l1.trans (le.trans (l4.trans l5))
        exact ⟨sps, t2, t3, hx, e2, e3.up lg, e4.up lg⟩
      · rw [List.getElem?_append_right (by omega)] at hj
        rw [List.getElem?_eq_none (by simp; omega)] at hj
        cases hj
    · have := List.perm_append_comm_assoc [(a, Sp.obj (instObj 344 dx)), (dx, Sp.sd atK [.str x tx, .ref 101, vk, .bool true, .none, .bool true, .none, .bool true, cv, .bool false, .bool false, .none, .none, .bool true])] ((Cf, Sp.frm [Str.ofString "attr_name", Str.ofString "ca"] [some (.str x tx), some (.ref ca1)]) :: (D, Sp.lst (rs.map fun r => Value.ref r.a)) :: (L, Sp.frm taX [some (Value.ref kd), some (Value.ref td), some (Value.bool false), some Value.none, none, none, none, none, none, none, none]) :: (ca 0, Sp.cell (some (Value.str (Str.ofString "no") tk))) :: arL (rs.map fun r => (r, Value.none))) (V ++ S1 (i + 1))
      rw [List.map_append, arL_app]
      simpa only [List.cons_append, List.nil_append, List.append_assoc, arL, List.map_cons, List.map_nil, List.flatMap_cons, List.flatMap_nil, arS, List.append_nil] using this
  · rintro g2 D acc W1 le2 ⟨rs, rl, rfl, ro, rfl⟩
    refine ⟨_, _, _, rfl, by k_search "st", ?_⟩
    intro h2 H
    replace Wd := Wd.up le2
    replace p1 := p1.up le2
    obtain ⟨g3, l3, s3, H3⟩ := H.give
    clear H
    have H := H3
    clear H3
    replace Wd := Wd.up l3
    replace p1 := p1.up l3
    have ro : ArsOk C.w.params g3 tv c rs := fun j r e => (ro j r e).up l3
    have s3 : Lst g3 D (rs.map fun r => Value.ref r.a) := s3
    k_search "tt"
    refine W_SetComp (cl' := []) (cxs := [Str.ofString "a"]) F ⟨rfl, by kernel_rfl, rfl, by kernel_rfl, by kernel_rfl, by decide +kernel⟩ ?_ (fun _ => rfl)
    k_search "tt"
    refine W_iter_list r.hd s3 H ?_
    intro it h3 IT H
    refine ⟨_, _, _, _, g3, IT _ _, by have := ok.z; simp [rl]; omega, H, ?_, ?_⟩
    · rintro i g' Cf D2 cen cvs p v h4 le hi hy F H
      replace Wd := Wd.up le
      obtain ⟨cv, rfl⟩ := one_of H
      dsimp only [List.cons_append] at H
      rw [List.getElem?_map] at hy
      obtain ⟨r1, hr, rfl⟩ := Option.map_eq_some_iff.mp hy
      obtain ⟨m1, m2⟩ := arL_at (rs := rs.map fun r => (r, Value.none)) (i := i) (p := (r1, .none)) (by rw [List.getElem?_map, hr]; rfl)
      k_search "tt"
      refine W_getI (Wd.K.keeps H.le) (cl_of (by decide)) (na_of' (by k_search "mm")) (H.inst (c := 344) (.tail _ (.tail _ (.tail _ (.tail _ (List.mem_append_left _ (List.mem_append_left _ m1)))))) (.tail _ (.tail _ (.tail _ (.tail _ (List.mem_append_left _ (List.mem_append_left _ m2))))))) (by decide +kernel) (by k_search "kk") rfl ?_
      exact ⟨g', _, _, _, rfl, Le.refl g', H⟩
    · rintro g4 D2 h4 l4 H
      replace Wd := Wd.up l4
      replace p1 := p1.up l4
      k_search "tt"
      have sub : ∀ p ∈ V, p ∈ (L, Sp.frm taX [some (Value.ref kd), some (Value.ref td), some (Value.bool false), some Value.none, some (.ref D), none, none, none, none, none, none]) :: (ca 0, Sp.cell (some (Value.str (Str.ofString "no") tk))) :: (arL (rs.map fun r => (r, Value.none)) ++ V) := fun p hp => .tail _ (.tail _ (List.mem_append_right _ hp))
      refine W_call (base_ok (n := n + 5) H Wd (Sb.stk S (by k_search "mm") sub) r (sub _ k1) (sub _ k2) kk p1 ?_)
      intro ta bl bm g5 h5 l5 T5 B5 H
      replace Wd := Wd.up l5
      replace p1 := p1.up l5
      k_search "tt"
      refine W_asT r.hd H T5 rfl rfl ?_
      intro h6 H
      k_search "tt"
      refine W_addL H (B5.up H.le) (((s3.up l4).up l5).up H.le) (by have := ok.z; simp [rl]; omega) ?_
      intro D3 h7 H
      replace H := H.swap
      k_search "tt"
      obtain ⟨g6, l6, s6, H6⟩ := H.give
      clear H
      have H := H6
      clear H6
      replace Wd := Wd.up l6
      have s6 : Lst g6 D3 (rs.map fun r => Value.ref r.a) := s6
      have ro : ArsOk C.w.params g6 tv c rs := fun j r e => (((ro j r e).up l4).up l5).up l6
      refine W_For ?_ (fun _ => rfl)
      k_search "tt"
      refine W_iter_list r.hd s6 H ?_
      intro it h8 IT H
      refine CW_for (R := fun _ _ => True) (IT _ _) (fun j g' V' => Le g6 g' ∧ ∃ ps vv, ps.map (·.1) = rs ∧ (∀ (i : Nat) (p : AR × Value), ps[i]? = some p → if i < j then ∃ t, p.2 = .str (Txt.lstripChars p.1.x (Str.ofString "_")) t else p.2 = .none) ∧
        V' = (L, Sp.frm taX [some (Value.ref kd), some (Value.ref td), some (Value.bool false), some Value.none, some (.ref D), some (.ref bl), some (.ref bm), some (.ref D3), vv, none, none]) :: (ca 0, Sp.cell (some (Value.str (Str.ofString "no") tk))) :: (arL ps ++ V)) ?_ H (Le.refl g6)
        ⟨Le.refl g6, rs.map fun r => (r, Value.none), none, by rw [List.map_map]; exact List.map_id' _, fun i p e => by rw [if_neg (Nat.not_lt_zero _)]; rw [List.getElem?_map] at e; obtain ⟨r1, _, rfl⟩ := Option.map_eq_some_iff.mp e; rfl, rfl⟩ ?_ ?_
      · rintro i g g' V1 l ⟨a, b⟩
        exact ⟨a.trans l, b⟩
      · rintro j g7 V1 h9 v le7 hj ⟨_, ps, vv, hps, hal, rfl⟩ hy H
        dsimp only [List.cons_append] at H
        replace Wd := Wd.up le7
        rw [List.getElem?_map] at hy
        obtain ⟨r1, hr, rfl⟩ := Option.map_eq_some_iff.mp hy
        obtain ⟨p, hp, rfl⟩ : ∃ p, ps[j]? = some p ∧ p.1 = r1 := by
          rw [← hps, List.getElem?_map] at hr
          exact Option.map_eq_some_iff.mp hr
        have hpn := hal j p hp
        rw [if_neg (Nat.lt_irrefl _)] at hpn
        obtain ⟨r1, pv⟩ := p
        dsimp only at hpn
        subst hpn
        obtain ⟨m1, m2⟩ := arL_at hp
        dsimp only at m1 m2
        k_search "tt"
        have M : ∀ {a b : Addr × Sp} {X : Led} {q : Addr × Sp}, q ∈ arL ps → q ∈ a :: b :: ((arL ps ++ V) ++ X) := fun m => .tail _ (.tail _ (List.mem_append_left _ (List.mem_append_left _ m)))
        have MV : ∀ {a b : Addr × Sp} {X : Led}, ∀ q ∈ V, q ∈ a :: b :: ((arL ps ++ V) ++ X) := fun q m => .tail _ (.tail _ (List.mem_append_left _ (List.mem_append_right _ m)))
        refine W_getI (Wd.K.keeps H.le) (cl_of (by decide)) (na_of' (by k_search "mm")) (H.inst (c := 344) (M m1) (M m2)) (by decide +kernel) (by k_search "kk") rfl ?_
        k_search "tt"
        refine W_getI (Wd.K.keeps H.le) (cl_of (by decide)) (na_of' (by k_search "mm")) (H.inst (c := 344) (M m1) (M m2)) (by decide +kernel) (by k_search "kk") rfl ?_
        k_search "tt"
        obtain ⟨sps, t2, t3, e1, e2, e3, e4⟩ := ro j r1 (by rw [← hps, List.getElem?_map, hp]; rfl)
        refine W_call (alias_ok (n := n + 5) H Wd (Sb.stk S (by k_search "mm") MV) r (ok.s1 _ (List.mem_of_getElem? e1)).1 ?_)
        intro t' h10 H
        k_search "tt"
        refine W_setI Wd.K (cl_of (by decide)) (na_of' (by k_search "mm")).taker H (H.at (s := .obj _) (M m1)) (Up.tail (.tail (Up.apr (Up.apr (arL_up (al := .str (Txt.lstripChars r1.x (Str.ofString "_")) t') hp))))) (Pu.old (by decide +kernel) (by k_search "ks")) (by decide) ?_
        intro h11 H
        k_search "tt"
        have hp2 : (ps.set j (r1, .str (Txt.lstripChars r1.x (Str.ofString "_")) t'))[j]? = some (r1, .str (Txt.lstripChars r1.x (Str.ofString "_")) t') := List.getElem?_set_self (List.getElem?_eq_some_iff.mp hp).1
        obtain ⟨m3, m4⟩ := arL_at hp2
        dsimp only at m3 m4
        refine W_setI Wd.K (cl_of (by decide)) (na_of' (by k_search "mm")).taker H (H.at (s := .obj _) (.tail _ (.tail _ (List.mem_append_left _ (List.mem_append_left _ m3))))) (Up.tail (.tail (Up.apr (Up.apr (Up.same m4))))) (Pu.old (by decide +kernel) (by k_search "ks")) (by decide) ?_
        intro h12 H
        k_search "tt"
        refine ⟨g7, _, Le.refl g7, ⟨le7, _, _, ?_, ?_, rfl⟩, H⟩
        · rw [List.map_set, hps]
          have : rs[j]? = some r1 := by rw [← hps, List.getElem?_map, hp]; rfl
          exact List.set_getElem?_self' this
        · intro i p e
          rw [List.getElem?_set] at e
          by_cases hij : j = i
          · subst hij
            rw [if_pos rfl, if_pos (List.getElem?_eq_some_iff.mp hp).1] at e
            cases e
            rw [if_pos (Nat.lt_succ_self _)]
            exact ⟨_, rfl⟩
          · rw [if_neg hij] at e
            have := hal i p e
            by_cases hlt : i < j
            · rw [if_pos hlt] at this
              rw [if_pos (by omega)]
              exact this
            · rw [if_neg hlt] at this
              rw [if_neg (by omega)]
              exact this
      · rintro g7 V1 h9 le7 ⟨_, ps, vv, hps, hal, rfl⟩ H
        replace Wd := Wd.up le7
        have ro : ArsOk C.w.params g7 tv c rs := fun j r e => (ro j r e).up le7
        replace s6 := s6.up le7
        have psl : ps.length = rs.length := by rw [← hps, List.length_map]
        obtain ⟨g8, l8, sat8, H8⟩ := Hp.giveL (X := [(L, Sp.frm taX [some (Value.ref kd), some (Value.ref td), some (Value.bool false), some Value.none, some (.ref D), some (.ref bl), some (.ref bm), some (.ref D3), vv, none, none]), (ca 0, Sp.cell (some (.str (Str.ofString "no") tk)))]) (Y := arL ps) H
        clear H
        have H := H8
        clear H8
        dsimp only [List.cons_append, List.nil_append] at H
        replace Wd := Wd.up l8
        replace s6 := s6.up l8
        have fs : Fls C.w.params g8 tv c (rs.map fun r => Value.ref r.a) := by
          refine ⟨by rw [List.length_map, rl], fun i v e => ?_⟩
          rw [List.getElem?_map] at e
          obtain ⟨r1, hr, rfl⟩ := Option.map_eq_some_iff.mp e
          obtain ⟨p, hp, rfl⟩ : ∃ p, ps[i]? = some p ∧ p.1 = r1 := by
            rw [← hps, List.getElem?_map] at hr
            exact Option.map_eq_some_iff.mp hr
          obtain ⟨t4, e4⟩ : ∃ t, p.2 = .str (Txt.lstripChars p.1.x (Str.ofString "_")) t := by
            have := hal i p hp
            rwa [if_pos (by have := (List.getElem?_eq_some_iff.mp hp).1; rw [List.length_map]; omega)] at this
          obtain ⟨m1, m2⟩ := arL_at hp
          have q1 := sat8 _ m1
          have q2 := sat8 _ m2
          obtain ⟨sps, t2, t3, e1, e2, e3, e5⟩ := (ro i _ hr).up l8
          refine ⟨p.1.a, p.1.x, _, sps, rfl, e1, ok.sh i _ e1, e2, p.1.t, t2, t3, t4, p.1.vk, p.1.cv, ⟨p.1.dx, q1, ?_⟩, e3, e5⟩
          have q2 : Sd C.w.params g8 p.1.dx atK (atV p) := q2
          unfold atV at q2
          rwa [e4] at q2
        generalize hvals : (rs.map fun r => Value.ref r.a) = vals at fs s6
        have vl : vals.length = c.nms.length := fs.1
        have zz := ok.z
        clear ro hal sat8 psl hps
        k_search "tt"
        refine W_For ?_ (fun _ => rfl)
        refine W_ListComp (cl' := []) (cxs := [Str.ofString "one"]) F ⟨rfl, by kernel_rfl, rfl, by kernel_rfl, by kernel_rfl, by decide +kernel⟩ ?_ (fun _ => rfl)
        k_search "tt"
        refine W_iter_list r.hd s6 H ?_
        intro it2 h10 IT2 H
        refine ⟨_, vals.length, _, _, g8, fun i _ acc => acc = vals.take i, IT2 _ _, by omega, H, rfl, fun _ _ _ _ _ e => e, ?_, ?_⟩
        · rintro i g' acc Cf D5 cen cvs v h4 le hi rfl hy F H
          obtain ⟨cv, rfl⟩ := one_of H
          dsimp only [List.cons_append] at H
          replace Wd := Wd.up le
          obtain ⟨a, x, sh, sps, rfl, e1, e2, e3, t1, t2, t3, t4, vk, cv2, I, _, _⟩ := fs.2 i v hy
          replace I := I.up le
          k_search "tt"
          exact ⟨g', _, Le.refl g', by show _ = List.take (i + 1) vals; rw [List.take_add_one, hy]; rfl, H⟩
        · rintro g9 D5 acc le9 rfl h10 H
          rw [List.take_length] at H
          replace Wd := Wd.up le9
          replace s6 := s6.up le9
          replace fs := fs.up le9
          replace H := H.swap
          obtain ⟨g10, l10, s10, H10⟩ := H.give
          clear H
          have H := H10
          clear H10
          have s10 : Lst g10 D5 vals := s10
          replace Wd := Wd.up l10
          replace s6 := s6.up l10
          replace fs := fs.up l10
          refine W_iter_list r.hd s10 H ?_
          intro it3 h11 IT3 H
          refine CW_for (R := fun _ _ => True) (IT3 _ _) (fun j g' V' => Le g10 g' ∧ ∃ vv, V' = (L, Sp.frm taX [some (Value.ref kd), some (Value.ref td), some (Value.bool false), some Value.none, some (.ref D), some (.ref bl), some (.ref bm), some (.ref D3), vv, some (.bool false), none]) :: (ca 0, Sp.cell (some (Value.str (Str.ofString "no") tk))) :: V) ?_ H (Le.refl g10) ⟨Le.refl g10, _, rfl⟩ ?_ ?_
          · rintro i g g' V1 l ⟨a, b⟩
            exact ⟨a.trans l, b⟩
          · rintro j g11 V1 h12 v le11 hj ⟨_, vv, rfl⟩ hy H
            dsimp only [List.cons_append] at H
            replace Wd := Wd.up le11
            obtain ⟨a, x, sh, sps, rfl, e1, e2, e3, t1, t2, t3, t4, vk, cv2, I, _, _⟩ := fs.2 j v hy
            replace I := I.up le11
            k_search "tt"
            exact ⟨g11, _, Le.refl g11, ⟨le11, _, rfl⟩, H⟩
          · rintro g11 V1 h12 le11 ⟨_, vv, rfl⟩ H
            replace Wd := Wd.up le11
            replace s6 := s6.up le11
            replace fs := fs.up le11
            k_search "tt"
            refine W_For ?_ (fun _ => rfl)
            k_search "tt"
            refine W_iter_list r.hd s6 H ?_
            intro it4 h13 IT4 H
            refine CW_for (R := fun _ _ => True) (IT4 _ _) (fun j g' V' => Le g11 g' ∧ ∃ vv, V' = (L, Sp.frm taX [some (Value.ref kd), some (Value.ref td), some (Value.bool false), some Value.none, some (.ref D), some (.ref bl), some (.ref bm), some (.ref D3), vv, some (.bool false), none]) :: (ca 0, Sp.cell (some (Value.str (Str.ofString "no") tk))) :: V) ?_ H (Le.refl g11) ⟨Le.refl g11, _, rfl⟩ ?_ ?_
            · rintro i g g' V1 l ⟨a, b⟩
              exact ⟨a.trans l, b⟩
            · rintro j g12 V1 h14 v le12 hj ⟨_, vv, rfl⟩ hy H
              dsimp only [List.cons_append] at H
              replace Wd := Wd.up le12
              obtain ⟨a, x, sh, sps, rfl, e1, e2, e3, t1, t2, t3, t4, vk, cv2, I, _, _⟩ := fs.2 j v hy
              replace I := I.up le12
              have hs := ok.s2 sh (List.mem_of_getElem? e2)
              k_search "tt"
              refine W_truthy_str (by have := hs.1.1; omega) ?_
              rw [decide_eq_true hs.2]
              k_search "tt"
              exact ⟨g12, _, Le.refl g12, ⟨le12, _, rfl⟩, H⟩
            · rintro g12 V1 h14 le12 ⟨_, vv, rfl⟩ H
              replace Wd := Wd.up le12
              replace s6 := s6.up le12
              replace fs := fs.up le12
              k_search "tt"
              refine W_tuple_list H (s6.up H.le) (by omega) ?_
              intro tt g13 h15 l13 T13 H
              k_search "tt"
              refine W_newTuple H (by simp) ?_
              intro tp g14 h16 l14 T14 H
              k_search "tt"
              refine q tp tt bl bm vals g14 _ (l1.trans (le2.trans (l3.trans (l4.trans (l5.trans (l6.trans (le7.trans (l8.trans (le9.trans (l10.trans (le11.trans (le12.trans (l13.trans l14))))))))))))) T14 (T13.up l14) ((fs.up l13).up l14) H.drop.drop
end

end
section
set_option maxHeartbeats 4000000
section
variable {C : Cfg} {A : Around} {g h : Heap} {V : Led} {n : Nat} {R : Result → Heap → Prop}
def Kd (P : Params) (g : Heap) (k tv : Addr) (c : Kc) : Prop := ∃ t at_ ea oa fs mro, Inst P g k 173 kdK [.str (Str.ofString "Row") t, .ref mro, .ref at_, .ref ea, .ref oa] ∧ Tp g at_ fs ∧ Lst g ea fs ∧ Lst g mro [.ref k] ∧ Fls P g tv c fs
theorem Kd.up {P : Params} {g g' : Heap} {k tv : Addr} {c : Kc} (x : Kd P g k tv c) (le : Le g g') : Kd P g' k tv c := let ⟨t, a, b, d, fs, m, e1, e2, e3, e4, e5⟩ := x; ⟨t, a, b, d, fs, m, e1.up le, e2.up le, e3.up le, e4.up le, e5.up le⟩
theorem Kd.kn {P : Params} {g : Heap} {k tv : Addr} {c : Kc} (x : Kd P g k tv c) : Kn P g k (Str.ofString "Row") := let ⟨t, a, b, d, fs, m, e1, _⟩ := x; ⟨_, _, t, e1, by decide +kernel, .head⟩
theorem mclass_ok {td tv : Addr} {c : Kc} {tn : Tok} (ok : c.Ok) (H0 : Hp C.w.params g V h) (Wd : Wld C g) (S0 : Stk A V) (r0 : Rm A (n + 8)) (mt : (276, .tab deQ) ∈ V) (p2 : Tab C.w.params g td tv c)
    (q : ∀ k g' h', Le g g' → Kd C.w.params g' k tv c → Hp C.w.params g' V h' → R (.ok (.ret (.ref k))) h') : CW C A (.call (.ref 441) ⟨[.str (Str.ofString "Row") tn, .ref td], []⟩) R h := by
  refine CW_fn (xs := [Str.ofString "name", Str.ofString "attrs", Str.ofString "bases", Str.ofString "cmp", Str.ofString "eq", Str.ofString "order", Str.ofString "kw_only", Str.ofString "force_kw_only", Str.ofString "collect_by_mro", Str.ofString "field_transformer", Str.ofString "cls_dict", Str.ofString "msg", Str.ofString "cls", Str.ofString "mode", Str.ofString "base_attrs", Str.ofString "base_attr_map"]) (binds := [(Str.ofString "name", .str (Str.ofString "Row") tn), (Str.ofString "attrs", .ref td), (Str.ofString "bases", .ref 435), (Str.ofString "cmp", .none), (Str.ofString "eq", .none), (Str.ofString "order", .none), (Str.ofString "kw_only", .bool false), (Str.ofString "force_kw_only", .bool true), (Str.ofString "collect_by_mro", .bool false), (Str.ofString "field_transformer", .none)]) (vs := [some (.str (Str.ofString "Row") tn), some (.ref td), some (.ref 435), some (.none), some (.none), some (.none), some (.bool false), some (.bool true), some (.bool false), some (.none), none, none, none, none, none, none]) (n := n + 7) H0 Wd (S0) r0
    (Wd.K _ _ (show List.lookup 441 (hd.heap_39 C.w.params) = some _ by k_is)) rfl (codeRec_of (K := hd.heap_39 C.w.params) Wd.K (by k_is)) rfl (Looks.of_peek (K := hd.heap_39 C.w.params) Wd.K (by kernel_rfl)) rfl ⟨rfl, rfl⟩ ⟨⟨rfl, rfl⟩, rfl⟩ (by kernel_rfl) (by kernel_rfl) (by kernel_rfl) (by decide +kernel) (by kernel_rfl) ?_
  k_search "in"
  have p0 : Tp g 435 [] := ⟨0, Wd.K _ _ (show List.lookup 435 (hd.heap_39 C.w.params) = some _ by k_is)⟩
  k_search "tt"
  obtain ⟨cas, sd, cf⟩ := id p2
  obtain ⟨es0, m0, ed0, _⟩ := sd
  refine W_isi_dict (b := true) (Wd.K.keeps H.le) (H.le _ _ ed0) rfl (isi_of (by decide +kernel)) ?_
  k_search "tt"
  refine W_call (detk_ok (n := n + 6) H Wd (by k_search "stk") r ?_)
  intro a1 g1 h1 l1 T1 H
  replace Wd := Wd.up l1
  replace p0 := p0.up l1
  replace p2 := p2.up l1
  k_search "tt"
  refine W_asT r.hd H T1 rfl rfl ?_
  intro h2 H
  k_search "tt"
  refine W_call (kd_make (n := n + 4) H Wd (by k_search "stk") r p0 ?_)
  intro k kdx mro t0 g2 h3 l2 Lm T2 H
  replace Wd := Wd.up l2
  replace p2 := p2.up l2
  replace H := H.rot2
  k_search "tt"
  refine W_call (trans_ok (n := n) ok H Wd (by k_search "stk") r (by k_search "mt") (by k_search "mm") (by k_search "mm") (by k_search "kk") Lm p2 ?_)
  intro a2 at_ bl bm fs g3 h4 l3 T3 T4 fl H
  replace Wd := Wd.up l3
  replace Lm := Lm.up l3
  k_search "tt"
  refine W_asT r.hd H T3 rfl rfl ?_
  intro h5 H
  k_search "tt"
  k_search "set2"
  k_search "tt"
  refine W_ListComp (cl' := []) (cxs := [Str.ofString "a"]) F ⟨rfl, by kernel_rfl, rfl, by kernel_rfl, by kernel_rfl, by decide +kernel⟩ ?_ (fun _ => rfl)
  k_search "tt"
  refine W_getI (Wd.K.keeps H.le) (cl_of (by decide)) (na_of' (by k_search "mm")) (H.inst (x := k) (c := 173) (by k_search "mm") (by k_search "mm")) (by decide +kernel) (by k_search "kk") rfl ?_
  have zz := ok.z
  have vl : fs.length = c.nms.length := fl.1
  refine W_iter_tup r.hd T4 H ?_
  intro it h6 IT H
  refine ⟨_, fs.length, _, _, g3, fun i _ acc => acc = fs.take i, IT _ _, by omega, H, rfl, fun _ _ _ _ _ e => e, ?_, ?_⟩
  · rintro i g' acc Cf D5 cen cvs v h4 le hi rfl hy F H
    obtain ⟨cv, rfl⟩ := one_of H
    dsimp only [List.cons_append] at H
    replace Wd := Wd.up le
    obtain ⟨a, x, sh, sps, rfl, e1, e2, e3, t1, t2, t3, t4, vk, cv2, I, _, _⟩ := fl.2 i v hy
    replace I := I.up le
    k_search "tt"
    exact ⟨g', _, Le.refl g', by show _ = List.take (i + 1) fs; rw [List.take_add_one, hy]; rfl, H⟩
  · rintro g4 D5 acc l4 rfl h7 H
    rw [List.take_length] at H
    replace Wd := Wd.up l4
    replace T4 := T4.up l4
    replace Lm := Lm.up l4
    replace fl := fl.up l4
    replace H := H.swap
    obtain ⟨g5, l5, s5, H5⟩ := H.give
    clear H
    have H := H5
    clear H5
    have s5 : Lst g5 D5 fs := s5
    replace Wd := Wd.up l5
    replace T4 := T4.up l5
    replace Lm := Lm.up l5
    replace fl := fl.up l5
    k_search "tt"
    k_search "set2"
    k_search "tt"
    refine W_ListComp (cl' := []) (cxs := [Str.ofString "a"]) F ⟨rfl, by kernel_rfl, rfl, by kernel_rfl, by kernel_rfl, by decide +kernel⟩ ?_ (fun _ => rfl)
    k_search "tt"
    refine W_getI (Wd.K.keeps H.le) (cl_of (by decide)) (na_of' (by k_search "mm")) (H.inst (x := k) (c := 173) (by k_search "mm") (by k_search "mm")) (by decide +kernel) (by k_search "kk") rfl ?_
    refine W_iter_tup r.hd T4 H ?_
    intro it2 h8 IT2 H
    refine ⟨_, fs.length, _, _, g5, fun i _ acc => acc = fs.take i, IT2 _ _, by omega, H, rfl, fun _ _ _ _ _ e => e, ?_, ?_⟩
    · rintro i g' acc Cf D6 cen cvs v h4 le hi rfl hy F H
      obtain ⟨cv, rfl⟩ := one_of H
      dsimp only [List.cons_append] at H
      replace Wd := Wd.up le
      obtain ⟨a, x, sh, sps, rfl, e1, e2, e3, t1, t2, t3, t4, vk, cv2, I, _, _⟩ := fl.2 i v hy
      replace I := I.up le
      k_search "tt"
      exact ⟨g', _, Le.refl g', by show _ = List.take (i + 1) fs; rw [List.take_add_one, hy]; rfl, H⟩
    · rintro g6 D6 acc l6 rfl h9 H
      rw [List.take_length] at H
      replace Wd := Wd.up l6
      replace T4 := T4.up l6
      replace Lm := Lm.up l6
      replace fl := fl.up l6
      replace s5 := s5.up l6
      replace H := H.swap
      k_search "tt"
      refine W_setI Wd.K (cl_of (by decide)) (na_of' (by k_search "mm")).taker H (H.at (s := .obj (instObj 173 kdx)) (by k_search "mm")) (by k_search "up") (Pu.old (by decide +kernel) (by k_search "ks")) (by decide) ?_
      intro h10 H
      k_search "tt"
      obtain ⟨g7, l7, s7, H7⟩ := H.drop.drop.ready
      have lf : Le g g7 := l1.trans (l2.trans (l3.trans (l4.trans (l5.trans (l6.trans l7)))))
      exact q k g7 _ lf ⟨_, _, _, _, _, _, s7, T4.up l7, s5.up l7, Lm.up l7, fl.up l7⟩ H7
end

end
section
set_option maxHeartbeats 4000000
section
variable {C : Cfg} {A : Around} {g h : Heap} {V : Led} {n : Nat} {R : Result → Heap → Prop}
theorem StrsAre.snoc {vs : List Value} {xs : List Str} {x : Str} {t : Tok} (s : Mine.StrsAre vs xs) : Mine.StrsAre (vs ++ [.str x t]) (xs ++ (some x).toList) := by
  obtain ⟨l, a⟩ := s
  refine ⟨by simp [l], fun i y e => ?_⟩
  rcases Nat.lt_trichotomy i xs.length with h | h | h
  · rw [List.getElem?_append_left h] at e
    obtain ⟨u, e'⟩ := a i y e
    exact ⟨u, by rw [List.getElem?_append_left (by omega)]; exact e'⟩
  · subst h
    rw [List.getElem?_append_right (Nat.le_refl _), Nat.sub_self] at e
    cases e
    exact ⟨t, by rw [← l, List.getElem?_append_right (Nat.le_refl _), Nat.sub_self]; rfl⟩
  · rw [List.getElem?_eq_none (by simp; omega)] at e
    cases e
theorem not_take {α : Type} {l : List α} {x : α} {j : Nat} (nd : l.Nodup) (e : l[j]? = some x) : x ∉ l.take j := fun mm => by
  obtain ⟨j2, hj2, ej⟩ := List.getElem_of_mem mm
  have hj := (List.getElem?_eq_some_iff.mp e).1
  rw [List.length_take] at hj2
  have h3 : l[j2]? = some x := by
    rw [List.getElem_take] at ej
    rw [← ej]; exact List.getElem?_eq_getElem (by omega)
  have := (List.getElem?_inj (by omega) nd).mp (h3.trans e.symm)
  omega
abbrev haX : List Str := [Str.ofString "attrs", Str.ofString "args", Str.ofString "kwargs", Str.ofString "places", Str.ofString "msg", Str.ofString "handed", Str.ofString "names", Str.ofString "name", Str.ofString "value", Str.ofString "a"]
theorem handed_ok {at_ ta dk tv : Addr} {c : Kc} {fs : List Value} {ks : List Str} {vs : List Value} (ok : c.Ok) (H0 : Hp C.w.params g V h) (Wd : Wld C g) (S0 : Stk A V) (r0 : Rm A (n + 1)) (p1 : Tp g at_ fs) (fl : Fls C.w.params g tv c fs) (p2 : Tp g ta []) (p3 : Sd C.w.params g dk ks vs) (nd : ks.Nodup) (kz : ks.length ≤ 100) (hs : ∀ x ∈ ks, Shrt x)
    (hall : (∀ x ∈ ks, x ∈ c.shs) → ∀ s ∈ c.shs, s ∈ ks)
    (q1 : (∀ x ∈ ks, x ∈ c.shs) → ∀ D g' h', Le g g' → Sd C.w.params g' D ks vs → Hp C.w.params g' V h' → R (.ok (.ret (.ref D))) h')
    (q2 : (∃ x ∈ ks, x ∉ c.shs) → ∀ e g' h', Le g g' → Ex C.w.params (.type "TypeError") e (some .none) g' V h' → R (.error (.ref e)) h') : CW C A (.call (.ref 187) ⟨[.ref at_, .ref ta, .ref dk], []⟩) R h := by
  refine CW_fn (xs := [Str.ofString "attrs", Str.ofString "args", Str.ofString "kwargs", Str.ofString "places", Str.ofString "msg", Str.ofString "handed", Str.ofString "names", Str.ofString "name", Str.ofString "value", Str.ofString "a"]) (binds := [(Str.ofString "attrs", .ref at_), (Str.ofString "args", .ref ta), (Str.ofString "kwargs", .ref dk)]) (vs := [some (.ref at_), some (.ref ta), some (.ref dk), none, none, none, none, none, none, none]) (n := n) H0 Wd (S0) r0
    (Wd.K _ _ (show List.lookup 187 (hd.heap_39 C.w.params) = some _ by k_is)) rfl (codeRec_of (K := hd.heap_39 C.w.params) Wd.K (by k_is)) rfl (Looks.of_pure (by kernel_rfl)) rfl ⟨rfl, rfl⟩ ⟨⟨rfl, rfl⟩, rfl⟩ (by kernel_rfl) (by kernel_rfl) (by kernel_rfl) (by decide +kernel) (by kernel_rfl) ?_
  k_search "in"
  have zz := ok.z
  have vl : fs.length = c.nms.length := fl.1
  k_search "tt"
  refine W_AssignLC (cl' := []) (cxs := [Str.ofString "a"]) F ⟨rfl, by kernel_rfl, rfl, by kernel_rfl, by kernel_rfl, by decide +kernel⟩ (F.env (P := fun en => swapsWith _ _ _ en = pure true) fun _ _ _ _ _ _ _ _ _ _ _ => by kernel_rfl) ?_ (fun _ => rfl)
  k_search "tt"
  refine W_iter_tup r.hd p1 H ?_
  intro it h6 IT H
  refine ⟨V, _, fs.length, _, _, g, fun i _ acc => acc = fs.take i, IT _ _, by omega, H, rfl, fun _ _ _ _ _ e => e, ?_, ?_⟩
  · rintro i g' acc Cf D5 cen cvs v h4 le hi rfl hy F H
    obtain ⟨cv, rfl⟩ := one_of H
    dsimp only [List.cons_append] at H
    replace Wd := Wd.up le
    obtain ⟨a, x, sh, sps, rfl, e1, e2, e3, t1, t2, t3, t4, vk, cv2, I, _, _⟩ := fl.2 i v hy
    replace I := I.up le
    k_search "tt"
    exact ⟨g', _, Le.refl g', by show _ = List.take (i + 1) fs; rw [List.take_add_one, hy]; rfl, H⟩
  rintro g1 D1 acc l1 rfl
  refine ⟨_, by k_search "st", ?_⟩
  intro h1 H
  rw [List.take_length] at H
  obtain ⟨g2, l2, s2, H2⟩ := H.give
  clear H
  have H := H2
  clear H2
  have s2 : Lst g2 D1 fs := s2
  replace Wd := (Wd.up l1).up l2
  replace p1 := (p1.up l1).up l2
  replace p2 := (p2.up l1).up l2
  replace p3 := (p3.up l1).up l2
  replace fl := (fl.up l1).up l2
  k_search "tt"
  refine W_len_tup (p2.up H.le) (by simp) ?_
  intro
  k_search "tt"
  refine W_len_list (s2.up H.le) (by omega) ?_
  intro
  k_search "tt"
  refine W_AssignDC (g0 := g2) (cl' := []) (cxs := [Str.ofString "a", Str.ofString "value"]) (fun h le => Wd.ne1 le) F ⟨rfl, by kernel_rfl, rfl, by kernel_rfl, by kernel_rfl, by decide +kernel⟩ (F.env (P := fun en => swapsWith _ _ _ en = pure true) fun _ _ _ _ _ _ _ _ _ _ _ => by kernel_rfl) ?_ (fun _ => rfl)
  k_search "tt"
  refine W_zip_lt s2 p2 H ?_
  intro z S2 h5 ZT H
  refine (ZT A [] 0 default r.hd).self (Le.refl g2) H ?_
  refine ⟨V, _, min fs.length 0, _, _, g2, fun _ _ ks ys => ks = [] ∧ ys = [], Le.refl g2, ZT A _ _ _ r.hd, by simp, H, ⟨rfl, rfl⟩, fun _ _ _ _ _ _ e => e, fun i g' ks ys Cf D cen cvs v h3 le hi => absurd hi (by simp), ?_⟩
  rintro g3 D2 _ _ l3 ⟨rfl, rfl⟩
  refine ⟨_, by k_search "st", ?_⟩
  intro h6 H
  replace Wd := Wd.up l3
  replace p1 := p1.up l3
  replace p3 := p3.up l3
  replace fl := fl.up l3
  k_search "tt"
  refine W_AssignLC (cl' := []) (cxs := [Str.ofString "a"]) F ⟨rfl, by kernel_rfl, rfl, by kernel_rfl, by kernel_rfl, by decide +kernel⟩ (F.env (P := fun en => swapsWith _ _ _ en = pure true) fun _ _ _ _ _ _ _ _ _ _ _ => by kernel_rfl) ?_ (fun _ => rfl)
  k_search "tt"
  refine W_iter_tup r.hd p1 H ?_
  intro it2 h7 IT2 H
  refine ⟨(D2, .sd [] []) :: V, _, fs.length, _, _, g3, fun i _ acc => Mine.StrsAre acc (c.shs.take i), IT2 _ _, by omega, H, ⟨by simp, fun i x e => by simp at e⟩, fun _ _ _ _ _ e => e, ?_, ?_⟩
  · rintro i g' acc Cf D5 cen cvs v h4 le hi sa hy F H
    obtain ⟨cv, rfl⟩ := one_of H
    dsimp only [List.cons_append] at H
    replace Wd := Wd.up le
    obtain ⟨a, x, sh, sps, rfl, e1, e2, e3, t1, t2, t3, t4, vk, cv2, I, _, _⟩ := fl.2 i v hy
    replace I := I.up le
    k_search "tt"
    refine ⟨g', _, Le.refl g', ?_, H⟩
    show Mine.StrsAre _ (c.shs.take (i + 1))
    rw [List.take_add_one, e2]
    exact sa.snoc
  rintro g4 D3 acc l4 sa
  have l1' := ok.l1
  rw [vl, ← l1', List.take_length] at sa
  refine ⟨_, by k_search "st", ?_⟩
  intro h8 H
  obtain ⟨g5, l5, s5, H5⟩ := H.give
  clear H
  have H := H5
  clear H5
  have s5 : Lst g5 D3 acc := s5
  replace Wd := (Wd.up l4).up l5
  replace p1 := (p1.up l4).up l5
  replace p3 := (p3.up l4).up l5
  replace fl := (fl.up l4).up l5
  k_search "tt"
  refine W_For ?_ (fun _ => rfl)
  refine W_CallM (fun _ => rfl) rfl ?_
  k_search "tt"
  refine W_callee rfl ?_
  refine W_get_items (p3.up H.le) ?_
  k_search "tt"
  refine W_items H (p3.up H.le) nd ?_
  intro vw g6 h9 l6 Vw6 H
  replace Wd := Wd.up l6
  replace p1 := p1.up l6
  replace p3 := p3.up l6
  replace fl := fl.up l6
  replace s5 := s5.up l6
  k_search "tt"
  refine W_iter_itemsN r.hd p3 nd Vw6 H ?_
  intro it3 S3 h10 IT3 H
  have vsl : vs.length = ks.length := p3.len (C := C)
  refine CW_for (R := fun _ _ => True) (IT3 _ _ _) (fun j g' V' => Le g6 g' ∧ (∀ (i : Nat) (x : Str), i < j → ks[i]? = some x → x ∈ c.shs) ∧ ∃ ms v1 v2, V' = (L, Sp.frm haX [some (.ref at_), some (.ref ta), some (.ref dk), some (.ref D1), ms, some (.ref D2), some (.ref D3), v1, v2, none]) :: (D2, .sd (ks.take j) (vs.take j)) :: V) ?_ H (Le.refl g6) ⟨Le.refl g6, fun i x h => absurd h (Nat.not_lt_zero _), _, _, _, rfl⟩ ?_ ?_
  · rintro i g g' V1 l ⟨a, b⟩
    exact ⟨a.trans l, b⟩
  · rintro j g7 V1 h12 v le7 hj ⟨_, hin, ms, v1, v2, rfl⟩ ⟨ta2, x, tx, y, rfl, hx, hy, tp⟩ H
    dsimp only [List.cons_append] at H
    replace Wd := Wd.up le7
    refine W_asI r.hd H tp rfl rfl ?_
    intro h13 H
    k_search "tt"
    have nk : x ∉ ks.take j := not_take nd hx
    refine W_in_sd (H.at (s := .sd _ _) (by k_search "mm")) (nd.sublist (List.take_sublist _ _)) ?_
    rw [decide_eq_false nk]
    k_search "tt"
    refine W_notInL ((s5.up le7).up H.le) sa ?_
    by_cases hx2 : x ∈ c.shs
    · rw [decide_eq_true hx2]
      k_search "tt"
      have tk : ks.take (j + 1) = ks.take j ++ [x] := by rw [List.take_add_one, hx]; rfl
      have tv : vs.take (j + 1) = vs.take j ++ [y] := by rw [List.take_add_one, hy]; rfl
      refine W_setItem_sd (ks' := ks.take (j + 1)) (vs' := vs.take (j + 1)) H (nd.sublist (List.take_sublist _ _)) (by k_search "up") (by rw [tk, tv]; exact .new nk) (by rw [List.length_take]; omega) ?_
      intro h14 H
      k_search "tt"
      refine ⟨g7, _, Le.refl g7, ⟨le7, ?_, _, _, _, rfl⟩, H⟩
      intro i x' hi e
      by_cases hij : i = j
      · subst hij; rw [hx] at e; cases e; exact hx2
      · exact hin i x' (by omega) e
    · rw [decide_eq_false hx2]
      k_search "tt"
      k_search "joi"
      k_search "joi"
      k_search "tt"
      refine ⟨_, _, 30, rfl, by decide +kernel, by decide +kernel, fun o1 z1 => ?_⟩
      have hsx := hs x (List.mem_of_getElem? hx)
      k_search "joi"
      refine W_FVr ?_
      k_search "tt"
      refine W_reprS (by have := hsx.2; omega) ?_
      intro t5
      refine W_fmt_str (by have := hsx.2; omega) ?_
      intro t6
      refine ⟨_, _, 200, rfl, hsx.2, by decide, fun o2 z2 => ?_⟩
      k_search "joi"
      k_search "tt"
      refine ⟨_, _, 40, rfl, by decide +kernel, by decide +kernel, fun o3 z3 => ?_⟩
      refine W_join_nil (by have : Str.empty.length = 0 := rfl; omega) ?_
      intro t7
      k_search "tt"
      refine W_Raise r.hd ?_
      k_search "tt"
      refine W_call_exc excClass_TypeError H (by simp) fun ea h' X => ?_
      have lf : Le g g7 := l1.trans (l2.trans (l3.trans (l4.trans (l5.trans (l6.trans le7)))))
      refine Nf_ex (Sb.sf S (.head _) fun p hp => .tail _ (.tail _ (List.mem_append_left _ hp))) X (.inl rfl) fun h' X => ?_
      refine Be_ex (Sb.sf S (.head _) fun p hp => .tail _ (.tail _ (List.mem_append_left _ hp))) X (.inr (.inr rfl)) fun h' X => ?_
      exact q2 ⟨x, List.mem_of_getElem? hx, hx2⟩ ea g7 _ lf (Ex.left X.drop.drop)
  · rintro g7 V1 h12 le7 ⟨_, hin, ms, v1, v2, rfl⟩ H
    replace Wd := Wd.up le7
    replace p1 := p1.up le7
    replace fl := fl.up le7
    rw [List.take_length, List.take_of_length_le (by omega)] at H
    have hin2 : ∀ x ∈ ks, x ∈ c.shs := fun x hx => by
      obtain ⟨i, hi, e⟩ := List.getElem_of_mem hx
      exact hin i x hi (by rw [← e]; exact List.getElem?_eq_getElem hi)
    obtain ⟨g8, l8, s8, H8⟩ := H.give
    clear H
    have H := H8
    clear H8
    have s8 : Sd C.w.params g8 D2 ks vs := s8
    replace Wd := Wd.up l8
    replace p1 := p1.up l8
    replace fl := fl.up l8
    k_search "tt"
    refine W_For ?_ (fun _ => rfl)
    k_search "tt"
    refine W_iter_tup r.hd p1 H ?_
    intro it4 h13 IT4 H
    refine CW_for (R := fun _ _ => True) (IT4 _ _) (fun j g' V' => Le g8 g' ∧ ∃ vv, V' = (L, Sp.frm haX [some (.ref at_), some (.ref ta), some (.ref dk), some (.ref D1), ms, some (.ref D2), some (.ref D3), v1, v2, vv]) :: V) ?_ H (Le.refl g8) ⟨Le.refl g8, _, rfl⟩ ?_ ?_
    · rintro i g g' V1 l ⟨a, b⟩
      exact ⟨a.trans l, b⟩
    · rintro j g9 V1 h14 v le9 hj ⟨_, vv, rfl⟩ hy H
      dsimp only [List.cons_append] at H
      replace Wd := Wd.up le9
      obtain ⟨a, x, sh, sps, rfl, e1, e2, e3, t1, t2, t3, t4, vk, cv2, I, _, _⟩ := fl.2 j v hy
      replace I := I.up le9
      k_search "tt"
      refine W_notIn_sd ((s8.up le9).up H.le) nd ?_
      rw [decide_eq_true (hall hin2 sh (List.mem_of_getElem? e2))]
      k_search "tt"
      exact ⟨g9, _, Le.refl g9, ⟨le9, _, rfl⟩, H⟩
    · rintro g9 V1 h14 le9 ⟨_, vv, rfl⟩ H
      replace Wd := Wd.up le9
      k_search "tt"
      exact q1 hin2 D2 g9 _ (l1.trans (l2.trans (l3.trans (l4.trans (l5.trans (l6.trans (le7.trans (l8.trans le9)))))))) (s8.up le9) H.drop
end

end
section
set_option maxHeartbeats 4000000
section
variable {C : Cfg} {A : Around} {g h : Heap} {V : Led} {n : Nat} {R : Result → Heap → Prop}
def valOf (ks : List Str) (ws : List Int) (s : Str) : Int := ((ks.zip ws).lookup s).getD 0
theorem valOf_at : ∀ {ks : List Str} {ws : List Int} {i : Nat} {s : Str}, ks.Nodup → ks[i]? = some s → ws.length = ks.length → valOf ks ws s = ws.getD i 0
  | k :: ks, w :: ws, 0, s, nd, e, l => by cases e; simp [valOf]
  | k :: ks, w :: ws, i + 1, s, nd, e, l => by
    obtain ⟨n1, n2⟩ := List.nodup_cons.mp nd
    have e : ks[i]? = some s := by simpa using e
    have hk : (s == k) = false := beq_eq_false_iff_ne.mpr fun q => n1 (q ▸ List.mem_of_getElem? e)
    have := valOf_at n2 e (by simpa using l)
    simp only [valOf, List.zip_cons_cons, List.lookup_cons, hk] at this ⊢
    simpa using this
  | [], _, _, _, _, e, _ => by simp at e
  | _ :: _, [], _, _, _, _, l => by simp at l
def kRow (c : Kc) (ks : List Str) (ws : List Int) : List Int := c.shs.map fun s => rd c.m (valOf ks ws s)
def passes (c : Kc) (row : List Int) : Bool := (List.range c.nms.length).all fun i => !((c.spss.getD i []).any (badV row i (row.getD i 0)))
theorem rd_small {m w : Int} (m0 : 0 < m) (m9 : m ≤ 9) (h : w.natAbs < 900) : (rd m w).natAbs < 1000 := by
  unfold rd
  have h1 := Int.fmod_nonneg_of_pos w m0
  have h2 := Int.fmod_lt_of_pos w m0
  omega
theorem Cvt.nn {P : Params} {g : Heap} {v : Value} {m nm : Value} {hw : Int} (x : Cvt P g v hw m nm) : (v == .none) = false := by
  rcases x with ⟨e, f, c, rfl, _⟩ | ⟨e, a, f, c1, c2, rfl, _⟩ <;> rfl
theorem ints_snoc {vs : List Value} {ns : List Int} {a : Int} {t : Tok} (h : IntsAre vs ns) : IntsAre (vs ++ [.int a t]) (ns ++ [a]) := by
  induction h with
  | nil => exact .cons _ _ .nil
  | cons n t _ ih => exact .cons n t ih
theorem getD_mem {l : List Int} {i : Nat} (h : i < l.length) : l.getD i 0 ∈ l := by
  rw [List.getD_eq_getElem?_getD, List.getElem?_eq_getElem h]
  exact List.getElem_mem h
abbrev kcX : List Str := [Str.ofString "self", Str.ofString "args", Str.ofString "kwargs", Str.ofString "handed", Str.ofString "inst", Str.ofString "a", Str.ofString "value"]
theorem kcall_ok {k tv : Addr} {c : Kc} {ks : List Str} {vs : List Value} {ws : List Int} {nvals : List Value} (ok : c.Ok) (H0 : Hp C.w.params g V h) (Wd : Wld C g) (S0 : Stk A V) (r0 : Rm A (n + 4)) (pk : Kd C.w.params g k tv c) (pt : Tp g tv nvals) (hn : Mine.StrsAre nvals c.nms)
    (hi : IntsAre vs ws) (hl : ks.length = vs.length) (nd : ks.Nodup) (kz : ks.length ≤ 100) (hs : ∀ x ∈ ks, Shrt x) (hb : ∀ w ∈ ws, w.natAbs < 900)
    (hall : (∀ x ∈ ks, x ∈ c.shs) → ∀ s ∈ c.shs, s ∈ ks) (hself : Str.ofString "self" ∉ ks)
    (q1 : (∀ x ∈ ks, x ∈ c.shs) → passes c (kRow c ks ws) = true → ∀ z g' h', Le g g' → Th C.w.params g' z (.ref k) c.nms (kRow c ks ws) → Hp C.w.params g' V h' → R (.ok (.ret (.ref z))) h')
    (q2 : (∀ x ∈ ks, x ∈ c.shs) → passes c (kRow c ks ws) = false → ∀ e g' h', Le g g' → Ex C.w.params (.type "ValueError") e (some .none) g' V h' → R (.error (.ref e)) h')
    (q3 : (∃ x ∈ ks, x ∉ c.shs) → ∀ e g' h', Le g g' → Ex C.w.params (.type "TypeError") e (some .none) g' V h' → R (.error (.ref e)) h') : CW C A (.call (.ref k) ⟨[], ks.zip vs⟩) R h := by
  obtain ⟨tn, at_, ea, oa, fs, mro, kI, T1, L2, Lm, fl⟩ := id pk
  refine CW_instT (Wd.K.keeps H0.le) (kI.up H0.le) (c := 173) (fC := 170) (by decide) ?_
  have zk := zip_keys (ks := ks) (vs := vs) (by omega)
  refine CW_fnB (xs := kcX) (n := n + 3) H0.le Wd r0
    (Wd.K _ _ (show List.lookup 170 (hd.heap_39 C.w.params) = some _ by k_is)) rfl (codeRec_of (K := hd.heap_39 C.w.params) Wd.K (by k_is)) rfl rfl ⟨rfl, rfl⟩ ⟨⟨rfl, rfl⟩, rfl⟩ (by kernel_rfl) (by kernel_rfl) (by decide +kernel) ?_
  refine W_bind1k rfl rfl H0 Wd (by simp) (by intro q; cases q) (by rw [zk.1]; exact nd) (by rw [List.length_zip]; omega) ?_ ?_ (by intro q; cases q)
  · rw [zk.1]; exact hself
  intro av hav ta dk g1 h1 l1 Ta H1
  cases hav
  rw [zk.1, zk.2] at H1
  refine ⟨g1, (dk, .sd ks vs) :: V, [some (.ref k), some (.ref ta), some (.ref dk), none, none, none, none], l1, H1, S0.more, by kernel_rfl, by kernel_rfl, ?_⟩
  k_search "in"
  replace S := S.less rfl
  obtain ⟨g2, l2, s2, H2⟩ := H.give
  clear H
  have H := H2
  clear H2
  have s2 : Sd C.w.params g2 dk ks vs := s2
  have l12 := l1.trans l2
  replace Wd := Wd.up l12
  replace kI := kI.up l12
  replace T1 := T1.up l12
  replace fl := fl.up l12
  replace pt := pt.up l12
  replace Ta := Ta.up l2
  k_search "tt"
  refine W_call (handed_ok (n := n + 2) ok H Wd (by k_search "stk") r T1 fl Ta s2 nd kz hs hall ?_ ?_)
  case refine_2 =>
    intro hx e g3 h3 l3 X
    refine Be_ex (Sb.sf S (.head _) fun p hp => .tail _ hp) X (.inr (.inl rfl)) fun h' X => ?_
    exact q3 hx e g3 _ (l12.trans l3) X.drop
  intro hin D g3 h3 l3 sD H
  replace Wd := Wd.up l3
  replace kI := kI.up l3
  replace T1 := T1.up l3
  replace fl := fl.up l3
  replace pt := pt.up l3
  k_search "tt"
  refine W_call (md_make (n := n + 1) H Wd (by k_search "stk") r ?_)
  intro z dd g4 h4 l4 zI H
  replace Wd := Wd.up l4
  replace kI := kI.up l4
  replace T1 := T1.up l4
  replace fl := fl.up l4
  replace pt := pt.up l4
  replace sD := sD.up l4
  replace H := H.swap
  k_search "tt"
  refine W_For ?_ (fun _ => rfl)
  k_search "tt"
  refine W_iter_tup r.hd T1 H ?_
  intro it h5 IT H
  have zz := ok.z
  have vl : fs.length = c.nms.length := fl.1
  have wl : ws.length = ks.length := by rw [hl]; exact hi.length.symm
  have hsh := hall hin
  have rowb : ∀ r ∈ kRow c ks ws, r.natAbs < 1000 := fun r hr => by
    obtain ⟨s, hs1, rfl⟩ := List.mem_map.mp hr
    obtain ⟨i, hki⟩ := List.getElem?_of_mem (hsh s hs1)
    rw [valOf_at nd hki wl]
    exact rd_small ok.m0 ok.m9 (hb _ (getD_mem (by have := (List.getElem?_eq_some_iff.mp hki).1; omega)))
  generalize hrow : kRow c ks ws = row at q1 q2 rowb
  have rl : row.length = c.nms.length := by rw [← hrow, kRow, List.length_map, ok.l1]
  refine CW_for (R := fun _ _ => True) (IT _ _) (fun j g' V' => Le g4 g' ∧ ∃ v1 v2 vals, IntsAre vals (row.take j) ∧ V' = (L, Sp.frm kcX [some (.ref k), some (.ref ta), some (.ref dk), some (.ref D), some (.ref z), v1, v2]) :: (dd, .sd (c.nms.take j) vals) :: V) ?_ H (Le.refl g4) ⟨Le.refl g4, _, _, [], .nil, rfl⟩ ?_ ?_
  · rintro i g g' V1 l ⟨a, b⟩
    exact ⟨a.trans l, b⟩
  · rintro j g5 V1 h6 v le5 hj ⟨_, v1, v2, vals, ha, rfl⟩ hy H
    dsimp only [List.cons_append] at H
    replace Wd := Wd.up le5
    replace kI := kI.up le5
    replace zI := zI.up le5
    replace pk := pk.up (l12.trans (l3.trans (l4.trans le5)))
    obtain ⟨a, x, sh, sps, rfl, e1, e2, e3, fd⟩ := fl.2 j v hy
    replace fd := fd.up le5
    have fn := fd.nm
    obtain ⟨t1, t2, t3, t4, vk, cv, I, vk2, cvt⟩ := fd
    have hcv := cvt.hin
    have hvk := vk2.hin
    obtain ⟨i, hki⟩ := List.getElem?_of_mem (hsh sh (List.mem_of_getElem? e2))
    have hil := (List.getElem?_eq_some_iff.mp hki).1
    obtain ⟨tw, hvi⟩ := ints_at hi (j := i) (by omega)
    k_search "tt"
    refine W_sub_sd ((sD.up le5).up H.le) nd (Kk.of_get hki hvi) ?_
    k_search "tt"
    refine Br_t (by rw [cvt.nn]; rfl) ?_
    k_search "tt"
    refine cvt.isi0 Wd H.le ?_
    k_search "tt"
    have kp := cvt.kpr H.le
    have nk : x ∉ c.nms.take j := not_take ok.nd1 e1
    have tk : c.nms.take (j + 1) = c.nms.take j ++ [x] := by rw [List.take_add_one, e1]; rfl
    have hvo : row[j]? = some (rd c.m (ws.getD i 0)) := by
      rw [← hrow, kRow, List.getElem?_map, e2]
      rw [Option.map_some, valOf_at nd hki wl]
    have tr : row.take (j + 1) = row.take j ++ [rd c.m (ws.getD i 0)] := by rw [List.take_add_one, hvo]; rfl
    have intz : ∀ {t : Tok}, IntsAre (vals ++ [.int (rd c.m (ws.getD i 0)) t]) (row.take (j + 1)) := fun {t} => by
      rw [tr]; exact ints_snoc ha
    have hm : c.m ≠ 0 := by have := ok.m0; omega
    rcases id cvt with ⟨e, f, cc, rfl, c1, c2⟩ | ⟨e, cva, f, c1, c2, rfl, c3, c4, c5, c6⟩
    · refine Br_t (by rw [e]; rfl) ?_
      k_search "tt"
      refine W_CallM (fun _ => rfl) rfl ?_
      k_search "tt"
      refine W_callee rfl ?_
      refine W_methB H Wd I (by decide) (by k_search "mm") (by decide +kernel) (by k_search "kk") rfl ?_
      k_search "tt"
      refine ⟨kp, ?_⟩
      dsimp only [List.nil_append, List.cons_append, List.zip, List.zipWith, namesOf, Option.toList]
      refine W_call (plain_ok (n := n + 2) H Wd (by k_search "stk") r c1 c2 hm ?_)
      intro t8 h8 H
      k_search "tt"
      refine W_setItem_sd (ks' := c.nms.take (j + 1)) (vs' := vals ++ [.int (rd c.m (ws.getD i 0)) t8]) H (ok.nd1.sublist (List.take_sublist _ _)) (by k_search "up") (by rw [tk]; exact .new nk) (by rw [List.length_take]; omega) ?_
      intro h9 H
      k_search "tt"
      exact ⟨g5, _, Le.refl g5, ⟨le5, _, _, _, intz (t := t8), rfl⟩, H⟩
    · refine Br_f (by rw [bne_iff_ne.mpr e]; rfl) ?_
      k_search "tt"
      refine W_CallM (fun _ => rfl) rfl ?_
      k_search "tt"
      refine W_callee rfl ?_
      refine W_methB H Wd I (by decide) (by k_search "mm") (by decide +kernel) (by k_search "kk") rfl ?_
      k_search "tt"
      refine ⟨kp, ?_⟩
      dsimp only [List.nil_append, List.cons_append, List.zip, List.zipWith, namesOf, Option.toList]
      refine W_call (cvcall_ok (n := n + 1) H Wd (by k_search "stk") r c3 c4 c5 c6 zI pk.kn fn hm ?_)
      intro t8 h8 H
      k_search "tt"
      refine W_setItem_sd (ks' := c.nms.take (j + 1)) (vs' := vals ++ [.int (rd c.m (ws.getD i 0)) t8]) H (ok.nd1.sublist (List.take_sublist _ _)) (by k_search "up") (by rw [tk]; exact .new nk) (by rw [List.length_take]; omega) ?_
      intro h9 H
      k_search "tt"
      exact ⟨g5, _, Le.refl g5, ⟨le5, _, _, _, intz (t := t8), rfl⟩, H⟩
  · rintro g5 V1 h6 le5 ⟨_, v1, v2, vals, ha, rfl⟩ H
    rw [List.take_of_length_le (by omega)] at ha
    rw [List.take_of_length_le (by omega)] at H
    replace Wd := Wd.up le5
    replace kI := kI.up le5
    replace T1 := T1.up le5
    replace zI := zI.up le5
    replace fl := fl.up le5
    replace pt := pt.up le5
    obtain ⟨g6, l6, s6, H6⟩ := H.give
    clear H
    have H := H6
    clear H6
    have s6 : Sd C.w.params g6 dd c.nms vals := s6
    replace Wd := Wd.up l6
    replace kI := kI.up l6
    replace T1 := T1.up l6
    replace zI := zI.up l6
    replace fl := fl.up l6
    replace pt := pt.up l6
    have th : Th C.w.params g6 z (.ref k) c.nms row := ⟨dd, vals, zI, s6, ha, ok.nd1⟩
    k_search "tt"
    refine W_For ?_ (fun _ => rfl)
    k_search "tt"
    refine W_iter_tup r.hd T1 H ?_
    intro it2 h7 IT2 H
    have lf : Le g g6 := l12.trans (l3.trans (l4.trans (le5.trans l6)))
    refine CW_for (R := fun _ _ => True) (IT2 _ _) (fun j g' V' => Le g6 g' ∧ (∀ i, i < j → (c.spss.getD i []).any (badV row i (row.getD i 0)) = false) ∧ ∃ v1, V' = (L, Sp.frm kcX [some (.ref k), some (.ref ta), some (.ref dk), some (.ref D), some (.ref z), v1, v2]) :: V) ?_ H (Le.refl g6) ⟨Le.refl g6, fun i h => absurd h (Nat.not_lt_zero _), _, rfl⟩ ?_ ?_
    · rintro i g g' V1 l ⟨a, b⟩
      exact ⟨a.trans l, b⟩
    · rintro j g7 V1 h8 v le7 hj ⟨_, hok, v3, rfl⟩ hy H
      dsimp only [List.cons_append] at H
      replace Wd := Wd.up le7
      replace zI := zI.up le7
      replace th := th.up le7
      replace pt := pt.up le7
      obtain ⟨a, x, sh, sps, rfl, e1, e2, e3, fd⟩ := fl.2 j v hy
      replace fd := fd.up le7
      have fn := fd.nm
      obtain ⟨t1, t2, t3, t4, vk, cv, I, vk2, cvt⟩ := fd
      have hvk := vk2.hin
      have spj : c.spss.getD j [] = sps := by rw [List.getD_eq_getElem?_getD, e3]; rfl
      have nxt : sps.any (badV row j (row.getD j 0)) = false → ∀ i, i < j + 1 → (c.spss.getD i []).any (badV row i (row.getD i 0)) = false := fun hb i hij => by
        by_cases e : i = j
        · subst e; rw [spj]; exact hb
        · exact hok i (by omega)
      k_search "tt"
      rcases vk2 with ⟨rfl, rfl⟩ | ⟨va, rfl, av, hne⟩
      · k_search "tt"
        exact ⟨g7, _, Le.refl g7, ⟨le7, nxt rfl, _, rfl⟩, H⟩
      · have av' := av
        obtain ⟨tp, vls, aI, aT, a3, a4⟩ := av'
        refine W_truthy_inst (Wd.K.keeps H.le) (aI.up H.le) (by decide) ?_
        k_search "tt"
        refine W_in_sd ((s6.up le7).up H.le) ok.nd1 ?_
        rw [decide_eq_true (List.mem_of_getElem? e1)]
        k_search "tt"
        refine W_CallM (fun _ => rfl) rfl ?_
        k_search "tt"
        refine W_callee rfl ?_
        refine W_methB H Wd I (by decide) (by k_search "mm") (by decide +kernel) (by k_search "kk") rfl ?_
        k_search "tt"
        obtain ⟨t9, hvj⟩ := ints_at ha (j := j) (by omega)
        refine W_sub_sd ((s6.up le7).up H.le) ok.nd1 (Kk.of_get e1 hvj) ?_
        k_search "tt"
        refine ⟨by obtain ⟨dx, e2, _⟩ := aI; exact Kpr.inst (H.le _ _ e2) rfl, ?_⟩
        dsimp only [List.nil_append, List.cons_append, List.zip, List.zipWith, namesOf, Option.toList]
        refine W_call (avcall_ok (n := n + 1) H Wd (by k_search "stk") r av (ok.okv j sps e3) pt hn th fn e1 zz (ok.s1 x (List.mem_of_getElem? e1)).1 (rowb _ (getD_mem (by omega))) ?_ ?_)
        · intro b g8 h9 l8 H
          k_search "tt"
          exact ⟨g8, _, l8, ⟨le7.trans l8, nxt b, _, rfl⟩, H⟩
        · intro b e g8 h9 l8 X
          refine Nf_ex (Sb.sf S (.head _) fun p hp => .tail _ (List.mem_append_left _ hp)) X (.inr (.inl rfl)) fun h' X => ?_
          refine Be_ex (Sb.sf S (.head _) fun p hp => .tail _ (List.mem_append_left _ hp)) X (.inr (.inr rfl)) fun h' X => ?_
          refine q2 hin ?_ e g8 _ (lf.trans (le7.trans l8)) (Ex.left X.drop)
          rw [passes, Bool.eq_false_iff]
          intro hp
          have := List.all_eq_true.mp hp j (List.mem_range.mpr (by omega))
          rw [spj, b] at this
          exact absurd this (by decide)
    · rintro g7 V1 h8 le7 ⟨_, hok, v3, rfl⟩ H
      replace Wd := Wd.up le7
      k_search "tt"
      refine q1 hin ?_ z g7 _ (lf.trans le7) (th.up le7) H.drop
      rw [passes, List.all_eq_true]
      intro i hi
      rw [hok i (by have := List.mem_range.mp hi; omega)]
      rfl
end

end
section
set_option maxHeartbeats 4000000
section
variable {C : Cfg} {A : Around} {g h : Heap} {V : Led} {n : Nat} {R : Result → Heap → Prop}
section
variable (c : Kc) (ks : List Str) (ws row : List Int)
def exI (j : Nat) : List Nat := (List.range j).filter fun i => !decide (c.shs.getD i Str.empty ∈ ks)
def ksx (j : Nat) : List Str := (exI c ks j).map fun i => c.shs.getD i Str.empty
def wsx (j : Nat) : List Int := (exI c ks j).map fun i => row.getD i 0
def eRow : List Int := (List.range c.nms.length).map fun i => rd c.m (if c.shs.getD i Str.empty ∈ ks then valOf ks ws (c.shs.getD i Str.empty) else row.getD i 0)
end
section
variable {c : Kc} {ks : List Str} {ws row : List Int}
theorem exI_succ {j : Nat} : exI c ks (j + 1) = if c.shs.getD j Str.empty ∈ ks then exI c ks j else exI c ks j ++ [j] := by
  unfold exI
  rw [List.range_succ, List.filter_append]
  by_cases h : c.shs.getD j Str.empty ∈ ks
  · rw [if_pos h]; simp only [List.filter_cons, h, decide_true, Bool.not_true, Bool.false_eq_true, if_false, List.filter_nil, List.append_nil]
  · rw [if_neg h]; simp only [List.filter_cons, h, decide_false, Bool.not_false, if_true, List.filter_nil]
theorem getD_of {α : Type} {l : List α} {i : Nat} {x d : α} (e : l[i]? = some x) : l.getD i d = x := by rw [List.getD_eq_getElem?_getD, e]; rfl
theorem ksx_not (nd : c.shs.Nodup) {j : Nat} {s : Str} (e : c.shs[j]? = some s) : s ∉ ksx c ks j := fun m => by
  obtain ⟨i, hi, rfl⟩ := List.mem_map.mp m
  have hij : i < j := List.mem_range.mp (List.mem_filter.mp hi).1
  have hj := (List.getElem?_eq_some_iff.mp e).1
  have e2 : c.shs[i]? = some (c.shs.getD i Str.empty) := by rw [List.getD_eq_getElem?_getD, List.getElem?_eq_getElem (by omega)]; rfl
  have := (List.getElem?_inj (by omega) nd).mp (e2.trans e.symm)
  omega
theorem ksx_sub {j : Nat} (hj : j ≤ c.shs.length) : ∀ x ∈ ksx c ks j, x ∈ c.shs ∧ x ∉ ks := fun x m => by
  obtain ⟨i, hi, rfl⟩ := List.mem_map.mp m
  obtain ⟨h1, h2⟩ := List.mem_filter.mp hi
  have h1 := List.mem_range.mp h1
  refine ⟨?_, by simpa using h2⟩
  rw [List.getD_eq_getElem?_getD, List.getElem?_eq_getElem (by omega)]
  exact List.getElem_mem _
theorem kRow_full (ok : c.Ok) (nd : (ks ++ ksx c ks c.nms.length).Nodup) (wl : ws.length = ks.length) : kRow c (ks ++ ksx c ks c.nms.length) (ws ++ wsx c ks row c.nms.length) = eRow c ks ws row := by
  unfold kRow eRow
  refine List.ext_getElem (by simp [ok.l1]) fun i h1 h2 => ?_
  have hi : i < c.nms.length := by simpa using h2
  have hs : c.shs[i]? = some (c.shs.getD i Str.empty) := by rw [List.getD_eq_getElem?_getD, List.getElem?_eq_getElem (by rw [ok.l1]; omega)]; rfl
  rw [List.getElem_map, List.getElem_map, List.getElem_range]
  have hs2 : c.shs[i]'(by rw [ok.l1]; omega) = c.shs.getD i Str.empty := by rw [List.getElem?_eq_getElem (by rw [ok.l1]; omega)] at hs; exact Option.some.inj hs
  rw [hs2]
  congr 1
  have ll : (ws ++ wsx c ks row c.nms.length).length = (ks ++ ksx c ks c.nms.length).length := by simp [wsx, ksx, wl]
  by_cases hm : c.shs.getD i Str.empty ∈ ks
  · rw [if_pos hm]
    obtain ⟨p, hp⟩ := List.getElem?_of_mem hm
    have hpl := (List.getElem?_eq_some_iff.mp hp).1
    rw [valOf_at nd (i := p) (by rw [List.getElem?_append_left hpl]; exact hp) ll, valOf_at (List.nodup_append.mp nd).1 hp wl]
    rw [List.getD_eq_getElem?_getD, List.getD_eq_getElem?_getD, List.getElem?_append_left (by omega)]
  · rw [if_neg hm]
    have : i ∈ exI c ks c.nms.length := List.mem_filter.mpr ⟨List.mem_range.mpr hi, by simpa using hm⟩
    obtain ⟨p, hp⟩ := List.getElem?_of_mem this
    rw [valOf_at nd (i := ks.length + p) (by rw [List.getElem?_append_right (by omega), Nat.add_sub_cancel_left, ksx, List.getElem?_map, hp]; rfl) ll]
    rw [List.getD_eq_getElem?_getD, List.getElem?_append_right (by omega), show ks.length + p - ws.length = p from by omega, wsx, List.getElem?_map, hp]
    rfl
end
end

end
section
set_option maxHeartbeats 4000000
section
variable {C : Cfg} {A : Around} {g h : Heap} {V : Led} {n : Nat} {R : Result → Heap → Prop}
abbrev evX : List Str := [Str.ofString "args", Str.ofString "changes", Str.ofString "inst", Str.ofString "msg", Str.ofString "cls", Str.ofString "attrs", Str.ofString "a", Str.ofString "attr_name", Str.ofString "init_name"]
theorem evolve_ok {k tv z : Addr} {c : Kc} {ks : List Str} {vs : List Value} {ws row : List Int} {nvals : List Value} (ok : c.Ok) (H0 : Hp C.w.params g V h) (Wd : Wld C g) (S0 : Stk A V) (r0 : Rm A (n + 5)) (pk : Kd C.w.params g k tv c) (pt : Tp g tv nvals) (hn : Mine.StrsAre nvals c.nms) (pz : Th C.w.params g z (.ref k) c.nms row)
    (hi : IntsAre vs ws) (hl : ks.length = vs.length) (nd : ks.Nodup) (kz : ks.length ≤ 50) (hs : ∀ x ∈ ks, Shrt x) (hb : ∀ w ∈ ws, w.natAbs < 900) (hb2 : ∀ w ∈ row, w.natAbs < 900) (hself : Str.ofString "self" ∉ ks) (hself2 : Str.ofString "self" ∉ c.shs)
    (q1 : (∀ x ∈ ks, x ∈ c.shs) → passes c (eRow c ks ws row) = true → ∀ z' g' h', Le g g' → Th C.w.params g' z' (.ref k) c.nms (eRow c ks ws row) → Hp C.w.params g' V h' → R (.ok (.ret (.ref z'))) h')
    (q2 : (∀ x ∈ ks, x ∈ c.shs) → passes c (eRow c ks ws row) = false → ∀ e g' h', Le g g' → Ex C.w.params (.type "ValueError") e (some .none) g' V h' → R (.error (.ref e)) h')
    (q3 : (∃ x ∈ ks, x ∉ c.shs) → ∀ e g' h', Le g g' → Ex C.w.params (.type "TypeError") e (some .none) g' V h' → R (.error (.ref e)) h') : CW C A (.call (.ref 135) ⟨[.ref z], ks.zip vs⟩) R h := by
  have zk := zip_keys (ks := ks) (vs := vs) (by omega)
  refine CW_fnB (xs := evX) (n := n + 4) H0.le Wd r0
    (Wd.K _ _ (show List.lookup 135 (hd.heap_39 C.w.params) = some _ by k_is)) rfl (codeRec_of (K := hd.heap_39 C.w.params) Wd.K (by k_is)) rfl rfl ⟨rfl, rfl⟩ ⟨⟨rfl, rfl⟩, rfl⟩ (by kernel_rfl) (by kernel_rfl) (by decide +kernel) ?_
  refine W_bind0k rfl rfl H0 Wd (by simp) (by rw [zk.1]; exact nd) (by rw [List.length_zip]; omega) ?_
  intro ta dk g1 h1 l1 Ta H1
  rw [zk.1, zk.2] at H1
  refine ⟨g1, (dk, .sd ks vs) :: V, [some (.ref ta), some (.ref dk), none, none, none, none, none, none, none], l1, H1, S0.more, by kernel_rfl, by kernel_rfl, ?_⟩
  k_search "in"
  replace S := S.less rfl
  replace Wd := Wd.up l1
  replace pk := pk.up l1
  replace pz := pz.up l1
  replace pt := pt.up l1
  obtain ⟨tn, at_, ea, oa, fs, mro, kI, T1, L2, Lm, fl⟩ := id pk
  obtain ⟨dz, zvals, zI, zd, zi, znd⟩ := id pz
  have zz := ok.z
  have vl : fs.length = c.nms.length := fl.1
  have wl : ws.length = ks.length := by rw [hl]; exact hi.length.symm
  have zl : zvals.length = c.nms.length := zd.len (C := C)
  have rl : row.length = c.nms.length := by rw [← zl]; exact zi.length.symm
  k_search "tt"
  refine W_TryN ?_
  k_search "tt"
  refine W_asT r.hd H Ta rfl rfl ?_
  intro h2 H
  k_search "tt"
  refine W_call (fieldsK_ok (n := n + 3) H Wd (by k_search "stk") r kI rfl ?_)
  intro h3 H
  k_search "tt"
  refine W_For ?_ (fun _ => rfl)
  k_search "tt"
  refine W_iter_tup r.hd T1 H ?_
  intro it h5 IT H
  refine CW_for (R := fun _ _ => True) (IT _ _) (fun j g' V' => Le g1 g' ∧ ∃ v1 v2 v3 vals, IntsAre vals (ws ++ wsx c ks row j) ∧ (ks ++ ksx c ks j).Nodup ∧ V' = (L, Sp.frm evX [some (.ref ta), some (.ref dk), some (.ref z), none, some (.ref k), some (.ref at_), v1, v2, v3]) :: (dk, .sd (ks ++ ksx c ks j) vals) :: V) ?_ H (Le.refl g1) ⟨Le.refl g1, none, none, none, vs, by simpa [wsx, exI] using hi, by simpa [ksx, exI] using nd, by simp [ksx, exI]⟩ ?_ ?_
  · rintro i g g' V1 l ⟨a, b⟩
    exact ⟨a.trans l, b⟩
  · rintro j g5 V1 h6 v le5 hj ⟨_, v1, v2, v3, vals, ha, nd2, rfl⟩ hy H
    dsimp only [List.cons_append] at H
    replace Wd := Wd.up le5
    replace zI := zI.up le5
    obtain ⟨a, x, sh, sps, rfl, e1, e2, e3, fd⟩ := fl.2 j v hy
    replace fd := fd.up le5
    obtain ⟨t1, t2, t3, t4, vk, cv, I, vk2, cvt⟩ := fd
    have gd : c.shs.getD j Str.empty = sh := getD_of e2
    have hnx := ksx_not (c := c) (ks := ks) ok.nd2 e2
    k_search "tt"
    refine W_notIn_sd (H.at (s := .sd _ _) (by k_search "mm")) nd2 ?_
    by_cases hm : sh ∈ ks
    · rw [decide_eq_true (List.mem_append_left _ hm)]
      k_search "tt"
      have es : exI c ks (j + 1) = exI c ks j := by rw [exI_succ, gd, if_pos hm]
      exact ⟨g5, _, Le.refl g5, ⟨le5, _, _, _, vals, by unfold wsx at ha ⊢; rw [es]; exact ha, by unfold ksx at nd2 ⊢; rw [es]; exact nd2, by unfold ksx; rw [es]⟩, H⟩
    · have hnn : sh ∉ ks ++ ksx c ks j := fun m => (List.mem_append.mp m).elim hm hnx
      rw [decide_eq_false hnn]
      k_search "tt"
      obtain ⟨t9, hvj⟩ := ints_at zi (j := j) (by omega)
      refine W_sub_sd ((zd.up le5).up H.le) ok.nd1 (Kk.of_get e1 hvj) ?_
      k_search "tt"
      have es : exI c ks (j + 1) = exI c ks j ++ [j] := by rw [exI_succ, gd, if_neg hm]
      have k1 : ks ++ ksx c ks (j + 1) = (ks ++ ksx c ks j) ++ [sh] := by unfold ksx; rw [es, List.map_append, List.append_assoc]; simp only [List.map_cons, List.map_nil, gd]
      have w1 : ws ++ wsx c ks row (j + 1) = (ws ++ wsx c ks row j) ++ [row.getD j 0] := by unfold wsx; rw [es, List.map_append, List.append_assoc]; rfl
      have kl : (ks ++ ksx c ks j).length ≤ 100 := by
        rw [List.length_append]
        have : (ksx c ks j).length ≤ j := by unfold ksx exI; rw [List.length_map]; exact Nat.le_trans (List.length_filter_le _ _) (by simp)
        omega
      refine W_setItem_sd (ks' := ks ++ ksx c ks (j + 1)) (vs' := vals ++ [.int (row.getD j 0) t9]) H nd2 (by k_search "up") (by rw [k1]; exact .new hnn) (by omega) ?_
      intro h9 H
      k_search "tt"
      refine ⟨g5, _, Le.refl g5, ⟨le5, _, _, _, _, by rw [w1]; exact ints_snoc ha, by rw [k1]; exact List.nodup_append.mpr ⟨nd2, by simp, fun a ha b hb q => hnn (by simp at hb; rw [← hb, ← q]; exact ha)⟩, rfl⟩, H⟩
  · rintro g5 V1 h6 le5 ⟨_, v1, v2, v3, vals, ha, nd2, rfl⟩ H
    rw [vl] at ha nd2 H
    replace Wd := Wd.up le5
    obtain ⟨g6, l6, s6, H6⟩ := H.give
    clear H
    have H := H6
    clear H6
    have s6 : Sd C.w.params g6 dk (ks ++ ksx c ks c.nms.length) vals := s6
    replace Wd := Wd.up l6
    have lf : Le g1 g6 := le5.trans l6
    replace pk := pk.up lf
    replace pt := pt.up lf
    replace kI := kI.up lf
    k_search "tt"
    refine W_argsK H Wd fun d7 h7 H => ?_
    replace H := H.swap
    k_search "tt"
    refine ⟨dk, _, _, g6, _, rfl, s6, nd2, ?_, H.swap, fun h8 H => ?_⟩
    · rw [List.length_append]
      have : (ksx c ks c.nms.length).length ≤ c.nms.length := by unfold ksx exI; rw [List.length_map]; exact Nat.le_trans (List.length_filter_le _ _) (by simp)
      omega
    refine ⟨by obtain ⟨dx, e2, _⟩ := kI; exact Kpr.inst (H.le _ _ e2) rfl, ?_⟩
    have vsl : vals.length = (ks ++ ksx c ks c.nms.length).length := by
      have e := ha.length
      rw [e]; simp [wsx, ksx, wl]
    have er := kRow_full (c := c) (ks := ks) (ws := ws) (row := row) ok nd2 wl
    have sub := ksx_sub (c := c) (ks := ks) (j := c.nms.length) (by rw [ok.l1]; exact Nat.le_refl _)
    have hsub : (∀ x ∈ ks ++ ksx c ks c.nms.length, x ∈ c.shs) ↔ ∀ x ∈ ks, x ∈ c.shs :=
      ⟨fun a x m => a x (List.mem_append_left _ m), fun a x m => (List.mem_append.mp m).elim (a x) fun m => (sub x m).1⟩
    refine W_call (kcall_ok (n := n) (ws := ws ++ wsx c ks row c.nms.length) ok H Wd (by k_search "stk") r pk pt hn ha vsl.symm nd2 ?_ ?_ ?_ ?_ ?_ ?_ ?_ ?_)
    · rw [List.length_append]
      have : (ksx c ks c.nms.length).length ≤ c.nms.length := by unfold ksx exI; rw [List.length_map]; exact Nat.le_trans (List.length_filter_le _ _) (by simp)
      omega
    · intro x m
      exact (List.mem_append.mp m).elim (hs x) fun m => (ok.s2 x (sub x m).1).1
    · intro w m
      rcases List.mem_append.mp m with m | m
      · exact hb w m
      · obtain ⟨i, hi, rfl⟩ := List.mem_map.mp m
        exact hb2 _ (getD_mem (by have := List.mem_range.mp (List.mem_filter.mp hi).1; omega))
    · intro _ s hs
      obtain ⟨i, hi⟩ := List.getElem?_of_mem hs
      by_cases hm : s ∈ ks
      · exact List.mem_append_left _ hm
      · refine List.mem_append_right _ (List.mem_map.mpr ⟨i, List.mem_filter.mpr ⟨List.mem_range.mpr ?_, ?_⟩, getD_of hi⟩)
        · have := (List.getElem?_eq_some_iff.mp hi).1; rw [ok.l1] at this; exact this
        · rw [getD_of hi]; simpa using hm
    · exact fun m => (List.mem_append.mp m).elim hself fun m => hself2 (sub _ m).1
    · intro hin hp z' g7 h9 l7 tz H
      rw [er] at hp tz
      k_search "tt"
      exact q1 (hsub.mp hin) hp z' g7 _ (l1.trans (lf.trans l7)) tz H.drop
    · intro hin hp e g7 h9 l7 X
      rw [er] at hp
      refine Be_ex (Sb.sf S (.head _) fun p hp => .tail _ hp) X (.inr (.inl rfl)) fun h' X => ?_
      exact q2 (hsub.mp hin) hp e g7 _ (l1.trans (lf.trans l7)) X.drop
    · rintro ⟨x, hx, hx2⟩ e g7 h9 l7 X
      refine Be_ex (Sb.sf S (.head _) fun p hp => .tail _ hp) X (.inr (.inl rfl)) fun h' X => ?_
      exact q3 ⟨x, (List.mem_append.mp hx).elim id fun m => absurd (sub x m).1 hx2, hx2⟩ e g7 _ (l1.trans (lf.trans l7)) X.drop
end

end
section
set_option maxHeartbeats 4000000
section
variable {C : Cfg} {A : Around} {g h : Heap} {V : Led} {n : Nat} {R : Result → Heap → Prop}
theorem own_cls (Wd : Wld C g) : ∃ nm q bs hdct sn sub ab col dd k0 k1 k2 k3 k5, g.get? 42 = some (excClassObj nm q 42 41 bs [.type "ValueError", .type "Exception", .type "BaseException", .type "object"] hdct sn sub ab col dd k0 k1 k2 k3 k5 "ValueError.__new__") :=
  ⟨_, _, _, _, _, _, _, _, _, _, _, _, _, _, Wd.K _ _ (show List.lookup 42 (hd.heap_39 C.w.params) = some _ by k_is)⟩
theorem exo_ok (P : Params) : exmOne (KF P) (.ref 42) (.ref 42) = some true := by kernel_rfl
theorem own_ns (Wd : Wld C g) : ∃ mN, g.Ns 41 mN ∧ mN "__init__" = none := by
  have e := Wd.K _ _ (show List.lookup 41 (hd.heap_39 C.w.params) = some _ by k_is)
  refine ⟨fun n => nsFind _ n, ⟨_, _, _, e, rfl, fun x hx => ?_, fun _ => rfl⟩, by kernel_rfl⟩
  simp only [List.mem_toArray, List.mem_cons, List.not_mem_nil, or_false] at hx
  rcases hx with rfl | rfl | rfl | rfl | rfl <;> exact ⟨_, _, rfl⟩
theorem Ex.newO {h h' : Heap} {e : Addr} {args : List Value} (H : Hp C.w.params g V h) (hx : Heap.MadeExcOf h h' e (.ref 42) args) : Ex C.w.params (.ref 42) e none g V h' := by
  obtain ⟨t, he, _, _⟩ := hx.there
  refine ⟨⟨fun b o e => hx.keeps b o (H.le b o e), fun p hp => (H.sat p hp).of_get fun o e => hx.keeps _ o e, H.out, H.nd⟩, ?_, fun m => ?_, _, _, _, he, rfl, rfl, rfl, rfl⟩
  · cases q : g.get? e with
    | none => rfl
    | some o => have := H.le _ _ q; rw [hx.new] at this; cases this
  · obtain ⟨p, hp, eq⟩ := List.mem_map.mp m
    obtain ⟨o, ho⟩ := (H.sat p hp).ex
    rw [show p.1 = e from eq, hx.new] at ho; cases ho
def RzO (C : Cfg) (g : Heap) (E : Value → Heap → Prop) (v : Value) (h : Heap) : Prop := ∃ e t, v = .ref e ∧ Le g h ∧ h.get? e = some { cls := .ref 42, data := .fields #[.ref t, .none, .none, .none, .bool false, .none] } ∧ E (.ref e) h
theorem W_call_own {E : Value → Heap → Prop} {rest : List Value} (H : Hp C.w.params g V h) (Wd : Wld C g) (hz : rest.length ≤ 10) (q : ∀ e h', Ex C.w.params (.ref 42) e none g V h' → E (.ref e) h') : W C A (call (.ref 42) rest) (fun v h' => RzO C g E v h') E h := fun k => by
  obtain ⟨mN, n1, n2⟩ := own_ns Wd
  have e := Wd.K _ _ (show List.lookup 42 (hd.heap_39 C.w.params) = some _ by k_is)
  refine wpAny_call_exc_sub F.excBase_ValueError (H.le _ _ e) (n1.keeps H.le) n2 (fun h' e hm => po ?_) (by rw [sizeLine_eq]; omega)
  obtain ⟨t, he, _⟩ := hm.there
  exact ⟨e, t, rfl, fun b o e => hm.keeps b o (H.le b o e), he, q e h' (Ex.newO H hm)⟩
theorem W_RaiseO {E : Value → Heap → Prop} {en : Env} {x : PySem.Expr} {pos : Pos} {Q : Flow → Heap → Prop} (Wd : Wld C g) (hh : A.handled = none) (y : W C A (eval x en) (fun v h' => RzO C g E v h') E h) : W C A (exec (.Raise (some x) none pos) en) Q E h := fun k => by
  obtain ⟨nm, q, bs, hdct, sn, sub, ab, col, dd, k0, k1, k2, k3, k5, e⟩ := own_cls Wd
  rw [arm_exec_Raise]
  refine wpAny_bind (wpAny_standAt ?_)
  show wpAny _ _ (raiseStmt en (some (do let v ← eval x en; standAt pos; pure v)) none) _ _ _
  refine wpAny_raiseStmt_made_sub (C := 42) (nm := nm) (q := q) (N := 41) (bs := bs) (hdct := hdct) (sn := sn) (sub := sub) (ab := ab) (col := col) (dd := dd) (k0 := k0) (k1 := k1) (k2 := k2) (k3 := k3) (k5 := k5) (newId := "ValueError.__new__") F.excBase_ValueError.hasBase hh (wpAny_bind (wpAny_mono (y k) (fun v s1 z => wpAny_bind (wpAny_standAt (wpAny_pure ?_))) fun _ _ z => z))
  obtain ⟨h1, k1, rfl, e1, t, rfl, le, he, hE⟩ := z
  exact ⟨e1, t, rfl, le _ _ e, he, po hE⟩
theorem W_TryO {E : Value → Heap → Prop} {en : Env} {L : Addr} {body : List Stmt} {t : PySem.Expr} {b0 : Stmt} {suite : List Stmt} {hp pos : Pos} {Q : Flow → Heap → Prop}
    (x : W C A (execs body en) Q (fun e h' => ∃ ea st g V, e = .ref ea ∧ Wld C g ∧ Ex C.w.params (.ref 42) ea st g V h' ∧ (st = none ∨ st = some .none ∨ st = some (rawInt L)) ∧ Sf A en L V ∧
      ∀ h1, Ex C.w.params (.ref 42) ea (some .none) g V h1 → W C (A.mark (some (.ref ea))) (eval t en) (fun c h2 => c = .ref 42 ∧ ∃ fl g2 V2, Wld C g2 ∧ Ex C.w.params (.ref 42) ea (some fl) g2 V2 h2 ∧ ∀ h3, Ex C.w.params (.ref 42) ea (some .none) g2 V2 h3 → W C (A.mark (some (.ref ea))) (execs (b0 :: suite) en) Q No h3) No h1) h) :
    W C A (exec (.Try body [.ExceptHandler (some t) none (b0 :: suite) hp] [] [] pos) en) Q E h := fun k => by
  refine wpAny_Try_except (wpAny_mono (x k) (fun f s1 z => ?_) fun e s1 z => ?_)
  · obtain ⟨h1, k1, rfl, z⟩ := z
    cases f <;> first | exact po z | exact wpAny_pure (po z)
  · obtain ⟨h1, k1, rfl, ea, st, g, V, rfl, Wd, ex, hst, S, q⟩ := z
    refine wpAny_mono (W_note (C := C) (A := A) (E := E) (Q := fun _ h' => Ex C.w.params (.ref 42) ea (some (rawInt L)) g V h') S ex hst (fun h' X' => X') k1) (fun _ s2 z => ?_) fun _ _ z => z
    obtain ⟨h2, k2, rfl, ex2⟩ := z
    refine wpAny_mono (W_flight (C := C) (A := A) (E := E) (fr := none) (Q := fun _ h' => Ex C.w.params (.ref 42) ea (some .none) g V h') ex2 (fun h' X' => X') k2) (fun _ s3 z => ?_) fun _ _ z => z
    obtain ⟨h3, k3, rfl, ex3⟩ := z
    refine wpAny_handleBy_cons (codeAny_handlers_test (wpAny_mono (q h3 ex3 k3) (fun c s4 z => ?_) fun _ _ z => no_of z)) (by intro q; cases q)
    obtain ⟨h4, k4, rfl, rfl, fl, g2, V2, Wd2, ex4, q4⟩ := z
    have X4 := Wd2.K.keeps ex4.H.le
    have LT : Looks C.M h4 (typeOf (.ref ea)) (.ref 42) := by
      obtain ⟨_, _, _, oe, vs, a0, he, hc, _⟩ := ex4
      rw [← hc]
      exact (Looks.ld he).andThen .now
    refine (exm_one X4 LT (exo_ok _)).here ?_
    refine codeAny_handlers_suite ?_
    refine wpAny_mono (W_flight (C := C) (A := A.mark (some (.ref ea))) (E := No) (fr := none) (Q := fun _ h' => Ex C.w.params (.ref 42) ea (some .none) g2 V2 h') ex4 (fun h' X' => X') k4) (fun _ s5 z => ?_) fun _ _ z => no_of z
    obtain ⟨h5, k5, rfl, ex5⟩ := z
    exact wpAny_mono (q4 h5 ex5 k5) (fun f s6 z => z) fun _ _ z => no_of z
end

end
section
set_option maxHeartbeats 4000000
section
variable {C : Cfg} {A : Around} {g h : Heap} {V : Led} {n : Nat} {R : Result → Heap → Prop}
def aRow (nms ks : List Str) (ws row : List Int) : List Int := (List.range nms.length).map fun i => if nms.getD i Str.empty ∈ ks then valOf ks ws (nms.getD i Str.empty) else row.getD i 0
theorem getD_str {l : List Str} {i : Nat} (h : i < l.length) : l[i]? = some (l.getD i Str.empty) := by rw [List.getD_eq_getElem?_getD, List.getElem?_eq_getElem h]; rfl
theorem aRow_len {nms ks : List Str} {ws row : List Int} : (aRow nms ks ws row).length = nms.length := by simp [aRow]
theorem aRow_at {nms ks : List Str} {ws row : List Int} {i : Nat} (h : i < nms.length) : (aRow nms ks ws row)[i]? = some (if nms.getD i Str.empty ∈ ks then valOf ks ws (nms.getD i Str.empty) else row.getD i 0) := by
  unfold aRow
  rw [List.getElem?_map, List.getElem?_range h]; rfl
theorem aRow_snoc {nms ks : List Str} {ws row : List Int} {x : Str} {w : Int} {p : Nat} (nd : (ks ++ [x]).Nodup) (wl : ws.length = ks.length) (nn : nms.Nodup) (hp : nms[p]? = some x) : aRow nms (ks ++ [x]) (ws ++ [w]) row = (aRow nms ks ws row).set p w := by
  have hpl := (List.getElem?_eq_some_iff.mp hp).1
  have ll : (ws ++ [w]).length = (ks ++ [x]).length := by simp [wl]
  refine List.ext_getElem? fun i => ?_
  rw [List.getElem?_set, aRow_len]
  by_cases hi : i < nms.length
  · rw [aRow_at hi]
    by_cases hip : p = i
    · subst hip
      rw [if_pos rfl, if_pos hpl, getD_of hp, if_pos (by simp)]
      rw [valOf_at nd (i := ks.length) (by simp) ll, List.getD_eq_getElem?_getD, ← wl]
      simp
    · rw [if_neg hip, aRow_at hi]
      have e := getD_str hi
      have hne : nms.getD i Str.empty ≠ x := fun q => by
        rw [q] at e
        exact hip ((List.getElem?_inj hpl nn).mp (hp.trans e.symm))
      by_cases hm : nms.getD i Str.empty ∈ ks
      · rw [if_pos hm, if_pos (List.mem_append_left _ hm)]
        obtain ⟨q, hq⟩ := List.getElem?_of_mem hm
        have hql := (List.getElem?_eq_some_iff.mp hq).1
        rw [valOf_at nd (i := q) (by rw [List.getElem?_append_left hql]; exact hq) ll, valOf_at (List.nodup_append.mp nd).1 hq wl]
        rw [List.getD_eq_getElem?_getD, List.getD_eq_getElem?_getD, List.getElem?_append_left (by omega)]
      · rw [if_neg hm, if_neg (fun m => (List.mem_append.mp m).elim hm fun m => hne (by simpa using m))]
  · rw [List.getElem?_eq_none (by rw [aRow_len]; omega), if_neg (by omega)]
    rw [List.getElem?_eq_none (by rw [aRow_len]; omega)]
theorem aRow_nil {nms : List Str} {row : List Int} (h : row.length = nms.length) : aRow nms [] [] row = row := by
  refine List.ext_getElem? fun i => ?_
  by_cases hi : i < nms.length
  · rw [aRow_at hi, if_neg (by simp), List.getD_eq_getElem?_getD, List.getElem?_eq_getElem (by omega)]; rfl
  · rw [List.getElem?_eq_none (by rw [aRow_len]; omega), List.getElem?_eq_none (by omega)]
theorem ints_set {vs : List Value} {ns : List Int} (h : IntsAre vs ns) : ∀ {p : Nat} {w : Int} {t : Tok}, IntsAre (vs.set p (.int w t)) (ns.set p w) := by
  induction h with
  | nil => intro p w t; exact .nil
  | cons n u h ih =>
    intro p w t
    cases p with
    | zero => exact .cons _ _ h
    | succ p => exact .cons _ _ ih
theorem Ks.of_set : ∀ {ks : List Str} {vs : List Value} {p : Nat} {x : Str} {v : Value}, ks[p]? = some x → vs.length = ks.length → Ks ks vs x v (vs.set p v)
  | k :: ks, w :: vs, 0, x, v, e, l => by cases e; exact .head
  | k :: ks, w :: vs, p + 1, x, v, e, l => .tail (Ks.of_set (by simpa using e) (by simpa using l))
  | [], _, _, _, _, e, _ => by simp at e
  | _ :: _, [], _, _, _, _, l => by simp at l
theorem k42_ok (P : Params) (q : Program) : isMachineK (peek (KF P) ⟨q, P⟩ (keeperOf (.ref 42))) = true := by kernel_rfl
theorem Kpr.own (Wd : Wld C g) (le : Le g h) : Kpr C (.ref 42) h := by
  have e := k42_ok C.w.params C.prog
  unfold isMachineK at e
  split at e
  · rename_i q; exact Kpr.peek Wd.K le q
  · cases e
abbrev asX : List Str := [Str.ofString "inst", Str.ofString "changes", Str.ofString "new", Str.ofString "names", Str.ofString "k", Str.ofString "v", Str.ofString "msg"]
theorem assoc_ok {k tv z : Addr} {c : Kc} {ks : List Str} {vs : List Value} {ws row : List Int} (ok : c.Ok) (H0 : Hp C.w.params g V h) (Wd : Wld C g) (S0 : Stk A V) (r0 : Rm A (n + 4)) (pk : Kd C.w.params g k tv c) (pz : Th C.w.params g z (.ref k) c.nms row)
    (hi : IntsAre vs ws) (hl : ks.length = vs.length) (nd : ks.Nodup) (kz : ks.length ≤ 50) (hs : ∀ x ∈ ks, Shrt x) (hself : Str.ofString "inst" ∉ ks)
    (q1 : (∀ x ∈ ks, x ∈ c.nms) → ∀ z' g' h', Le g g' → Th C.w.params g' z' (.ref k) c.nms (aRow c.nms ks ws row) → Hp C.w.params g' V h' → R (.ok (.ret (.ref z'))) h')
    (q2 : (∃ x ∈ ks, x ∉ c.nms) → ∀ e g' h', Le g g' → Ex C.w.params (.ref 42) e (some .none) g' V h' → R (.error (.ref e)) h') : CW C A (.call (.ref 495) ⟨[.ref z], ks.zip vs⟩) R h := by
  have zk := zip_keys (ks := ks) (vs := vs) (by omega)
  refine CW_fnB (xs := asX) (n := n + 3) H0.le Wd r0
    (Wd.K _ _ (show List.lookup 495 (hd.heap_39 C.w.params) = some _ by k_is)) rfl (codeRec_of (K := hd.heap_39 C.w.params) Wd.K (by k_is)) rfl rfl ⟨rfl, rfl⟩ ⟨⟨rfl, rfl⟩, rfl⟩ (by kernel_rfl) (by kernel_rfl) (by decide +kernel) ?_
  refine W_bind1k rfl rfl H0 Wd (by simp) (fun _ => rfl) (by rw [zk.1]; exact nd) (by rw [List.length_zip]; omega) (by rw [zk.1]; exact hself) (by intro a e; cases e) ?_
  intro _ dk h1 H1
  rw [zk.1, zk.2] at H1
  refine ⟨g, (dk, .sd ks vs) :: V, [some (.ref z), some (.ref dk), none, none, none, none, none], Le.refl g, H1, S0.more, by kernel_rfl, by kernel_rfl, ?_⟩
  k_search "in"
  replace S := S.less rfl
  obtain ⟨g2, l2, s2, H2⟩ := H.give
  clear H
  have H := H2
  clear H2
  have s2 : Sd C.w.params g2 dk ks vs := s2
  replace Wd := Wd.up l2
  replace pk := pk.up l2
  replace pz := pz.up l2
  obtain ⟨tn, at_, ea, oa, fs, mro, kI, T1, L2, Lm, fl⟩ := id pk
  obtain ⟨dz, zvals, zI, zd, zi, znd⟩ := id pz
  have zz := ok.z
  have vl : fs.length = c.nms.length := fl.1
  have wl : ws.length = ks.length := by rw [hl]; exact hi.length.symm
  have zl : zvals.length = c.nms.length := zd.len (C := C)
  have rl : row.length = c.nms.length := by rw [← zl]; exact zi.length.symm
  k_search "tt"
  refine W_call (md_make (n := n + 1) H Wd (by k_search "stk") r ?_)
  intro nw dd g3 h3 l3 nI H
  replace Wd := Wd.up l3
  replace zd := zd.up l3
  replace zI := zI.up l3
  replace kI := kI.up l3
  replace T1 := T1.up l3
  replace fl := fl.up l3
  replace s2 := s2.up l3
  replace H := H.swap
  k_search "tt"
  refine W_CallM (fun _ => rfl) rfl ?_
  k_search "tt"
  refine W_callee rfl ?_
  refine W_get_update (H.at (s := .sd _ _) (by k_search "mm")) ?_
  k_search "tt"
  refine W_updateD H (by k_search "up") zd ok.nd1 (by omega) ?_
  intro h4 H
  k_search "tt"
  refine W_AssignLC (cl' := []) (cxs := [Str.ofString "a"]) F ⟨rfl, by kernel_rfl, rfl, by kernel_rfl, by kernel_rfl, by decide +kernel⟩ (F.env (P := fun en => swapsWith _ _ _ en = pure true) fun _ _ _ _ _ _ _ _ _ _ _ => by kernel_rfl) ?_ (fun _ => rfl)
  k_search "tt"
  refine W_call (fieldsM_ok (n := n + 1) H Wd (by k_search "stk") r zI kI rfl ?_)
  intro h5 H
  k_search "tt"
  refine W_iter_tup r.hd T1 H ?_
  intro it h6 IT H
  refine ⟨(dd, .sd c.nms zvals) :: V, _, fs.length, _, _, g3, fun i _ acc => Mine.StrsAre acc (c.nms.take i), IT _ _, by omega, H, ⟨by simp, fun i x e => by simp at e⟩, fun _ _ _ _ _ e => e, ?_, ?_⟩
  · rintro i g' acc Cf D5 cen cvs v h4 le hi sa hy F H
    obtain ⟨cv, rfl⟩ := one_of H
    dsimp only [List.cons_append] at H
    replace Wd := Wd.up le
    obtain ⟨a, x, sh, sps, rfl, e1, e2, e3, t1, t2, t3, t4, vk, cv2, I, _, _⟩ := fl.2 i v hy
    replace I := I.up le
    k_search "tt"
    refine ⟨g', _, Le.refl g', ?_, H⟩
    show Mine.StrsAre _ (c.nms.take (i + 1))
    rw [List.take_add_one, e1]
    exact sa.snoc
  rintro g4 D3 acc l4 sa
  rw [vl, List.take_length] at sa
  refine ⟨_, by k_search "st", ?_⟩
  intro h8 H
  obtain ⟨g5, l5, s5, H5⟩ := H.give
  clear H
  have H := H5
  clear H5
  have s5 : Lst g5 D3 acc := s5
  have l45 := l4.trans l5
  replace Wd := Wd.up l45
  replace s2 := s2.up l45
  replace nI := nI.up l45
  replace zI := zI.up l45
  replace kI := kI.up l45
  k_search "tt"
  refine W_For ?_ (fun _ => rfl)
  refine W_CallM (fun _ => rfl) rfl ?_
  k_search "tt"
  refine W_callee rfl ?_
  refine W_get_items (s2.up H.le) ?_
  k_search "tt"
  refine W_items H (s2.up H.le) nd ?_
  intro vw g6 h9 l6 Vw6 H
  replace Wd := Wd.up l6
  replace s2 := s2.up l6
  replace s5 := s5.up l6
  replace nI := nI.up l6
  replace zI := zI.up l6
  replace kI := kI.up l6
  k_search "tt"
  refine W_iter_itemsN r.hd s2 nd Vw6 H ?_
  intro it3 S3 h10 IT3 H
  have lf : Le g g6 := l2.trans (l3.trans (l45.trans l6))
  refine CW_for (R := fun _ _ => True) (IT3 _ _ _) (fun j g' V' => Le g6 g' ∧ (∀ (i : Nat) (x : Str), i < j → ks[i]? = some x → x ∈ c.nms) ∧ ∃ v1 v2 v3 vals, IntsAre vals (aRow c.nms (ks.take j) (ws.take j) row) ∧ V' = (L, Sp.frm asX [some (.ref z), some (.ref dk), some (.ref nw), some (.ref D3), v1, v2, v3]) :: (dd, .sd c.nms vals) :: V) ?_ H (Le.refl g6) ⟨Le.refl g6, fun i x h => absurd h (Nat.not_lt_zero _), none, none, none, zvals, by rw [List.take_zero, List.take_zero, aRow_nil rl]; exact zi, rfl⟩ ?_ ?_
  · rintro i g g' V1 l ⟨a, b⟩
    exact ⟨a.trans l, b⟩
  · rintro j g7 V1 h12 v le7 hj ⟨_, hin, v1, v2, v3, vals, ha, rfl⟩ ⟨ta2, x, tx, y, rfl, hx, hy, tp⟩ H
    dsimp only [List.cons_append] at H
    replace Wd := Wd.up le7
    replace nI := nI.up le7
    replace zI := zI.up le7
    replace kI := kI.up le7
    refine W_asI r.hd H tp rfl rfl ?_
    intro h13 H
    k_search "tt"
    refine W_notInL ((s5.up le7).up H.le) sa ?_
    by_cases hx2 : x ∈ c.nms
    · rw [decide_eq_true hx2]
      k_search "tt"
      obtain ⟨p, hp⟩ := List.getElem?_of_mem hx2
      obtain ⟨ty, hyy⟩ := ints_at hi (j := j) (by omega)
      rw [hy] at hyy
      cases hyy
      have vln : vals.length = c.nms.length := by rw [ha.length, aRow_len]
      refine W_setItem_sd (ks' := c.nms) (vs' := vals.set p (.int (ws.getD j 0) ty)) H ok.nd1 (by k_search "up") (.old ok.nd1 (Ks.of_set hp vln)) (by omega) ?_
      intro h14 H
      k_search "tt"
      refine ⟨g7, _, Le.refl g7, ⟨le7, ?_, _, _, _, _, ?_, rfl⟩, H⟩
      · intro i x' hi e
        by_cases hij : i = j
        · subst hij; rw [hx] at e; cases e; exact hx2
        · exact hin i x' (by omega) e
      · have tk : ks.take (j + 1) = ks.take j ++ [x] := by rw [List.take_add_one, hx]; rfl
        have tw : ws.take (j + 1) = ws.take j ++ [ws.getD j 0] := by
          rw [List.take_add_one, List.getD_eq_getElem?_getD, List.getElem?_eq_getElem (by omega)]; rfl
        rw [tk, tw, aRow_snoc (by rw [← tk]; exact nd.sublist (List.take_sublist _ _)) (by simp; omega) ok.nd1 hp]
        exact ints_set ha
    · rw [decide_eq_false hx2]
      have hsx := hs x (List.mem_of_getElem? hx)
      obtain ⟨kks, kvs, kt, kI2, knd, kkn⟩ := (pk.up (l3.trans (l45.trans (l6.trans le7)))).kn
      k_search "tt"
      k_search "joi"
      k_search "joi"
      k_search "joi"
      k_search "tt"
      refine W_fmt_str (by have := hsx.1; omega) ?_
      intro t5
      refine ⟨_, _, 10, rfl, hsx.1, by decide, fun o1 z1 => ?_⟩
      replace z1 : o1.length ≤ 10 := z1
      k_search "joi"
      k_search "tt"
      refine ⟨_, _, 40, rfl, by decide +kernel, by decide, fun o2 z2 => ?_⟩
      k_search "joi"
      k_search "joi"
      k_search "tt"
      refine W_fmt_str (by decide +kernel) ?_
      intro t6
      refine ⟨_, _, 10, rfl, by decide +kernel, by decide, fun o3 z3 => ?_⟩
      k_search "joi"
      k_search "tt"
      refine ⟨_, _, 1, rfl, by decide +kernel, by decide, fun o4 z4 => ?_⟩
      refine W_join_nil (by omega) ?_
      intro t7
      k_search "tt"
      refine W_RaiseO Wd r.hd ?_
      k_search "tt"
      refine ⟨Kpr.own Wd H.le, ?_⟩
      dsimp only [List.nil_append, List.cons_append, List.zip, List.zipWith, namesOf, Option.toList]
      refine W_call_own H Wd ?_ fun ea h' X => ?_
      · simp
      refine Nf_ex (Sb.sf S (.head _) fun p hp => .tail _ (.tail _ (List.mem_append_left _ hp))) X (.inl rfl) fun h' X => ?_
      refine Be_ex (Sb.sf S (.head _) fun p hp => .tail _ (.tail _ (List.mem_append_left _ hp))) X (.inr (.inr rfl)) fun h' X => ?_
      exact q2 ⟨x, List.mem_of_getElem? hx, hx2⟩ ea g7 _ (lf.trans le7) (Ex.left X.drop.drop)
  · rintro g7 V1 h12 le7 ⟨_, hin, v1, v2, v3, vals, ha, rfl⟩ H
    rw [List.take_of_length_le (by omega), List.take_of_length_le (by omega)] at ha
    replace Wd := Wd.up le7
    replace nI := nI.up le7
    have hin2 : ∀ x ∈ ks, x ∈ c.nms := fun x hx => by
      obtain ⟨i, hi, e⟩ := List.getElem_of_mem hx
      exact hin i x hi (by rw [← e]; exact List.getElem?_eq_getElem hi)
    obtain ⟨g8, l8, s8, H8⟩ := H.give
    clear H
    have H := H8
    clear H8
    have s8 : Sd C.w.params g8 dd c.nms vals := s8
    replace Wd := Wd.up l8
    k_search "tt"
    exact q1 hin2 nw g8 _ (lf.trans (le7.trans l8)) ⟨dd, vals, nI.up l8, s8, ha, ok.nd1⟩ H.drop
end

end
section
set_option maxHeartbeats 4000000
section
variable {C : Cfg} {A : Around} {g h : Heap} {V : Led} {n : Nat} {R : Result → Heap → Prop}
theorem called_ok {f : Value} {vl nd : Addr} {ws : List Value} {ks : List Str} {vs : List Value} {P : Heap → Value → Prop} {B : Value → Prop} (H0 : Hp C.w.params g V h) (Wd : Wld C g) (S0 : Stk A V) (r0 : Rm A (n + 1)) (p1 : Sq g vl ws) (p2 : Sd C.w.params g nd ks vs) (knd : ks.Nodup) (kz : ks.length ≤ 100) (wz : ws.length ≤ 100)
    (kp : ∀ h', Le g h' → Kpr C f h')
    (x : ∀ (A' : Around) (p : Addr × Sp) (h' : Heap), Hp C.w.params g (p :: V) h' → Stk A' (p :: V) → Rm A' n → CW C A' (.call f ⟨ws, ks.zip vs⟩) (Rv (fun v h2 => ∃ g', Le g g' ∧ P g' v ∧ Hp C.w.params g' (p :: V) h2) (fun e h2 => ∃ ea cls g', e = .ref ea ∧ Le g g' ∧ B cls ∧ Ex C.w.params cls ea (some .none) g' (p :: V) h2)) h')
    (q1 : ∀ v g' h', Le g g' → P g' v → Hp C.w.params g' V h' → R (.ok (.ret v)) h')
    (q2 : ∀ e cls g' h', Le g g' → B cls → Ex C.w.params cls e (some .none) g' V h' → R (.error (.ref e)) h') : CW C A (.call (.ref 490) ⟨[f, .ref vl, .ref nd], []⟩) R h := by
  refine CW_fn (xs := [Str.ofString "thing", Str.ofString "values", Str.ofString "names"]) (binds := [(Str.ofString "thing", f), (Str.ofString "values", .ref vl), (Str.ofString "names", .ref nd)]) (vs := [some (f), some (.ref vl), some (.ref nd)]) (n := n) H0 Wd (S0) r0
    (Wd.K _ _ (show List.lookup 490 (hd.heap_39 C.w.params) = some _ by k_is)) rfl (codeRec_of (K := hd.heap_39 C.w.params) Wd.K (by k_is)) rfl (Looks.of_pure (by kernel_rfl)) rfl ⟨rfl, rfl⟩ ⟨⟨rfl, rfl⟩, rfl⟩ (by kernel_rfl) (by kernel_rfl) (by kernel_rfl) (by decide +kernel) (by kernel_rfl) ?_
  k_search "in"
  k_search "tt"
  refine W_argsSK ?_
  k_search "tt"
  refine ⟨vl, ws, g, _, rfl, p1, by omega, H, Wd, fun d h2 H => ?_⟩
  replace H := H.swap
  k_search "tt"
  refine ⟨nd, ks, vs, rfl, p2, knd, by omega, H.swap, fun h3 H => ?_⟩
  refine ⟨kp _ H.le, ?_⟩
  dsimp only [List.nil_append]
  refine W_call (CW_mono (x _ _ h3 H (by k_search "stk") r) fun rr h4 z => ?_)
  cases rr with
  | ok fl =>
    cases fl <;> first | exact z.elim | skip
    obtain ⟨g', l, pv, H⟩ := z
    replace Wd := Wd.up l
    k_search "tt"
    exact q1 _ g' _ l pv H.drop
  | error e =>
    obtain ⟨ea, cls, g', rfl, l, b, X⟩ := z
    refine Be_ex (Sb.sf S (.head _) fun p hp => .tail _ hp) X (.inr (.inl rfl)) fun h' X => ?_
    exact q2 ea cls g' _ l b X.drop
end

end
section
set_option maxHeartbeats 4000000
section
variable {C : Cfg} {A : Around} {g h : Heap} {V : Led} {n : Nat} {R : Result → Heap → Prop}
abbrev ppQ : Pos → Str := fun _ => Str.ofString "pipe.<locals>.wrapped_pipe"
def Stp (P : Params) (g : Heap) (f : Addr) : Prop := ∃ c t, Nst P g f 502 0 (Str.ofString "pipe.<locals>.wrapped_pipe") [(Str.ofString "setters", c)] ∧ Sat P g g c (.cell (some (.ref t))) ∧ Tp g t [.ref 516, .ref 509]
theorem Stp.up {P : Params} {g g' : Heap} {f : Addr} (x : Stp P g f) (le : Le g g') : Stp P g' f := let ⟨c, t, a, b, d⟩ := x; ⟨c, t, a.up le, b.up1 le, d.up le⟩
theorem pipe_ok (H0 : Hp C.w.params g V h) (Wd : Wld C g) (S0 : Stk A V) (r0 : Rm A (n + 1)) (mt : (497, .tab ppQ) ∈ V)
    (q : ∀ f g' h', Le g g' → Stp C.w.params g' f → Hp C.w.params g' V h' → R (.ok (.ret (.ref f))) h') : CW C A (.call (.ref 502) ⟨[.ref 516, .ref 509], []⟩) R h := by
  refine CW_fnBK (xs := [Str.ofString "wrapped_pipe"]) (cn := [Str.ofString "setters"]) (n := n) H0.le Wd r0
    (Wd.K _ _ (show List.lookup 502 (hd.heap_39 C.w.params) = some _ by k_is)) rfl (codeRec_of (K := hd.heap_39 C.w.params) Wd.K (by k_is)) rfl rfl ⟨⟨rfl, rfl⟩, rfl⟩ ⟨⟨rfl, rfl⟩, rfl⟩ (by kernel_rfl) (by decide +kernel) (by kernel_rfl) (by kernel_rfl) (by decide +kernel) ?_
  refine W_bind0 rfl rfl H0 (by simp) ?_
  intro t g1 h1 l1 T H1
  refine ⟨g1, V, [none], l1, H1, S0, by kernel_rfl, by kernel_rfl, ?_⟩
  k_search "in"
  have H : Hp C.w.params g1 ((L, Sp.frm [Str.ofString "wrapped_pipe"] [none]) :: (L + 1, Sp.cell (some (.ref t))) :: V) h := H
  have F : Fe en L _ [Str.ofString "wrapped_pipe"] [(Str.ofString "setters", L + 1)] := F
  replace Wd := Wd.up l1
  refine W_execs (W_Def ?_ rfl rfl rfl)
  rw [show qualnameIn en (Str.ofString "wrapped_pipe") (Str.ofString "wrapped_pipe") = Str.ofString "pipe.<locals>.wrapped_pipe" from by unfold qualnameIn; rw [F.kof (k := .local) (by kernel_rfl), Fq.2.1]; kernel_rfl]
  refine W_makeFn (P := 497) (q := ppQ) (clos := [(Str.ofString "setters", L + 1)]) H Wd F.glob Fq.2.2 (by decide) (by k_search "mt") (by rw [F.cells]; kernel_rfl) (fun p a b => rfl) ?_
  intro f g2 h2 l2 fo H2
  refine W_storeL F H2 St.head ?_
  intro h3 H3
  obtain ⟨g4, l4, s4, H⟩ := H3.give
  k_search "tt"
  exact q f g4 _ (l1.trans (l2.trans l4)) ⟨L + 1, t, ⟨_, _, _, _, _, _, _, _, _, _, (show List.lookup 502 (hd.heap_39 C.w.params) = some _ by k_is), rfl, rfl, fo.up l4⟩, s4, T.up (l2.trans l4)⟩ H.drop
theorem step_ok {f z one tv : Addr} {k : Addr} {i : Nat} {x sh : Str} {sps : List VS} {hw m v : Int} {t : Tok} {nvals : List Value} {nms : List Str} {row : List Int} (H0 : Hp C.w.params g V h) (Wd : Wld C g) (S0 : Stk A V) (r0 : Rm A (n + 4)) (p0 : Stp C.w.params g f) (p1 : Fd C.w.params g one tv i x sh sps hw m)
    (ok : ∀ s ∈ sps, okV i nms.length s) (p2 : Tp g tv nvals) (hn : Mine.StrsAre nvals nms) (p3 : Th C.w.params g z (.ref k) nms row) (p5 : Kn C.w.params g k (Str.ofString "Row")) (hx : nms[i]? = some x) (hz : nms.length ≤ 4) (hl : x.length ≤ 10) (hv : (rd m v).natAbs < 1000) (hm : m ≠ 0)
    (q1 : sps.any (badV row i (rd m v)) = false → ∀ t' g' h', Le g g' → Hp C.w.params g' V h' → R (.ok (.ret (.int (rd m v) t'))) h')
    (q2 : sps.any (badV row i (rd m v)) = true → ∀ e g' h', Le g g' → Ex C.w.params (.type "ValueError") e (some .none) g' V h' → R (.error (.ref e)) h') :
    CW C A (.call (.ref f) ⟨[.ref z, .ref one, .int v t], []⟩) R h := by
  obtain ⟨c1, tt, ⟨oc, od, fdO, sl, bs, name, params, body, scope, pos, e1, e2, e3, doc, pm, cdv, ctv, e4, e5⟩, s1, T1⟩ := p0
  have e0 : (KF C.w.params).lookup 502 = some _ := (show List.lookup 502 (hd.heap_39 C.w.params) = some _ by k_is)
  rw [e1] at e0
  cases e0; cases e2; cases e3
  clear e1
  refine CW_fn (xs := [Str.ofString "instance", Str.ofString "attrib", Str.ofString "new_value", Str.ofString "rv", Str.ofString "setter"]) (binds := [(Str.ofString "instance", .ref z), (Str.ofString "attrib", .ref one), (Str.ofString "new_value", .int v t)]) (vs := [some (.ref z), some (.ref one), some (.int v t), none, none]) (n := n + 3) H0 Wd S0 r0
    e4 rfl e5 rfl (Looks.of_pure (by kernel_rfl)) rfl ⟨rfl, rfl⟩ ⟨⟨rfl, rfl⟩, rfl⟩ (by kernel_rfl) (by kernel_rfl) (by kernel_rfl) (by decide +kernel) (by kernel_rfl) ?_
  k_search "in"
  clear e4 e5
  obtain ⟨dz, zvals, zI, zd, zi, znd⟩ := id p3
  k_search "tt"
  refine W_For ?_ (fun _ => rfl)
  k_search "tt"
  refine W_iter_tup r.hd T1 H ?_
  intro it h6 IT H
  refine CW_for (R := fun _ _ => True) (IT _ _) (fun j g' V' => Le g g' ∧ ∃ t' vv, V' = (L, Sp.frm [Str.ofString "instance", Str.ofString "attrib", Str.ofString "new_value", Str.ofString "rv", Str.ofString "setter"] [some (.ref z), some (.ref one), some (.int v t), some (.int (if j = 0 then v else rd m v) t'), vv]) :: V ∧ (j = 2 → sps.any (badV row i (rd m v)) = false)) ?_ H (Le.refl g) ⟨Le.refl g, _, _, rfl, by intro q; cases q⟩ ?_ ?_
  · rintro i g g' V1 l ⟨a, b⟩
    exact ⟨a.trans l, b⟩
  · rintro j g7 V1 h12 w le7 hj ⟨_, t', vv, rfl, _⟩ hy H
    dsimp only [List.cons_append] at H
    replace Wd := Wd.up le7
    replace p1 := p1.up le7
    replace p2 := p2.up le7
    replace p3 := p3.up le7
    replace p5 := p5.up le7
    replace zI := zI.up le7
    have hj2 : j < 2 := hj
    rcases j with _ | _ | j
    · cases hy
      rw [if_pos rfl] at H
      k_search "tt"
      refine W_call (convert_ok (n := n) H Wd (by k_search "stk") r p1 zI p5 hm ?_)
      intro t8 h8 H
      k_search "tt"
      exact ⟨g7, _, Le.refl g7, ⟨le7, _, _, rfl, by intro q; cases q⟩, H⟩
    · cases hy
      rw [if_neg (by decide)] at H
      k_search "tt"
      refine W_call (validate_ok (n := n) H Wd (by k_search "stk") r p1 ok p2 hn p3 hx hz hl hv ?_ ?_)
      · intro b g8 h8 l8 H
        k_search "tt"
        exact ⟨g8, _, l8, ⟨le7.trans l8, _, _, rfl, fun _ => b⟩, H⟩
      · intro b e g8 h8 l8 X
        refine Nf_ex (Sb.sf S (.head _) fun p hp => .tail _ (List.mem_append_left _ hp)) X (.inr (.inl rfl)) fun h' X => ?_
        refine Be_ex (Sb.sf S (.head _) fun p hp => .tail _ (List.mem_append_left _ hp)) X (.inr (.inr rfl)) fun h' X => ?_
        exact q2 b e g8 _ (le7.trans l8) (Ex.left X.drop)
    · omega
  · rintro g7 V1 h12 le7 ⟨_, t', vv, rfl, hb⟩ H
    replace Wd := Wd.up le7
    rw [if_neg (by decide)] at H
    k_search "tt"
    exact q1 (hb rfl) _ g7 _ le7 H.drop
end

end
section
set_option maxHeartbeats 4000000
section
variable {C : Cfg} {A : Around} {g h : Heap} {V : Led} {n : Nat} {R : Result → Heap → Prop}
theorem eq_fn (P : Params) : findIn (KF P) (.ref 244) "__eq__" = some (some (.ref 213)) ∧ isFn (KF P) (.ref 213) = true := ⟨by kernel_rfl, by kernel_rfl⟩
theorem eqof_fn (P : Params) : findIn (KF P) (.ref 173) (Str.ofString "eq_of") = some (some (.ref 156)) ∧ typeIn (KF P) (.ref 156) = some (.type "function") := ⟨by kernel_rfl, by kernel_rfl⟩
theorem W_eqInst {E : Value → Heap → Prop} {x y : Addr} {k1 k2 : List Str} {v1 v2 : List Value} {Q : Value → Heap → Prop} (hu : A.units < cLine) (X : (KF C.w.params).In h) (I : Inst C.w.params h x 244 k1 v1) (J : Inst C.w.params h y 244 k2 v2)
    (q : W C A (call (.ref 213) [.ref x, .ref y]) (fun v h' => ∃ b, v = .bool b ∧ Q v h') E h) : W C A (compareOp .Eq (.ref x) (.ref y)) Q E h := fun k => by
  obtain ⟨dx, es, n1, r1, I⟩ := I.at
  obtain ⟨dy, es2, n2, r2, J⟩ := J.at
  obtain ⟨f1, f2⟩ := eq_fn C.w.params
  show wpAny _ _ (richCompare .Eq (.ref x) (.ref y)) _ _ (C.sh h k)
  have one : wpAny C.M A (tryCompare (.ref x) (cmpInfo .Eq).2.1 (.ref y)) (fun r s' => ∃ v, r = some v ∧ Po C Q v s') (Po C E) (C.sh h k) := by
    unfold tryCompare
    refine wpAny_bind (ifBound_K (s := C.sh h k) X I f1 f2 (wpAny_mono (q k) (fun v s' hv => ?_) fun _ _ e => e))
    obtain ⟨h1, k1, rfl, b, rfl, hq⟩ := hv
    exact wpAny_pure ⟨_, rfl, po hq⟩
  unfold richCompare
  simp only [oneThing_ref]
  refine wpAny_holding (wpAny_bind (wpAny_cRoomFor hu ?_))
  refine wpAny_bind ((I.type (M := C.M)).here (s := C.sh h k) (wpAny_bind ((J.type (M := C.M)).here (s := C.sh h k) ?_)))
  split
  · rename_i q; simp at q
  · refine wpAny_bind (wpAny_pure ?_)
    simp only [Bool.false_eq_true, if_false]
    refine wpAny_bind (wpAny_mono one (fun r s' z => ?_) fun _ _ e => e)
    obtain ⟨v, rfl, hq⟩ := z
    exact wpAny_pure hq
theorem list_eq_of {a b : List Int} (l : a.length = b.length) (h : ∀ i, i < a.length → a.getD i 0 = b.getD i 0) : a = b :=
  List.ext_getElem l fun i h1 h2 => by
    have := h i h1
    rw [List.getD_eq_getElem?_getD, List.getD_eq_getElem?_getD, List.getElem?_eq_getElem h1, List.getElem?_eq_getElem h2] at this
    exact this
theorem eqm_ok {z1 z2 k tv : Addr} {c : Kc} {row1 row2 : List Int} (ok : c.Ok) (H0 : Hp C.w.params g V h) (Wd : Wld C g) (S0 : Stk A V) (r0 : Rm A (n + 2)) (pk : Kd C.w.params g k tv c) (p1 : Th C.w.params g z1 (.ref k) c.nms row1) (p2 : Th C.w.params g z2 (.ref k) c.nms row2)
    (q : ∀ g' h', Le g g' → Hp C.w.params g' V h' → R (.ok (.ret (.bool (decide (row1 = row2))))) h') : CW C A (.call (.ref 213) ⟨[.ref z1, .ref z2], []⟩) R h := by
  refine CW_fn (xs := [Str.ofString "self", Str.ofString "other", Str.ofString "a"]) (binds := [(Str.ofString "self", .ref z1), (Str.ofString "other", .ref z2)]) (vs := [some (.ref z1), some (.ref z2), none]) (n := n + 1) H0 Wd (S0) r0
    (Wd.K _ _ (show List.lookup 213 (hd.heap_39 C.w.params) = some _ by k_is)) rfl (codeRec_of (K := hd.heap_39 C.w.params) Wd.K (by k_is)) rfl (Looks.of_pure (by kernel_rfl)) rfl ⟨rfl, rfl⟩ ⟨⟨rfl, rfl⟩, rfl⟩ (by kernel_rfl) (by kernel_rfl) (by kernel_rfl) (by decide +kernel) (by kernel_rfl) ?_
  k_search "in"
  obtain ⟨tn, at_, ea, oa, fs, mro, kI, T1, L2, Lm, fl⟩ := id pk
  obtain ⟨d1, zv1, zI1, zd1, zi1, _⟩ := id p1
  obtain ⟨d2, zv2, zI2, zd2, zi2, _⟩ := id p2
  have zz := ok.z
  have vl : fs.length = c.nms.length := fl.1
  have l1 : row1.length = c.nms.length := by rw [← zi1.length]; exact zd1.len (C := C)
  have l2 : row2.length = c.nms.length := by rw [← zi2.length]; exact zd2.len (C := C)
  k_search "tt"
  refine W_call (kindof_ok (n := n) H Wd (by k_search "stk") r zI2 rfl ?_)
  intro h1 H
  k_search "tt"
  refine W_CallM (fun _ => rfl) rfl ?_
  k_search "tt"
  refine W_callee rfl ?_
  obtain ⟨m1, m2⟩ := eqof_fn C.w.params
  refine W_meth (Wd.K.keeps H.le) (cl_of (by decide)) (kI.up H.le) m1 m2 (by decide +kernel) ?_
  k_search "tt"
  refine W_call (eqof_ok (n := n) H Wd (by k_search "stk") r kI Lm ?_)
  intro g2 h2 l3 H
  replace Wd := Wd.up l3
  replace kI := kI.up l3
  replace Lm := Lm.up l3
  replace L2 := L2.up l3
  replace fl := fl.up l3
  replace zI1 := zI1.up l3
  replace p1 := p1.up l3
  replace p2 := p2.up l3
  k_search "tt"
  refine W_For ?_ (fun _ => rfl)
  refine W_CallM (fun _ => rfl) rfl ?_
  k_search "tt"
  refine W_callee rfl ?_
  refine W_meth (Wd.K.keeps H.le) (cl_of (by decide)) (kI.up H.le) m1 m2 (by decide +kernel) ?_
  k_search "tt"
  refine W_call (eqof_ok (n := n) H Wd (by k_search "stk") r kI Lm ?_)
  intro g3 h3 l4 H
  replace Wd := Wd.up l4
  replace L2 := L2.up l4
  replace fl := fl.up l4
  replace p1 := p1.up l4
  replace p2 := p2.up l4
  k_search "tt"
  refine W_iter_list r.hd L2 H ?_
  intro it h4 IT H
  have lf : Le g g3 := l3.trans l4
  refine CW_for (R := fun _ _ => True) (IT _ _) (fun j g' V' => Le g3 g' ∧ (∀ i, i < j → row1.getD i 0 = row2.getD i 0) ∧ ∃ vv, V' = (L, Sp.frm [Str.ofString "self", Str.ofString "other", Str.ofString "a"] [some (.ref z1), some (.ref z2), vv]) :: V) ?_ H (Le.refl g3) ⟨Le.refl g3, fun i h => absurd h (Nat.not_lt_zero _), _, rfl⟩ ?_ ?_
  · rintro i g g' V1 l ⟨a, b⟩
    exact ⟨a.trans l, b⟩
  · rintro j g7 V1 h12 v le7 hj ⟨_, he, vv, rfl⟩ hy H
    dsimp only [List.cons_append] at H
    replace Wd := Wd.up le7
    replace p1 := p1.up le7
    replace p2 := p2.up le7
    obtain ⟨a, x, sh, sps, rfl, e1, e2, e3, fd⟩ := fl.2 j v hy
    replace fd := fd.up le7
    have fn := fd.nm
    obtain ⟨t1, t2, t3, t4, vk, cv, I, vk2, cvt⟩ := fd
    k_search "tt"
    refine W_call (keyed_ok (n := n) H Wd (by k_search "stk") r p1 fn e1 ?_)
    intro t5 h5 H
    k_search "tt"
    refine W_call (keyed_ok (n := n) H Wd (by k_search "stk") r p2 fn e1 ?_)
    intro t6 h6 H
    k_search "tt"
    by_cases hq : row1.getD j 0 = row2.getD j 0
    · refine Br_f (by rw [hq]; simp) ?_
      k_search "tt"
      refine ⟨g7, _, Le.refl g7, ⟨le7, fun i hi => ?_, _, rfl⟩, H⟩
      by_cases e : i = j
      · subst e; exact hq
      · exact he i (by omega)
    · refine Br_t (by rw [show (row1.getD j 0 == row2.getD j 0) = false from beq_eq_false_iff_ne.mpr hq]; rfl) ?_
      k_search "tt"
      have := q g7 _ (lf.trans le7) H.drop.left
      rw [decide_eq_false (fun e => hq (by rw [e]))] at this
      exact this
  · rintro g7 V1 h12 le7 ⟨_, he, vv, rfl⟩ H
    replace Wd := Wd.up le7
    k_search "tt"
    have := q g7 _ (lf.trans le7) H.drop
    rw [decide_eq_true (list_eq_of (l1.trans l2.symm) fun i hi => he i (by omega))] at this
    exact this
end

end
section
set_option maxHeartbeats 4000000
section
variable {C : Cfg} {A : Around} {g h : Heap} {V : Led} {n : Nat} {R : Result → Heap → Prop}
abbrev lhX : List Str := [Str.ofString "thing", Str.ofString "kind", Str.ofString "names", Str.ofString "row", Str.ofString "told", Str.ofString "due"]
theorem holds_ok {z k tv rl : Addr} {c : Kc} {nvals rvals : List Value} {row0 row : List Int} (ok : c.Ok) (so : ∀ x ∈ c.nms, PyData.strOk x = true) (H0 : Hp C.w.params g V h) (Wd : Wld C g) (S0 : Stk A V) (r0 : Rm A (n + 1)) (pz : Th C.w.params g z (.ref k) c.nms row0) (pt : Tp g tv nvals) (hn : Mine.StrsAre nvals c.nms)
    (p2 : Lst g rl rvals) (hi : IntsAre rvals row) (hl : row.length = c.nms.length) (hb0 : ∀ w ∈ row0, w.natAbs < 1000) (hb : ∀ w ∈ row, w.natAbs < 1000)
    (q : ∀ g' h', Le g g' → Hp C.w.params g' V h' → R (.ok (.ret (.bool (decide (row0 = row))))) h') : CW C A (.call (.ref 591) ⟨[.ref z, .ref k, .ref tv, .ref rl], []⟩) R h := by
  refine CW_fn (xs := [Str.ofString "thing", Str.ofString "kind", Str.ofString "names", Str.ofString "row", Str.ofString "told", Str.ofString "due"]) (binds := [(Str.ofString "thing", .ref z), (Str.ofString "kind", .ref k), (Str.ofString "names", .ref tv), (Str.ofString "row", .ref rl)]) (vs := [some (.ref z), some (.ref k), some (.ref tv), some (.ref rl), none, none]) (n := n) H0 Wd (S0) r0
    (Wd.K _ _ (show List.lookup 591 (hd.heap_39 C.w.params) = some _ by k_is)) rfl (codeRec_of (K := hd.heap_39 C.w.params) Wd.K (by k_is)) rfl (Looks.of_pure (by kernel_rfl)) rfl ⟨rfl, rfl⟩ ⟨⟨rfl, rfl⟩, rfl⟩ (by kernel_rfl) (by kernel_rfl) (by kernel_rfl) (by decide +kernel) (by kernel_rfl) ?_
  k_search "in"
  obtain ⟨d, zvals, zI, zd, zi, znd⟩ := id pz
  have zz := ok.z
  have zl : zvals.length = c.nms.length := zd.len (C := C)
  have r0l : row0.length = c.nms.length := by rw [← zl]; exact zi.length.symm
  have rvl : rvals.length = c.nms.length := by rw [hi.length]; exact hl
  have nvl : nvals.length = c.nms.length := hn.1
  k_search "tt"
  refine W_CallM (fun _ => rfl) rfl ?_
  k_search "tt"
  refine W_callee rfl ?_
  refine W_get_items (zd.up H.le) ?_
  k_search "tt"
  refine W_items H (zd.up H.le) ok.nd1 ?_
  intro vw g1 h1 l1 Vw1 H
  replace Wd := Wd.up l1
  k_search "tt"
  refine W_listItems r.hd H Vw1 (zd.up l1) ok.nd1 zi (by omega) ?_
  intro tl items g2 h2 l2 Lt Pt H
  replace Wd := Wd.up l2
  have l12 := l1.trans l2
  replace p2 := p2.up l12
  replace pt := pt.up l12
  replace zI := zI.up l12
  k_search "tt"
  refine W_AssignLC (cl' := []) (cxs := [Str.ofString "name", Str.ofString "one"]) F ⟨rfl, by kernel_rfl, rfl, by kernel_rfl, by kernel_rfl, by decide +kernel⟩ (F.env (P := fun en => swapsWith _ _ _ en = pure true) fun _ _ _ _ _ _ _ _ _ _ _ => by kernel_rfl) ?_ (fun _ => rfl)
  k_search "tt"
  refine W_zip_tl pt p2 H ?_
  intro z2 S2 h5 ZT H
  refine (ZT A [] 0 default r.hd).self (Le.refl g2) H ?_
  refine ⟨V, _, min nvals.length rvals.length, _, _, g2, fun i g' acc => PrL g' acc (c.nms.take i) (row.take i), ZT A _ _ _ r.hd, by omega, H, by simpa using PrL.nil, fun _ _ _ _ l e => e.up l, ?_, ?_⟩
  · rintro i g' acc Cf D5 cen cvs v h4 le hi2 pa ⟨ta, x, y, rfl, hx, hy, tp⟩ F H
    obtain ⟨cv1, cv2, rfl⟩ := two_of H
    dsimp only [List.cons_append] at H
    replace Wd := Wd.up le
    have hi3 : i < c.nms.length := by omega
    obtain ⟨tx, ex⟩ := hn.2 i _ (getD_str hi3)
    rw [hx] at ex
    cases ex
    obtain ⟨ty, ey⟩ := ints_at hi (j := i) (by omega)
    rw [hy] at ey
    cases ey
    refine W_asT r.hd H tp rfl rfl ?_
    intro h6 H
    k_search "tt"
    refine W_newTuple H (by simp) ?_
    intro tn g3 h7 l3 T3 H
    refine ⟨g3, _, l3, ?_, H⟩
    show PrL g3 _ (c.nms.take (i + 1)) (row.take (i + 1))
    rw [List.take_add_one, List.take_add_one, getD_str hi3, show row[i]? = some (row.getD i 0) from by rw [List.getD_eq_getElem?_getD, List.getElem?_eq_getElem (by omega)]; rfl]
    exact (pa.up l3).snoc T3.is
  rintro g3 D3 acc l3 pa
  rw [show min nvals.length rvals.length = c.nms.length from by omega, List.take_length, List.take_of_length_le (by omega)] at pa
  refine ⟨_, by k_search "st", ?_⟩
  intro h8 H
  obtain ⟨g4, l4, s4, H4⟩ := H.give
  clear H
  have H := H4
  clear H4
  have s4 : Lst g4 D3 acc := s4
  have l34 := l3.trans l4
  replace Wd := Wd.up l34
  replace pa := pa.up l4
  replace Pt := Pt.up l34
  replace Lt := Lt.up l34
  replace zI := zI.up l34
  have lf : Le g g4 := l12.trans l34
  have hu : A.units + 64 < cLine := by have := r.u; unfold cLine; omega
  k_search "tt"
  refine W_and3 ?_
  k_search "tt"
  refine W_eqP H hu Lt Pt s4 pa r0l hl so ?_
  k_search "tt"
  refine ⟨fun e => ?_, fun e => ?_⟩
  · have e := of_decide_eq_true e
    subst e
    k_search "tt"
    refine W_reprP H hu r.gd Lt Pt (fun x hx => (ok.s1 x hx).2) hb0 (by omega) ?_
    intro t1 h9 H
    k_search "tt"
    refine W_reprP H hu r.gd s4 pa (fun x hx => (ok.s1 x hx).2) hb0 (by omega) ?_
    intro t2 h10 H
    k_search "tt"
    have := q g4 _ lf H.drop
    rw [decide_eq_true rfl] at this
    simpa using this
  · have := q g4 _ lf H.drop
    rw [e] at this
    k_search "tt"
    rw [e]
    exact this
end

end
section
set_option maxHeartbeats 4000000
section
variable {C : Cfg} {A : Around} {g h : Heap} {V : Led} {n : Nat} {R : Result → Heap → Prop}
theorem sub_ve : isSubtype (.type "ValueError") (.type "ValueError") = pure true := by rw [isSubtype_type]; kernel_rfl
theorem sub_ve_b : isSubtype (.type "ValueError") (.type "BaseException") = pure true := by rw [isSubtype_type]; kernel_rfl
theorem nt_ve : isSubtype (.type ((Manifest.find? "ValueError").elim "type" fun x => x.metatype)) (.type "tuple") = pure false := by
  rw [show (Manifest.find? "ValueError").elim "type" (fun x => x.metatype) = "type" from by kernel_rfl, isSubtype_type]; kernel_rfl
theorem passes_ok {z k tv : Addr} {c : Kc} {nvals : List Value} {row : List Int} (ok : c.Ok) (H0 : Hp C.w.params g V h) (Wd : Wld C g) (S0 : Stk A V) (r0 : Rm A (n + 4)) (pk : Kd C.w.params g k tv c) (pz : Th C.w.params g z (.ref k) c.nms row) (pt : Tp g tv nvals) (hn : Mine.StrsAre nvals c.nms) (hb : ∀ w ∈ row, w.natAbs < 1000)
    (q : ∀ g' h', Le g g' → Hp C.w.params g' V h' → R (.ok (.ret (.bool (passes c row)))) h') : CW C A (.call (.ref 598) ⟨[.ref z], []⟩) R h := by
  refine CW_fn (xs := [Str.ofString "thing", Str.ofString "one"]) (binds := [(Str.ofString "thing", .ref z)]) (vs := [some (.ref z), none]) (n := n + 3) H0 Wd (S0) r0
    (Wd.K _ _ (show List.lookup 598 (hd.heap_39 C.w.params) = some _ by k_is)) rfl (codeRec_of (K := hd.heap_39 C.w.params) Wd.K (by k_is)) rfl (Looks.of_pure (by kernel_rfl)) rfl ⟨rfl, rfl⟩ ⟨⟨rfl, rfl⟩, rfl⟩ (by kernel_rfl) (by kernel_rfl) (by kernel_rfl) (by decide +kernel) (by kernel_rfl) ?_
  k_search "in"
  obtain ⟨tn, at_, ea, oa, fs, mro, kI, T1, L2, Lm, fl⟩ := id pk
  obtain ⟨d, zvals, zI, zd, zi, znd⟩ := id pz
  have zz := ok.z
  have vl : fs.length = c.nms.length := fl.1
  have zl : zvals.length = c.nms.length := zd.len (C := C)
  have rl : row.length = c.nms.length := by rw [← zl]; exact zi.length.symm
  refine W_execs (W_Try (L := L) sub_ve_b nt_ve ?_)
  k_search "tt"
  refine W_For ?_ (fun _ => rfl)
  k_search "tt"
  refine W_call (fieldsM_ok (n := n + 1) H Wd (by k_search "stk") r zI kI rfl ?_)
  intro h1 H
  k_search "tt"
  refine W_iter_tup r.hd T1 H ?_
  intro it h2 IT H
  refine CW_for (R := fun _ _ => True) (IT _ _) (fun j g' V' => Le g g' ∧ (∀ i, i < j → (c.spss.getD i []).any (badV row i (row.getD i 0)) = false) ∧ ∃ vv, V' = (L, Sp.frm [Str.ofString "thing", Str.ofString "one"] [some (.ref z), vv]) :: V) ?_ H (Le.refl g) ⟨Le.refl g, fun i h => absurd h (Nat.not_lt_zero _), _, rfl⟩ ?_ ?_
  · rintro i g g' V1 l ⟨a, b⟩
    exact ⟨a.trans l, b⟩
  · rintro j g7 V1 h8 v le7 hj ⟨_, hok, v3, rfl⟩ hy H
    dsimp only [List.cons_append] at H
    replace Wd := Wd.up le7
    replace zI := zI.up le7
    replace zd := zd.up le7
    replace pz := pz.up le7
    replace pt := pt.up le7
    obtain ⟨a, x, sh, sps, rfl, e1, e2, e3, fd⟩ := fl.2 j v hy
    replace fd := fd.up le7
    obtain ⟨t1, t2, t3, t4, vk, cv, I, vk2, cvt⟩ := id fd
    have spj : c.spss.getD j [] = sps := by rw [List.getD_eq_getElem?_getD, e3]; rfl
    obtain ⟨t9, hvj⟩ := ints_at zi (j := j) (by omega)
    k_search "tt"
    refine W_sub_sd (zd.up H.le) ok.nd1 (Kk.of_get e1 hvj) ?_
    k_search "tt"
    refine W_call (validate_ok (n := n) H Wd (by k_search "stk") r fd (ok.okv j sps e3) pt hn pz e1 zz (ok.s1 x (List.mem_of_getElem? e1)).1 (hb _ (getD_mem (by omega))) ?_ ?_)
    · intro b g8 h9 l8 H
      replace Wd := Wd.up l8
      replace zI := zI.up l8
      replace zd := zd.up l8
      replace I := I.up l8
      k_search "tt"
      refine W_sub_sd (zd.up H.le) ok.nd1 (Kk.of_get e1 hvj) ?_
      k_search "tt"
      refine Br_f (by simp) ?_
      k_search "tt"
      refine ⟨g8, _, l8, ⟨le7.trans l8, fun i hij => ?_, _, rfl⟩, H⟩
      by_cases e : i = j
      · subst e; rw [spj]; exact b
      · exact hok i (by omega)
    · intro b e g8 h9 l8 X
      replace Wd := Wd.up l8
      have sub : ∀ p ∈ V, p ∈ (L, Sp.frm [Str.ofString "thing", Str.ofString "one"] [some (.ref z), some (.ref a)]) :: (V ++ [(it, Sp.any fun o => o.cls = Value.type "tuple_iterator" ∧ o.data = Data.fields #[Value.ref at_, Value.int (↑(j + 1)) 0])]) := fun p hp => .tail _ (List.mem_append_left _ hp)
      refine Nf_ex (Sb.sf S (.head _) sub) X (.inr (.inl rfl)) fun h' X => ?_
      refine ⟨e, "ValueError", _, g8, _, rfl, sub_ve, X, .inr (.inr rfl), Sb.sf S (.head _) sub, fun h1 X => ?_⟩
      have H := X.H
      k_search "tt"
      refine ⟨rfl, _, g8, _, X, fun h3 X => ?_⟩
      have H := X.H
      k_search "tt"
      have := q g8 _ (le7.trans l8) H.drop.left
      rw [show passes c row = false from by
        rw [passes, Bool.eq_false_iff]
        intro hp
        have := List.all_eq_true.mp hp j (List.mem_range.mpr (by omega))
        rw [spj, b] at this
        exact absurd this (by decide)] at this
      exact this
  · rintro g7 V1 h8 le7 ⟨_, hok, v3, rfl⟩ H
    replace Wd := Wd.up le7
    k_search "tt"
    have := q g7 _ le7 H.drop
    rw [show passes c row = true from by
      rw [passes, List.all_eq_true]
      intro i hi
      rw [hok i (by have := List.mem_range.mp hi; omega)]
      rfl] at this
    exact this
end

end
section
set_option maxHeartbeats 4000000
section
variable {C : Cfg} {A : Around} {g h : Heap} {V : Led} {n : Nat} {R : Result → Heap → Prop}
theorem changed_ok {k tv z cd : Addr} {c : Kc} {ks : List Str} {vs : List Value} {ws row : List Int} {nvals : List Value} (ok : c.Ok) (H0 : Hp C.w.params g V h) (Wd : Wld C g) (S0 : Stk A V) (r0 : Rm A (n + 7)) (pk : Kd C.w.params g k tv c) (pt : Tp g tv nvals) (hn : Mine.StrsAre nvals c.nms) (pz : Th C.w.params g z (.ref k) c.nms row)
    (pc : Sd C.w.params g cd ks vs) (hi : IntsAre vs ws) (nd : ks.Nodup) (kz : ks.length ≤ 50) (hin : ∀ x ∈ ks, x ∈ c.shs) (hb : ∀ w ∈ ws, w.natAbs < 900) (hb2 : ∀ w ∈ row, w.natAbs < 900) (hself2 : Str.ofString "self" ∉ c.shs)
    (q1 : passes c (eRow c ks ws row) = true → ∀ z' g' h', Le g g' → Th C.w.params g' z' (.ref k) c.nms (eRow c ks ws row) → Hp C.w.params g' V h' → R (.ok (.ret (.ref z'))) h')
    (q2 : passes c (eRow c ks ws row) = false → ∀ g' h', Le g g' → Hp C.w.params g' V h' → R (.ok (.ret .none)) h') : CW C A (.call (.ref 605) ⟨[.ref z, .ref cd], []⟩) R h := by
  refine CW_fn (xs := [Str.ofString "thing", Str.ofString "changes"]) (binds := [(Str.ofString "thing", .ref z), (Str.ofString "changes", .ref cd)]) (vs := [some (.ref z), some (.ref cd)]) (n := n + 6) H0 Wd (S0) r0
    (Wd.K _ _ (show List.lookup 605 (hd.heap_39 C.w.params) = some _ by k_is)) rfl (codeRec_of (K := hd.heap_39 C.w.params) Wd.K (by k_is)) rfl (Looks.of_pure (by kernel_rfl)) rfl ⟨rfl, rfl⟩ ⟨⟨rfl, rfl⟩, rfl⟩ (by kernel_rfl) (by kernel_rfl) (by kernel_rfl) (by decide +kernel) (by kernel_rfl) ?_
  k_search "in"
  have hl : ks.length = vs.length := (pc.len (C := C)).symm
  have hs : ∀ x ∈ ks, Shrt x := fun x hx => (ok.s2 x (hin x hx)).1
  refine W_execs (W_Try (L := L) sub_ve_b nt_ve ?_)
  k_search "tt"
  refine W_newList H (by simp) ?_
  intro D h1 H
  replace H := H.swap
  obtain ⟨g2, l2, s2, H2⟩ := H.give
  clear H
  have H := H2
  clear H2
  have s2 : Lst g2 D [.ref z] := s2
  replace Wd := Wd.up l2
  replace pk := pk.up l2
  replace pt := pt.up l2
  replace pz := pz.up l2
  replace pc := pc.up l2
  k_search "tt"
  refine W_call (called_ok (n := n + 5) (P := fun g' v => passes c (eRow c ks ws row) = true ∧ ∃ z', v = .ref z' ∧ Th C.w.params g' z' (.ref k) c.nms (eRow c ks ws row)) (B := fun cls => passes c (eRow c ks ws row) = false ∧ cls = .type "ValueError") H Wd (by k_search "stk") r (.inl s2) pc nd (by omega) (by simp) (fun h' l => Kpr.fnT Wd l (by decide)) ?_ ?_ ?_)
  · intro A' p h' H' S' r'
    refine evolve_ok (n := n) ok H' Wd S' r' pk pt hn pz hi hl nd kz hs hb hb2 (fun m => hself2 (hin _ m)) hself2 ?_ ?_ ?_
    · intro _ hp z' g' h'' l t H''
      exact ⟨g', l, ⟨hp, z', rfl, t⟩, H''⟩
    · intro _ hp e g' h'' l X
      exact ⟨e, _, g', rfl, l, ⟨hp, rfl⟩, X⟩
    · rintro ⟨x, hx, hx2⟩
      exact absurd (hin x hx) hx2
  · rintro v g3 h3 l3 ⟨hp, z', rfl, t⟩ H
    replace Wd := Wd.up l3
    k_search "tt"
    exact q1 hp z' g3 _ (l2.trans l3) t H.drop
  · rintro e cls g3 h3 l3 ⟨hp, rfl⟩ X
    replace Wd := Wd.up l3
    refine ⟨e, "ValueError", _, g3, _, rfl, sub_ve, X, .inr (.inl rfl), Sb.sf S (.head _) fun p hp => .tail _ hp, fun h1 X => ?_⟩
    have H := X.H
    k_search "tt"
    refine ⟨rfl, _, g3, _, X, fun h3 X => ?_⟩
    have H := X.H
    k_search "tt"
    exact q2 hp g3 _ (l2.trans l3) H.drop
end

end
section
set_option maxHeartbeats 4000000
section
variable {C : Cfg} {A : Around} {g h : Heap} {V : Led} {n : Nat} {R : Result → Heap → Prop}
def bodyOf {q : Program} {loose : List Str} {XP : (Str → Option Value) → Heap → Prop} {YP : World → Heap → Prop} {r : RowW} {d : DefRec} {kwd : List (Str × PySem.Expr)} {run : Value → List Value → Sem Value} {P : Prop} (_ : WalkO q loose XP YP r d kwd run → P) : List Stmt := d.body
def scopeOf {q : Program} {loose : List Str} {XP : (Str → Option Value) → Heap → Prop} {YP : World → Heap → Prop} {r : RowW} {d : DefRec} {kwd : List (Str × PySem.Expr)} {run : Value → List Value → Sem Value} {P : Prop} (_ : WalkO q loose XP YP r d kwd run → P) : Scope := d.scope
def lawB : List Stmt := bodyOf hd
def lawN : List (Str × NameKind) := (scopeOf hd).names
abbrev lwX : List Str := [Str.ofString "script", Str.ofString "n", Str.ofString "i", Str.ofString "sides", Str.ofString "how", Str.ofString "table", Str.ofString "checks", Str.ofString "kind", Str.ofString "first", Str.ofString "last", Str.ofString "x", Str.ofString "at_once", Str.ofString "parts", Str.ofString "step", Str.ofString "rising", Str.ofString "others", Str.ofString "z", Str.ofString "now", Str.ofString "well", Str.ofString "told", Str.ofString "again", Str.ofString "laid", Str.ofString "due", Str.ofString "w", Str.ofString "straight", Str.ofString "around", Str.ofString "j", Str.ofString "strange", Str.ofString "other", Str.ofString "same"]
abbrev lwC (ca : Nat → Addr) : List (Str × Addr) := [(Str.ofString "keys", ca 8), (Str.ofString "raw", ca 7), (Str.ofString "flags", ca 6), (Str.ofString "v", ca 5), (Str.ofString "u", ca 4), (Str.ofString "short", ca 3), (Str.ofString "names", ca 2), (Str.ofString "m", ca 1), (Str.ofString "rows", ca 0)]
abbrev lwL (ca : Nat → Addr) (c0 c1 c2 c3 c4 c5 c6 c7 c8 : Option Value) : Led := [(ca 8, .cell c8), (ca 7, .cell c7), (ca 6, .cell c6), (ca 5, .cell c5), (ca 4, .cell c4), (ca 3, .cell c3), (ca 2, .cell c2), (ca 1, .cell c1), (ca 0, .cell c0)]
abbrev LB (C : Cfg) (A : Around) (en : Env) (R : Result → Heap → Prop) (k : Nat) (h : Heap) : Prop := W C A (execs (lawB.drop k) en) (Bq R) (Be C A en R) h
theorem W_nxt {C : Cfg} {A : Around} {en : Env} {E : Value → Heap → Prop} {h : Heap} (k : Nat) {s : Stmt} {Q : Flow → Heap → Prop} (e : lawB.drop k = s :: lawB.drop (k + 1)) (x : W C A (exec s en) (Fl Q fun h' => W C A (execs (lawB.drop (k + 1)) en) Q E h') E h) : W C A (execs (lawB.drop k) en) Q E h := by rw [e]; exact W_execs x
theorem slice63 {vs : List Value} (hz : vs.length ≤ 63) : (slicePick vs.toArray none (some 63) none).toList = vs := by
  have e : sliceBounds none (some (63 : Int)) none vs.toArray.size = (((0 : Nat) : Int), ((vs.toArray.size : Nat) : Int), 1) := by
    simp only [sliceBounds, Option.getD_none]
    have h2 : ¬ ((63 : Int) < 0) := by omega
    simp only [h2, if_false, show (1 : Int) > 0 by decide, if_true]
    congr 1
    congr 1
    rw [List.size_toArray]
    omega
  unfold slicePick
  rw [e]
  simp only [sliceRange_one, pick_run]
  rw [List.drop_zero, Nat.sub_zero, List.take_of_length_le (by simp)]
abbrev lawNms : List Str := [Str.ofString "a", Str.ofString "_b", Str.ofString "c", Str.ofString "_d"]
abbrev lawShs : List Str := [Str.ofString "a", Str.ofString "b", Str.ofString "c", Str.ofString "d"]
theorem draw_range (ns : List Int) (k : Int) {m : Int} (hm : 0 < m) : 0 ≤ drawI ns k m ∧ drawI ns k m < m := by
  unfold drawI
  exact ⟨Int.fmod_nonneg_of_pos _ hm, Int.fmod_lt_of_pos _ hm⟩
def rowsI (ss : List Int) : List Int := if ss = [] then [0] else ss
theorem isl_up {g g' : Heap} {a : Addr} {vs : List Value} (x : g.IsList a vs.toArray) (le : Le g g') : g'.IsList a vs.toArray := let ⟨o, e, r⟩ := x; ⟨o, le _ _ e, r⟩
theorem W_subSlI {E : Value → Heap → Prop} {ve se : PySem.Expr} {l sl : Addr} {items : List Value} {vl vu : Value} {lo hi : Option Int} {Q : Value → Heap → Prop} (H : Hp C.w.params g V h) (L : h.IsList l items.toArray) (hz : items.length ≤ 1000) (hs : g.IsSliceOf sl vl vu .none) (p1 : IsPart vl lo) (p2 : IsPart vu hi)
    (q : ∀ D g' h', Le g g' → Lst g' D (slicePick items.toArray lo hi none).toList → Hp C.w.params g' V h' → Q (.ref D) h') : W C A (subscriptTail ve se (.ref l) (.ref sl)) Q E h :=
  W_tail (fun _ => L.typeIs) slot_list_getitem.lookup fun k => by
    have hs' : h.IsSliceOf sl vl vu .none := let ⟨o, e, r⟩ := hs; ⟨o, H.le _ _ e, r⟩
    obtain ⟨g', l', e, H2⟩ := H.keep (o := { cls := .type "list", data := .seq (slicePick items.toArray lo hi none) }) rfl
    exact wpAny_getItem_list_slice (s := C.sh h k) L hs' p1 p2 .none (by simp) (po (q _ g' _ l' ⟨0, by simpa using e⟩ H2)) (by rw [List.size_toArray, sizeLine_eq]; omega)
theorem segA0 {en : Env} {L sa : Addr} {ca : Nat → Addr} {svals : List Value} {ss : List Int} (F : Fe en L lawN lwX (lwC ca)) (S : Sb A en L V) (r : Rm A (n + 2)) (Wd : Wld C g) (p1 : g.IsList sa svals.toArray) (hi : IntsAre svals ss) (hz : ss.length ≤ 63)
    (H : Hp C.w.params g ((L, .frm lwX [some (.ref sa), none, none, none, none, none, none, none, none, none, none, none, none, none, none, none, none, none, none, none, none, none, none, none, none, none, none, none, none, none]) :: (lwL ca none none none none none none none none none ++ V)) h)
    (q : ∀ rl rv g' h', Le g g' → Lst g' rl rv → IntsAre rv (rowsI ss) → Hp C.w.params g' ((L, .frm lwX [some (.ref sa), none, none, none, none, none, none, none, none, none, none, none, none, none, none, none, none, none, none, none, none, none, none, none, none, none, none, none, none, none]) :: (lwL ca (some (.ref rl)) none none none none none none none none ++ V)) h' → LB C A en R 1 h') : LB C A en R 0 h := by
  dsimp only [List.cons_append, List.nil_append] at H
  have hvl : svals.length = ss.length := hi.length
  refine W_nxt 0 rfl ?_
  k_search "tt"
  refine W_or2 ?_
  refine W_ListComp (cl' := []) (cxs := [Str.ofString "one"]) F ⟨rfl, by kernel_rfl, rfl, by kernel_rfl, by kernel_rfl, by decide +kernel⟩ ?_ (fun _ => rfl)
  k_search "tt"
  refine W_SliceE (W_part0 (W_part ?_))
  k_search "tt"
  refine ⟨_, _, H, ?_⟩
  intro sl g1 h1 l1 hs H
  replace p1 := isl_up p1 l1
  refine W_subSlI H (isl_up p1 H.le) (by omega) hs .none (.int _ _) ?_
  intro D1 g2 h2 l2 L2 H
  rw [slice63 (by omega)] at L2
  replace Wd := Wd.up (l1.trans l2)
  refine W_iter_list r.hd L2 H ?_
  intro it h3 IT H
  refine ⟨_, svals.length, _, _, g2, fun i _ acc => acc = svals.take i, IT _ _, by omega, H, rfl, fun _ _ _ _ _ e => e, ?_, ?_⟩
  · rintro i g' acc Cf D5 cen cvs v h4 le hi rfl hy F H
    obtain ⟨cv, rfl⟩ := one_of H
    dsimp only [List.cons_append] at H
    k_search "tt"
    exact ⟨g', _, Le.refl g', by show _ = List.take (i + 1) svals; rw [List.take_add_one, hy]; rfl, H⟩
  · rintro g3 D5 acc l3 rfl h7 H
    rw [List.take_length] at H
    replace H := H.swap
    obtain ⟨g4, l4, s4, H4⟩ := H.give
    clear H
    have H := H4
    clear H4
    have s4 : Lst g4 D5 svals := s4
    refine W_truthy_list (s4.up H.le) (by omega) ?_
    have lf : Le g g4 := l1.trans (l2.trans (l3.trans l4))
    refine ⟨fun e => ?_, fun e => ?_⟩
    · k_search "tt"
      k_search "bc"
      k_search "tt"
      refine q D5 svals g4 _ lf s4 ?_ H
      unfold rowsI
      rw [if_neg (fun e2 => by rw [e2] at hvl; cases svals <;> simp at *)]
      exact hi
    · k_search "tt"
      refine W_newList H (by simp) ?_
      intro D6 h8 H
      replace H := H.swap
      obtain ⟨g5, l5, s5, H5⟩ := H.give
      clear H
      have H := H5
      clear H5
      k_search "tt"
      k_search "bc"
      k_search "tt"
      refine q D6 _ g5 _ (lf.trans l5) s5 ?_ H
      unfold rowsI
      rw [if_pos (by cases ss with
        | nil => rfl
        | cons a b => cases svals <;> simp at *)]
      exact .cons _ _ .nil
end

end
section
set_option maxHeartbeats 4000000
section
variable {C : Cfg} {A : Around} {g h : Heap} {V : Led} {n : Nat} {R : Result → Heap → Prop}
def nN (rws : List Int) : Nat := (2 + drawI rws 0 3).toNat
def mM (rws : List Int) : Int := 1 + drawI rws 1 3
def hwI (rws : List Int) : Int := drawI rws 2 2
def sdI (rws : List Int) : List Int := (List.range (nN rws - 1)).map fun (i : Nat) => 1 + drawI rws (3 + (i : Int)) 3
theorem nN_eq (rws : List Int) : 2 + drawI rws 0 3 = (nN rws : Int) ∧ 2 ≤ nN rws ∧ nN rws ≤ 4 := by
  have := draw_range rws 0 (m := 3) (by omega)
  unfold nN
  omega
theorem mM_eq (rws : List Int) : 1 ≤ mM rws ∧ mM rws ≤ 3 := by
  have := draw_range rws 1 (m := 3) (by omega)
  unfold mM
  omega
abbrev lfA (sa : Addr) (rws : List Int) (t1 t2 : Tok) (sl td : Addr) : List (Option Value) := [some (.ref sa), some (.int (nN rws) t1), none, some (.ref sl), some (.int (hwI rws) t2), some (.ref td), none, none, none, none, none, none, none, none, none, none, none, none, none, none, none, none, none, none, none, none, none, none, none, none]
structure Lf (P : Params) (g : Heap) (rws : List Int) (rl tv ts sl : Addr) : Prop where
  r : ∃ rv, Lst g rl rv ∧ IntsAre rv rws
  t : ∃ nv, Tp g tv nv ∧ Mine.StrsAre nv (lawNms.take (nN rws))
  s : ∃ sv, Tp g ts sv ∧ Mine.StrsAre sv (lawShs.take (nN rws))
  d : ∃ dv, Lst g sl dv ∧ IntsAre dv (sdI rws)
theorem Lf.up {P : Params} {g g' : Heap} {rws : List Int} {rl tv ts sl : Addr} (x : Lf P g rws rl tv ts sl) (le : Le g g') : Lf P g' rws rl tv ts sl :=
  ⟨let ⟨v, a, b⟩ := x.r; ⟨v, a.up le, b⟩, let ⟨v, a, b⟩ := x.t; ⟨v, a.up le, b⟩, let ⟨v, a, b⟩ := x.s; ⟨v, a.up le, b⟩, let ⟨v, a, b⟩ := x.d; ⟨v, a.up le, b⟩⟩
theorem strs_take {vs : List Value} {xs : List Str} (s : Mine.StrsAre vs xs) (k : Nat) : Mine.StrsAre (vs.take k) (xs.take k) := by
  refine ⟨by rw [List.length_take, List.length_take, s.1], fun i x e => ?_⟩
  rw [List.getElem?_take] at e ⊢
  split at e
  · rename_i h; rw [if_pos h]; exact s.2 i x e
  · cases e
theorem strs4 {a b c d : Str} {t1 t2 t3 t4 : Tok} : Mine.StrsAre [.str a t1, .str b t2, .str c t3, .str d t4] [a, b, c, d] := by
  refine ⟨rfl, fun i x e => ?_⟩
  match i with
  | 0 => cases e; exact ⟨_, rfl⟩
  | 1 => cases e; exact ⟨_, rfl⟩
  | 2 => cases e; exact ⟨_, rfl⟩
  | 3 => cases e; exact ⟨_, rfl⟩
  | j + 4 => simp at e
theorem ints_snocT {vs : List Value} {ns : List Int} {n : Int} {t : Tok} (h : IntsAre vs ns) : IntsAre (vs ++ [.int n t]) (ns ++ [n]) := by
  induction h with
  | nil => exact .cons _ _ .nil
  | cons a b c ih => exact .cons _ _ ih
theorem segA1 {en : Env} {L sa rl : Addr} {ca : Nat → Addr} {rv : List Value} {rws : List Int} (F : Fe en L lawN lwX (lwC ca)) (S : Sb A en L V) (r : Rm A (n + 2)) (Wd : Wld C g) (p1 : Lst g rl rv) (hi : IntsAre rv rws) (h0 : 0 < rws.length) (h64 : rws.length < 64)
    (H : Hp C.w.params g ((L, .frm lwX [some (.ref sa), none, none, none, none, none, none, none, none, none, none, none, none, none, none, none, none, none, none, none, none, none, none, none, none, none, none, none, none, none]) :: (lwL ca (some (.ref rl)) none none none none none none none none ++ V)) h)
    (q : ∀ tm t1 t2 tv ts sl td g' h', Le g g' → Lf C.w.params g' rws rl tv ts sl → Hp C.w.params g' ((L, .frm lwX (lfA sa rws t1 t2 sl td)) :: (td, .sd [] []) :: (lwL ca (some (.ref rl)) (some (.int (mM rws) tm)) (some (.ref tv)) (some (.ref ts)) none none none none none ++ V)) h' → LB C A en R 7 h') : LB C A en R 1 h := by
  dsimp only [List.cons_append, List.nil_append] at H
  obtain ⟨eN, n2, n4⟩ := nN_eq rws
  refine W_nxt 1 rfl ?_
  k_search "tt"
  refine W_call (draw_ok (n := n + 1) H Wd (by k_search "stk") r p1 hi h0 h64 (by omega) (by omega) (by omega) ?_)
  intro t1 h1 H
  k_search "tt"
  rw [eN] at H
  refine W_nxt 2 rfl ?_
  k_search "tt"
  refine W_call (draw_ok (n := n + 1) H Wd (by k_search "stk") r p1 hi h0 h64 (by omega) (by omega) (by omega) ?_)
  intro t2 h2 H
  k_search "tt"
  k_search "bc"
  k_search "tt"
  have p3 : ∃ v3, Tp g 559 v3 ∧ Mine.StrsAre v3 lawNms := ⟨_, ⟨_, Wd.K _ _ (show List.lookup 559 (hd.heap_39 C.w.params) = some _ by k_is)⟩, strs4⟩
  have p4 : ∃ v4, Tp g 560 v4 ∧ Mine.StrsAre v4 lawShs := ⟨_, ⟨_, Wd.K _ _ (show List.lookup 560 (hd.heap_39 C.w.params) = some _ by k_is)⟩, strs4⟩
  obtain ⟨v3, p3, s3⟩ := p3
  obtain ⟨v4, p4, s4⟩ := p4
  refine W_nxt 3 rfl ?_
  refine W_Assign ?_ rfl rfl (F.env (P := fun en => swappedStores _ _ en = pure none) fun _ _ _ _ _ _ _ _ _ _ _ => by kernel_rfl)
  k_search "tt"
  refine W_SliceE (W_part0 (W_part ?_))
  k_search "tt"
  refine ⟨_, _, H, ?_⟩
  intro sl1 g1 h3 l1 hs1 H
  have z3 : v3.length = 4 := s3.1
  have z4 : v4.length = 4 := s4.1
  refine W_subSlT H (p3.up l1) (by omega) hs1 rfl (by omega) ?_
  intro tv g2 h4 l2 T1 H
  replace Wd := Wd.up (l1.trans l2)
  replace p4 := p4.up (l1.trans l2)
  replace p1 := p1.up (l1.trans l2)
  k_search "tt"
  refine W_SliceE (W_part0 (W_part ?_))
  k_search "tt"
  refine ⟨_, _, H, ?_⟩
  intro sl2 g3 h5 l3 hs2 H
  refine W_subSlT H (p4.up l3) (by omega) hs2 rfl (by omega) ?_
  intro ts g4 h6 l4 T2 H
  have l34 := l3.trans l4
  replace Wd := Wd.up l34
  replace T1 := T1.up l34
  replace p1 := p1.up l34
  k_search "tt"
  refine W_newTuple H (by simp) ?_
  intro tp g5 h7 l5 T3 H
  replace Wd := Wd.up l5
  replace T1 := T1.up l5
  replace T2 := T2.up l5
  replace p1 := p1.up l5
  refine W_asT r.hd H T3 rfl rfl ?_
  intro h8 H
  k_search "tt"
  k_search "bc"
  k_search "tt"
  k_search "bc"
  k_search "tt"
  refine W_nxt 4 rfl ?_
  refine W_AssignLC (cl' := [(Str.ofString "rows", ca 0)]) (cxs := [Str.ofString "i"]) F ⟨rfl, by kernel_rfl, rfl, by kernel_rfl, by kernel_rfl, by decide +kernel⟩ (F.env (P := fun en => swapsWith _ _ _ en = pure true) fun _ _ _ _ _ _ _ _ _ _ _ => by kernel_rfl) ?_ (fun _ => rfl)
  k_search "tt"
  refine W_range1 H ?_
  intro rg g6 h9 l6 Rg1 H
  replace Wd := Wd.up l6
  replace p1 := p1.up l6
  refine W_iter_rangeN (n := nN rws - 1) r.hd Rg1 (by omega) (by omega) H ?_
  intro it S1 h10 IT H
  refine ⟨_, _, nN rws - 1, _, _, g6, fun i _ acc => acc.length = i ∧ IntsAre acc ((List.range i).map fun (j : Nat) => 1 + drawI rws (3 + (j : Int)) 3), IT _ _, by omega, H, ⟨rfl, .nil⟩, fun _ _ _ _ _ e => e, ?_, ?_⟩
  · rintro i g' acc Cf D cen cvs v h3 le hi2 ⟨al, ai⟩ ⟨ti, rfl⟩ F H
    obtain ⟨cv, rfl⟩ := one_of H
    replace Wd := Wd.up le
    replace p1 := p1.up le
    dsimp only [List.cons_append] at H
    k_search "tt"
    refine W_call (draw_ok (n := n + 1) H Wd (by k_search "stk") r p1 hi h0 h64 (by omega) (by omega) (by omega) ?_)
    intro t3 h4 H
    k_search "tt"
    refine ⟨g', _, Le.refl g', ⟨by simp [al], ?_⟩, H⟩
    rw [List.range_succ, List.map_append]
    exact ints_snocT ai
  rintro g7 D acc l7 ⟨al, ai⟩
  refine ⟨_, by k_search "st", ?_⟩
  intro h11 H
  obtain ⟨g8, l8, s8, H8⟩ := H.give
  clear H
  have H := H8
  clear H8
  have s8 : Lst g8 D acc := s8
  have l78 := l7.trans l8
  replace Wd := Wd.up l78
  replace p1 := p1.up l78
  have l58 := l6.trans l78
  replace T1 := T1.up l58
  replace T2 := T2.up l58
  k_search "tt"
  refine W_nxt 5 rfl ?_
  k_search "tt"
  refine W_call (draw_ok (n := n + 1) H Wd (by k_search "stk") r p1 hi h0 h64 (by omega) (by omega) (by omega) ?_)
  intro t4 h12 H
  k_search "tt"
  refine W_nxt 6 rfl ?_
  k_search "tt"
  refine W_Dict0 H Wd ?_
  intro td h13 H
  replace H := H.swap
  k_search "tt"
  have lf : Le g g8 := ((l1.trans l2).trans l34).trans (l5.trans l58)
  exact q _ _ _ tv ts D td g8 _ lf ⟨⟨rv, p1, hi⟩, ⟨_, T1, strs_take s3 _⟩, ⟨_, T2, strs_take s4 _⟩, ⟨acc, s8, ai⟩⟩ H
end

end
section
set_option maxHeartbeats 4000000
section
variable {C : Cfg} {A : Around} {g h : Heap} {V : Led} {n : Nat} {R : Result → Heap → Prop}
def sp1 (rws : List Int) (i : Nat) : List VS := if 0 < i ∧ 2 ≤ (sdI rws).getD (i - 1) 0 then [.chk (-1)] else []
def sp2 (rws : List Int) (i : Nat) : List VS := if i + 1 < nN rws ∧ (sdI rws).getD i 0 ≠ 2 then [.chk 1] else []
def sp3 (i : Nat) : List VS := if i = 0 then [.num false (-12)] else []
def sp4 (rws : List Int) (i : Nat) : List VS := if i + 1 = nN rws then [.num true 12] else []
def spsI (rws : List Int) (i : Nat) : List VS := sp1 rws i ++ sp2 rws i ++ sp3 i ++ sp4 rws i
def kcI (rws : List Int) : Kc := ⟨lawNms.take (nN rws), lawShs.take (nN rws), (List.range (nN rws)).map (spsI rws), hwI rws, mM rws⟩
def CkL (P : Params) (g : Heap) (tv : Addr) (i : Nat) (vals : List Value) (sps : List VS) : Prop := vals.length = sps.length ∧ ∀ (j : Nat) (v : Value) (s : VS), vals[j]? = some v → sps[j]? = some s → Vd P g tv i v s
theorem CkL.up {P : Params} {g g' : Heap} {tv : Addr} {i : Nat} {vals : List Value} {sps : List VS} (x : CkL P g tv i vals sps) (le : Le g g') : CkL P g' tv i vals sps := ⟨x.1, fun j v s a b => (x.2 j v s a b).up le⟩
theorem CkL.snoc {P : Params} {g : Heap} {tv : Addr} {i : Nat} {vals : List Value} {sps : List VS} {v : Value} {s : VS} (x : CkL P g tv i vals sps) (y : Vd P g tv i v s) : CkL P g tv i (vals ++ [v]) (sps ++ [s]) := by
  refine ⟨by simp [x.1], fun j v1 s1 a b => ?_⟩
  by_cases hj : j < vals.length
  · rw [List.getElem?_append_left hj] at a
    rw [List.getElem?_append_left (by rw [← x.1]; exact hj)] at b
    exact x.2 j v1 s1 a b
  · rw [List.getElem?_append_right (by omega)] at a
    rw [List.getElem?_append_right (by have := x.1; omega)] at b
    have : j - vals.length = 0 := by
      rcases Nat.eq_zero_or_pos (j - vals.length) with h | h
      · exact h
      · rw [List.getElem?_eq_none (by simp; omega)] at a; cases a
    rw [this] at a
    rw [show j - sps.length = 0 from by have := x.1; omega] at b
    cases a
    cases b
    exact y
abbrev lfB (sa : Addr) (rws : List Int) (t1 t2 : Tok) (sl td : Addr) (vi vc : Option Value) : List (Option Value) := [some (.ref sa), some (.int (nN rws) t1), vi, some (.ref sl), some (.int (hwI rws) t2), some (.ref td), vc, none, none, none, none, none, none, none, none, none, none, none, none, none, none, none, none, none, none, none, none, none, none, none]
abbrev celB (ca : Nat → Addr) (rl tv ts : Addr) (rws : List Int) (tm : Tok) (V : Led) : Led := (ca 8, .cell none) :: (ca 7, .cell none) :: (ca 6, .cell none) :: (ca 5, .cell none) :: (ca 4, .cell none) :: (ca 3, .cell (some (.ref ts))) :: (ca 2, .cell (some (.ref tv))) :: (ca 1, .cell (some (.int (mM rws) tm))) :: (ca 0, .cell (some (.ref rl))) :: V
def MidB (C : Cfg) (g0 : Heap) (L cd td tv : Addr) (fr : List (Option Value)) (ks : List Str) (cas : List Value) (X : Led) (i : Nat) (sps : List VS) (h' : Heap) : Prop :=
  ∃ g' vals, Le g0 g' ∧ CkL C.w.params g' tv i vals sps ∧ Hp C.w.params g' ((L, .frm lwX fr) :: (cd, .lst vals) :: (td, .sd ks cas) :: X) h'
theorem sp_len (rws : List Int) (i : Nat) : (sp1 rws i).length ≤ 1 ∧ (sp2 rws i).length ≤ 1 ∧ (sp3 i).length ≤ 1 ∧ (sp4 rws i).length ≤ 1 := by
  unfold sp1 sp2 sp3 sp4
  refine ⟨?_, ?_, ?_, ?_⟩ <;> (split <;> simp)
theorem sd_len (rws : List Int) : (sdI rws).length = nN rws - 1 := by unfold sdI; simp
def forBody : List Stmt → List Stmt
  | .For _ _ b _ _ :: _ => b
  | _ => []
def body7 : List Stmt := forBody (lawB.drop 7)
theorem W_nxb {C : Cfg} {A : Around} {en : Env} {E : Value → Heap → Prop} {h : Heap} {ss ss' : List Stmt} {s : Stmt} {Q : Flow → Heap → Prop} (e : ss = s :: ss') (x : W C A (exec s en) (Fl Q fun h' => W C A (execs ss' en) Q E h') E h) : W C A (execs ss en) Q E h := by rw [e]; exact W_execs x
theorem checksB {en : Env} {L sa rl tv ts sl td : Addr} {ca : Nat → Addr} {rws : List Int} {t1 t2 tm ti : Tok} {vc : Option Value} {i : Nat} {ks : List Str} {cas : List Value} {X : Led} {E : Value → Heap → Prop} {Q : Flow → Heap → Prop} (F : Fe en L lawN lwX (lwC ca)) (S : Sb A en L X) (r : Rm A (n + 4)) (Wd : Wld C g)
    (lf : Lf C.w.params g rws rl tv ts sl) (mt : (569, .tab lcQ) ∈ X) (hi : i < nN rws)
    (H : Hp C.w.params g ((L, .frm lwX (lfB sa rws t1 t2 sl td (some (.int i ti)) vc)) :: (td, .sd ks cas) :: celB ca rl tv ts rws tm X) h)
    (q : ∀ cd h', MidB C g L cd td tv (lfB sa rws t1 t2 sl td (some (.int i ti)) (some (.ref cd))) ks cas (celB ca rl tv ts rws tm X) i (spsI rws i) h' → W C A (execs (body7.drop 5) en) Q E h') : W C A (execs body7 en) Q E h := by
  dsimp only [lfB, celB] at H
  obtain ⟨dv, d1, d2⟩ := lf.d
  obtain ⟨nv, tv1, tv2⟩ := lf.t
  have dl := sd_len rws
  have dvl : dv.length = nN rws - 1 := by rw [d2.length, dl]
  obtain ⟨eN, n2, n4⟩ := nN_eq rws
  refine W_nxb (ss' := body7.drop 1) rfl ?_
  k_search "tt"
  refine W_newList H (by simp) ?_
  intro cd h1 H
  replace H := H.swap
  k_search "tt"
  refine W_nxb (ss' := body7.drop 2) rfl (W_cut (MidB C g L cd td tv (lfB sa rws t1 t2 sl td (some (.int i ti)) (some (.ref cd))) ks cas (celB ca rl tv ts rws tm X) i ([] ++ sp1 rws i)) ?_ ?_)
  · obtain ⟨g0, hg0⟩ : ∃ g0, g0 = g := ⟨g, rfl⟩
    have ck : CkL C.w.params g tv i [] [] := ⟨rfl, fun j v s a => by simp at a⟩
    obtain ⟨vals, hv⟩ : ∃ vals : List Value, vals = [] := ⟨_, rfl⟩
    rw [← hv] at H ck
    have vz : vals.length ≤ 4 := by rw [hv]; decide
    clear hv
    have nx : ¬ (0 < i ∧ 2 ≤ (sdI rws).getD (i - 1) 0) → ∀ h', Hp C.w.params g ((L, .frm lwX (lfB sa rws t1 t2 sl td (some (.int i ti)) (some (.ref cd)))) :: (cd, .lst vals) :: (td, .sd ks cas) :: celB ca rl tv ts rws tm X) h' → MidB C g L cd td tv (lfB sa rws t1 t2 sl td (some (.int i ti)) (some (.ref cd))) ks cas (celB ca rl tv ts rws tm X) i ([] ++ sp1 rws i) h' := fun e h' H => by
      refine ⟨g, vals, Le.refl g, ?_, H⟩
      unfold sp1
      rw [if_neg e, List.append_nil]
      exact ck
    k_search "tt"
    refine ⟨fun e => ?_, fun e => ?_⟩
    · have e := of_decide_eq_true e
      k_search "tt"
      obtain ⟨t3, e3⟩ := ints_at d2 (j := i - 1) (by omega)
      refine W_sub_listN (j := i - 1) (d1.up H.le) (by omega) e3 (by omega) ?_
      k_search "tt"
      refine ⟨fun e2 => ?_, fun e2 => ?_⟩
      · have e2 := of_decide_eq_true e2
        k_search "tt"
        refine W_CallM (fun _ => rfl) rfl ?_
        k_search "tt"
        refine W_callee rfl ?_
        refine W_get_append (vs := vals) (H.at (s := .lst vals) (by k_search "mm")) ?_
        k_search "tt"
        refine W_neg ?_; intro
        k_search "tt"
        refine W_call (lcheck_ok (n := n + 3) H Wd (by k_search "stk") r (by k_search "mt") ?_)
        intro f5 g5 h4 l5 ch H
        k_search "tt"
        refine W_append (items := vals) H (by k_search "up") (by omega) ?_
        intro h5 H
        k_search "tt"
        refine ⟨rfl, g5, _, l5, ?_, H⟩
        unfold sp1
        rw [if_pos ⟨by omega, e2⟩]
        exact (ck.up l5).snoc (s := .chk (-1)) ⟨f5, _, _, rfl, ch⟩
      · have e2 := of_decide_eq_false e2
        k_search "tt"
        exact ⟨rfl, nx (fun e3 => e2 e3.2) _ H⟩
    · have e := of_decide_eq_false e
      k_search "tt"
      exact ⟨rfl, nx (fun e3 => e (by omega)) _ H⟩
  have Wd0 := Wd
  have d10 := d1
  rintro h2 ⟨g2, vals, l2, ck, H⟩
  replace Wd := Wd0.up l2
  replace d1 := d10.up l2
  have vz : vals.length ≤ 4 := by
    have := sp_len rws i
    have e := ck.1
    simp only [List.length_append, List.length_nil] at e
    omega
  dsimp only [lfB, celB] at H
  refine W_nxb (ss' := body7.drop 3) rfl (W_cut (MidB C g L cd td tv (lfB sa rws t1 t2 sl td (some (.int i ti)) (some (.ref cd))) ks cas (celB ca rl tv ts rws tm X) i ([] ++ sp1 rws i ++ sp2 rws i)) ?_ ?_)
  · have nx : ¬ (i + 1 < nN rws ∧ (sdI rws).getD i 0 ≠ 2) → ∀ h', Hp C.w.params g2 ((L, .frm lwX (lfB sa rws t1 t2 sl td (some (.int i ti)) (some (.ref cd)))) :: (cd, .lst vals) :: (td, .sd ks cas) :: celB ca rl tv ts rws tm X) h' → MidB C g L cd td tv (lfB sa rws t1 t2 sl td (some (.int i ti)) (some (.ref cd))) ks cas (celB ca rl tv ts rws tm X) i ([] ++ sp1 rws i ++ sp2 rws i) h' := fun e h' H => by
      refine ⟨g2, vals, l2, ?_, H⟩
      unfold sp2
      rw [if_neg e, List.append_nil]
      exact ck
    k_search "tt"
    refine ⟨fun e => ?_, fun e => ?_⟩
    · have e := of_decide_eq_true e
      k_search "tt"
      obtain ⟨t3, e3⟩ := ints_at d2 (j := i) (by omega)
      refine W_sub_listN (j := i) (d1.up H.le) rfl e3 (by omega) ?_
      k_search "tt"
      refine ⟨fun e2 => ?_, fun e2 => ?_⟩
      · have e2 : (sdI rws).getD i 0 ≠ 2 := by simpa using e2
        k_search "tt"
        refine W_CallM (fun _ => rfl) rfl ?_
        k_search "tt"
        refine W_callee rfl ?_
        refine W_get_append (vs := vals) (H.at (s := .lst vals) (by k_search "mm")) ?_
        k_search "tt"
        refine W_call (lcheck_ok (n := n + 3) H Wd (by k_search "stk") r (by k_search "mt") ?_)
        intro f5 g5 h4 l5 ch H
        k_search "tt"
        refine W_append (items := vals) H (by k_search "up") (by omega) ?_
        intro h5 H
        k_search "tt"
        refine ⟨rfl, g5, _, l2.trans l5, ?_, H⟩
        unfold sp2
        rw [if_pos ⟨by omega, e2⟩]
        exact (ck.up l5).snoc (s := .chk 1) ⟨f5, _, _, rfl, ch⟩
      · have e2 : (sdI rws).getD i 0 = 2 := by simpa using e2
        k_search "tt"
        exact ⟨rfl, nx (fun e3 => e3.2 e2) _ H⟩
    · have e := of_decide_eq_false e
      k_search "tt"
      exact ⟨rfl, nx (fun e3 => e (by omega)) _ H⟩
  rintro h2 ⟨g2, vals, l2, ck, H⟩
  replace Wd := Wd0.up l2
  replace d1 := d10.up l2
  have vz : vals.length ≤ 4 := by
    have := sp_len rws i
    have e := ck.1
    simp only [List.length_append, List.length_nil] at e
    omega
  dsimp only [lfB, celB] at H
  refine W_nxb (ss' := body7.drop 4) rfl (W_cut (MidB C g L cd td tv (lfB sa rws t1 t2 sl td (some (.int i ti)) (some (.ref cd))) ks cas (celB ca rl tv ts rws tm X) i ([] ++ sp1 rws i ++ sp2 rws i ++ sp3 i)) ?_ ?_)
  · have nx : ¬ (i = 0) → ∀ h', Hp C.w.params g2 ((L, .frm lwX (lfB sa rws t1 t2 sl td (some (.int i ti)) (some (.ref cd)))) :: (cd, .lst vals) :: (td, .sd ks cas) :: celB ca rl tv ts rws tm X) h' → MidB C g L cd td tv (lfB sa rws t1 t2 sl td (some (.int i ti)) (some (.ref cd))) ks cas (celB ca rl tv ts rws tm X) i ([] ++ sp1 rws i ++ sp2 rws i ++ sp3 i) h' := fun e h' H => by
      refine ⟨g2, vals, l2, ?_, H⟩
      unfold sp3
      rw [if_neg e, List.append_nil]
      exact ck
    k_search "tt"
    refine ⟨fun e => ?_, fun e => ?_⟩
    · have e : (i : Int) = 0 := by simpa using e
      have e : i = 0 := by omega
      k_search "tt"
      refine W_CallM (fun _ => rfl) rfl ?_
      k_search "tt"
      refine W_callee rfl ?_
      refine W_get_append (vs := vals) (H.at (s := .lst vals) (by k_search "mm")) ?_
      k_search "tt"
      refine W_neg ?_; intro
      k_search "tt"
      refine W_call (ge_ok (n := n + 1) H Wd (by k_search "stk") r ?_)
      intro a5 t5 g5 h4 l5 I5 H
      k_search "tt"
      refine W_append (items := vals) H (by k_search "up") (by omega) ?_
      intro h5 H
      k_search "tt"
      refine ⟨rfl, g5, _, l2.trans l5, ?_, H⟩
      unfold sp3
      rw [if_pos e]
      exact (ck.up l5).snoc (s := .num false (-12)) ⟨a5, rfl, _, _, _, I5, by decide +kernel⟩
    · have e : ¬ (i : Int) = 0 := by simpa using e
      have e : ¬ (i = 0) := by omega
      k_search "tt"
      exact ⟨rfl, nx e _ H⟩
  rintro h2 ⟨g2, vals, l2, ck, H⟩
  replace Wd := Wd0.up l2
  replace d1 := d10.up l2
  have vz : vals.length ≤ 4 := by
    have := sp_len rws i
    have e := ck.1
    simp only [List.length_append, List.length_nil] at e
    omega
  dsimp only [lfB, celB] at H
  refine W_nxb (ss' := body7.drop 5) rfl (W_cut (MidB C g L cd td tv (lfB sa rws t1 t2 sl td (some (.int i ti)) (some (.ref cd))) ks cas (celB ca rl tv ts rws tm X) i ([] ++ sp1 rws i ++ sp2 rws i ++ sp3 i ++ sp4 rws i)) ?_ ?_)
  · have nx : ¬ (i + 1 = nN rws) → ∀ h', Hp C.w.params g2 ((L, .frm lwX (lfB sa rws t1 t2 sl td (some (.int i ti)) (some (.ref cd)))) :: (cd, .lst vals) :: (td, .sd ks cas) :: celB ca rl tv ts rws tm X) h' → MidB C g L cd td tv (lfB sa rws t1 t2 sl td (some (.int i ti)) (some (.ref cd))) ks cas (celB ca rl tv ts rws tm X) i ([] ++ sp1 rws i ++ sp2 rws i ++ sp3 i ++ sp4 rws i) h' := fun e h' H => by
      refine ⟨g2, vals, l2, ?_, H⟩
      unfold sp4
      rw [if_neg e, List.append_nil]
      exact ck
    k_search "tt"
    refine ⟨fun e => ?_, fun e => ?_⟩
    · have e : (i : Int) = (nN rws : Int) - 1 := by simpa using e
      have e : i + 1 = nN rws := by omega
      k_search "tt"
      refine W_CallM (fun _ => rfl) rfl ?_
      k_search "tt"
      refine W_callee rfl ?_
      refine W_get_append (vs := vals) (H.at (s := .lst vals) (by k_search "mm")) ?_
      k_search "tt"
      refine W_call (le_ok (n := n + 1) H Wd (by k_search "stk") r ?_)
      intro a5 t5 g5 h4 l5 I5 H
      k_search "tt"
      refine W_append (items := vals) H (by k_search "up") (by omega) ?_
      intro h5 H
      k_search "tt"
      refine ⟨rfl, g5, _, l2.trans l5, ?_, H⟩
      unfold sp4
      rw [if_pos e]
      exact (ck.up l5).snoc (s := .num true 12) ⟨a5, rfl, _, _, _, I5, by decide +kernel⟩
    · have e : ¬ (i : Int) = (nN rws : Int) - 1 := by simpa using e
      have e : ¬ (i + 1 = nN rws) := by omega
      k_search "tt"
      exact ⟨rfl, nx e _ H⟩
  rintro h2 M
  exact q cd h2 (by simpa [spsI] using M)
end

end
section
set_option maxHeartbeats 4000000
section
variable {C : Cfg} {A : Around} {g h : Heap} {V : Led} {n : Nat} {R : Result → Heap → Prop}
def TabJ (P : Params) (g : Heap) (rws : List Int) (tv : Addr) (j : Nat) (cas : List Value) : Prop := cas.length = j ∧ ∀ (k : Nat) (v : Value), cas[k]? = some v → ∃ ca vk cv x t2 t3, v = .ref ca ∧ Inst P g ca 379 caK [.ref 101, vk, cv, .bool true, .none, .bool true, .none, .bool true, .none, .none, .none] ∧
  (lawNms.take (nN rws))[k]? = some x ∧ Vk P g vk tv k (spsI rws k) ∧ Cvt P g cv (hwI rws) (.int (mM rws) t2) (.str x t3)
theorem TabJ.up {P : Params} {g g' : Heap} {rws : List Int} {tv : Addr} {j : Nat} {cas : List Value} (x : TabJ P g rws tv j cas) (le : Le g g') : TabJ P g' rws tv j cas :=
  ⟨x.1, fun k v e => let ⟨ca, vk, cv, x, t2, t3, a, b, c, d, e'⟩ := x.2 k v e; ⟨ca, vk, cv, x, t2, t3, a, b.up le, c, d.up le, e'.up le⟩⟩
theorem sps_len (rws : List Int) (i : Nat) : (spsI rws i).length ≤ 4 := by
  have := sp_len rws i
  unfold spsI
  simp only [List.length_append]
  omega
theorem lawNms_nd (k : Nat) : (lawNms.take k).Nodup := (show lawNms.Nodup by decide +kernel).sublist (List.take_sublist _ _)
theorem turnB {en : Env} {L sa rl tv ts sl td cd : Addr} {ca : Nat → Addr} {rws : List Int} {t1 t2 tm ti : Tok} {i : Nat} {cas : List Value} {X : Led} {E : Value → Heap → Prop} {Q : Flow → Heap → Prop} (F : Fe en L lawN lwX (lwC ca)) (S : Sb A en L X) (r : Rm A (n + 6)) (Wd : Wld C g)
    (lf : Lf C.w.params g rws rl tv ts sl) (mt1 : (576, .tab lrQ) ∈ X) (mt2 : (276, .tab deQ) ∈ X) (hi : i < nN rws) (tj : TabJ C.w.params g rws tv i cas)
    (M : MidB C g L cd td tv (lfB sa rws t1 t2 sl td (some (.int i ti)) (some (.ref cd))) ((lawNms.take (nN rws)).take i) cas (celB ca rl tv ts rws tm X) i (spsI rws i) h)
    (q : ∀ cas' g' h', Le g g' → TabJ C.w.params g' rws tv (i + 1) cas' → Hp C.w.params g' ((L, .frm lwX (lfB sa rws t1 t2 sl td (some (.int i ti)) (some (.ref cd)))) :: (td, .sd ((lawNms.take (nN rws)).take (i + 1)) cas') :: celB ca rl tv ts rws tm X) h' → Q .next h') : W C A (execs (body7.drop 5) en) Q E h := by
  obtain ⟨g1, vals, l1, ck, H1⟩ := M
  dsimp only [lfB, celB] at H1
  obtain ⟨eN, n2, n4⟩ := nN_eq rws
  obtain ⟨g2, l2, s2, H⟩ := H1.give
  clear H1
  have s2 : Lst g2 cd vals := s2
  have l12 := l1.trans l2
  replace Wd := Wd.up l12
  replace lf := lf.up l12
  replace tj := tj.up l12
  replace ck := ck.up l2
  obtain ⟨nv, T1, T2⟩ := lf.t
  have ckl := ck.1
  have spl := sps_len rws i
  have nl : (lawNms.take (nN rws)).length = nN rws := by rw [List.length_take]; show min (nN rws) 4 = _; omega
  have nvl : nv.length = nN rws := by rw [T2.1, nl]
  obtain ⟨tx, ex⟩ := T2.2 i _ (getD_str (by omega))
  refine W_nxb (ss' := []) rfl ?_
  k_search "tt"
  refine W_sub_tupN (j := i) (T1.up H.le) rfl ex (by omega) ?_
  k_search "tt"
  refine W_call (lround_ok (n := n + 3) H Wd (by k_search "stk") r (by k_search "mt") ?_)
  intro cv g3 h3 l3 cvt H
  replace Wd := Wd.up l3
  replace T1 := T1.up l3
  replace s2 := s2.up l3
  replace ck := ck.up l3
  k_search "tt"
  refine W_or2 ?_
  k_search "tt"
  refine W_truthy_list (s2.up H.le) (by omega) ?_
  have fin : ∀ va h', Va C.w.params g3 va tv i (spsI rws i) → Hp C.w.params g3 ((L, .frm lwX (lfB sa rws t1 t2 sl td (some (.int i ti)) (some (.ref cd)))) :: (td, .sd ((lawNms.take (nN rws)).take i) cas) :: celB ca rl tv ts rws tm X) h' →
      W C A (call (.ref 109) [] [(Str.ofString "converter", cv), (Str.ofString "validator", va)]) (fun v h2 => ∃ a vk g4, v = .ref a ∧ Le g3 g4 ∧ Vk C.w.params g4 vk tv i (spsI rws i) ∧ Inst C.w.params g4 a 379 caK [.ref 101, vk, cv, .bool true, .none, .bool true, .none, .bool true, .none, .none, .none] ∧ Hp C.w.params g4 ((L, .frm lwX (lfB sa rws t1 t2 sl td (some (.int i ti)) (some (.ref cd)))) :: (td, .sd ((lawNms.take (nN rws)).take i) cas) :: celB ca rl tv ts rws tm X) h2) E h' := fun va h' pv H => by
    dsimp only [lfB, celB] at H
    refine W_call (att_ok (n := n + 1) H Wd (by k_search "stk") r (by k_search "mt") cvt pv ?_)
    intro a vk g4 h2 l4 vk2 I H
    exact ⟨a, vk, g4, rfl, l4, vk2, I, H⟩
  have tk : (lawNms.take (nN rws)).take (i + 1) = (lawNms.take (nN rws)).take i ++ [(lawNms.take (nN rws)).getD i Str.empty] := by rw [List.take_add_one, getD_str (by omega)]; rfl
  have nk : (lawNms.take (nN rws)).getD i Str.empty ∉ (lawNms.take (nN rws)).take i := by
    have nd := lawNms_nd (nN rws)
    have := (nd.sublist (List.take_sublist (i + 1) _))
    rw [tk] at this
    exact fun m => (List.nodup_append.mp this).2.2 _ m _ (by simp) rfl
  refine ⟨fun e => ?_, fun e => ?_⟩
  case' refine_1 => have pv : Va C.w.params g3 (.ref cd) tv i (spsI rws i) := .inr ⟨cd, vals, rfl, s2, ck.1, fun e2 => by rw [e2] at ckl; cases vals <;> simp at *, by omega, ck.2⟩
  case' refine_2 => have pv : Va C.w.params g3 .none tv i (spsI rws i) := .inl ⟨rfl, by cases vals with
    | nil => exact List.length_eq_zero_iff.mp ckl.symm
    | cons a b => simp at e⟩
  all_goals
    k_search "tt"
    refine W_mono (fin _ _ pv H) ?_ (fun _ _ z => z)
    clear H
    rintro v h5 ⟨a, vk, g4, rfl, l4, vk2, I, H⟩
    dsimp only [lfB, celB] at H
    replace Wd := Wd.up l4
    replace T1 := T1.up l4
    k_search "tt"
    refine W_sub_tupN (j := i) (T1.up H.le) rfl ex (by omega) ?_
    refine W_setItem_sd (ks' := (lawNms.take (nN rws)).take (i + 1)) (vs' := cas ++ [.ref a]) H ((lawNms_nd _).sublist (List.take_sublist _ _)) (by k_search "up") (by rw [tk]; exact .new nk) (by rw [List.length_take]; omega) ?_
    intro h6 H
    k_search "tt"
    refine q (cas ++ [.ref a]) g4 h6 (l12.trans (l3.trans l4)) ⟨by simp [tj.1], fun k v e => ?_⟩ H
    have tj4 := (tj.up (l3.trans l4))
    by_cases hk : k < cas.length
    · rw [List.getElem?_append_left hk] at e
      exact tj4.2 k v e
    · rw [List.getElem?_append_right (by omega)] at e
      have : k - cas.length = 0 := by
        rcases Nat.eq_zero_or_pos (k - cas.length) with h | h
        · exact h
        · rw [List.getElem?_eq_none (by simp; omega)] at e; cases e
      rw [this] at e
      cases e
      have tl := tj.1
      obtain rfl : k = i := by omega
      exact ⟨a, vk, cv, _, tm, tx, rfl, I, getD_str (by omega), vk2, cvt.up l4⟩
theorem segB {en : Env} {L sa rl tv ts sl td : Addr} {ca : Nat → Addr} {rws : List Int} {t1 t2 tm : Tok} (F : Fe en L lawN lwX (lwC ca)) (S : Sb A en L V) (r : Rm A (n + 6)) (Wd : Wld C g)
    (lf : Lf C.w.params g rws rl tv ts sl) (mt0 : (569, .tab lcQ) ∈ V) (mt1 : (576, .tab lrQ) ∈ V) (mt2 : (276, .tab deQ) ∈ V)
    (H : Hp C.w.params g ((L, .frm lwX (lfA sa rws t1 t2 sl td)) :: (td, .sd [] []) :: (lwL ca (some (.ref rl)) (some (.int (mM rws) tm)) (some (.ref tv)) (some (.ref ts)) none none none none none ++ V)) h)
    (q : ∀ vi vc cas g' h', Le g g' → TabJ C.w.params g' rws tv (nN rws) cas → Hp C.w.params g' ((L, .frm lwX (lfB sa rws t1 t2 sl td vi vc)) :: (td, .sd (lawNms.take (nN rws)) cas) :: celB ca rl tv ts rws tm V) h' → LB C A en R 8 h') : LB C A en R 7 h := by
  dsimp only [List.cons_append, List.nil_append] at H
  obtain ⟨eN, n2, n4⟩ := nN_eq rws
  have nl : (lawNms.take (nN rws)).length = nN rws := by rw [List.length_take]; show min (nN rws) 4 = _; omega
  refine W_nxt 7 rfl ?_
  refine W_For ?_ (fun _ => rfl)
  k_search "tt"
  refine W_range1 H ?_
  intro rg g1 h1 l1 Rg1 H
  replace Wd := Wd.up l1
  replace lf := lf.up l1
  refine W_iter_rangeN (n := nN rws) r.hd Rg1 rfl (by omega) H ?_
  intro it S1 h2 IT H
  refine CW_for (R := fun _ _ => True) (IT _ _) (fun j g' V' => Le g1 g' ∧ ∃ vi vc cas, TabJ C.w.params g' rws tv j cas ∧ V' = (L, .frm lwX (lfB sa rws t1 t2 sl td vi vc)) :: (td, .sd ((lawNms.take (nN rws)).take j) cas) :: celB ca rl tv ts rws tm V) ?_ H (Le.refl g1) ⟨Le.refl g1, none, none, [], ⟨rfl, fun k v e => by simp at e⟩, rfl⟩ ?_ ?_
  · rintro i g g' V1 l ⟨a, vi, vc, cas, b, c⟩
    exact ⟨a.trans l, vi, vc, cas, b.up l, c⟩
  · rintro j g2 V1 h3 v le2 hj ⟨_, vi, vc, cas, tj, rfl⟩ ⟨ti, rfl⟩ H
    dsimp only [List.cons_append] at H
    replace Wd := Wd.up le2
    replace lf := lf.up le2
    refine W_as_Name (W_bindL F H (by k_search "st") ?_)
    clear H
    intro h4 H
    have Sx : Sb A en L (V ++ S1 (j + 1)) := by
      obtain ⟨envs, a, b, c, d⟩ := S
      exact ⟨envs, a, b, c, fun e he => let ⟨x, y⟩ := d e he; ⟨x, let ⟨L', xs, vs, p, q⟩ := y; ⟨L', xs, vs, p, List.mem_append_left _ q⟩⟩⟩
    refine checksB (n := n + 2) F Sx r Wd lf (List.mem_append_left _ mt0) hj H ?_
    rintro cd h5 M
    refine turnB (n := n) F Sx r Wd lf (List.mem_append_left _ mt1) (List.mem_append_left _ mt2) hj tj M ?_
    rintro cas' g3 h6 l3 tj' H
    exact ⟨g3, _, l3, ⟨le2.trans l3, _, _, _, tj', rfl⟩, H⟩
  · rintro g2 V1 h3 le2 ⟨_, vi, vc, cas, tj, rfl⟩ H
    rw [List.take_of_length_le (by omega)] at H
    k_search "tt"
    exact q vi vc cas g2 h3 (l1.trans le2) tj H
end

end
section
set_option maxHeartbeats 4000000
section
variable {C : Cfg} {A : Around} {g h : Heap} {V : Led} {n : Nat} {R : Result → Heap → Prop}
theorem kcI_nl (rws : List Int) : (kcI rws).nms.length = nN rws := by
  have := nN_eq rws
  show (lawNms.take (nN rws)).length = _
  rw [List.length_take]; show min (nN rws) 4 = _; omega
theorem kcI_sl (rws : List Int) : (kcI rws).shs.length = nN rws := by
  have := nN_eq rws
  show (lawShs.take (nN rws)).length = _
  rw [List.length_take]; show min (nN rws) 4 = _; omega
theorem kcI_sp {rws : List Int} {i : Nat} (h : i < nN rws) : (kcI rws).spss.getD i [] = spsI rws i := by
  show ((List.range (nN rws)).map (spsI rws)).getD i [] = _
  rw [List.getD_eq_getElem?_getD, List.getElem?_map, List.getElem?_range h]
  rfl
theorem law_sh : ∀ (i : Nat) (x : Str), lawNms[i]? = some x → lawShs[i]? = some (Txt.lstripChars x (Str.ofString "_"))
  | 0, x, e => by cases e; decide +kernel
  | 1, x, e => by cases e; decide +kernel
  | 2, x, e => by cases e; decide +kernel
  | 3, x, e => by cases e; decide +kernel
  | j + 4, x, e => by simp at e
theorem law_s1 : ∀ x ∈ lawNms, Shrt x := by
  have : ∀ x ∈ lawNms, x.length ≤ 10 ∧ (reprText x).length ≤ 200 := by decide +kernel
  exact this
theorem law_s2 : ∀ x ∈ lawShs, Shrt x ∧ x.length ≠ 0 := by
  have : ∀ x ∈ lawShs, (x.length ≤ 10 ∧ (reprText x).length ≤ 200) ∧ x.length ≠ 0 := by decide +kernel
  exact this
theorem law_so : ∀ x ∈ lawNms, PyData.strOk x = true := by decide +kernel
theorem kcI_so (rws : List Int) : ∀ x ∈ (kcI rws).nms, PyData.strOk x = true := fun x hx => law_so x (List.mem_of_mem_take hx)
theorem law_self : Str.ofString "self" ∉ lawShs ∧ Str.ofString "inst" ∉ lawNms ∧ Str.ofString "inst" ∉ lawShs ∧ Str.ofString "self" ∉ lawNms := by decide +kernel
theorem kcI_ok (rws : List Int) : (kcI rws).Ok := by
  have hN := nN_eq rws
  have hm := mM_eq rws
  refine ⟨lawNms_nd _, (show lawShs.Nodup by decide +kernel).sublist (List.take_sublist _ _), by rw [kcI_nl, kcI_sl], ?_, by rw [kcI_nl]; exact hN.2.2, by show 0 < mM rws; omega, by show mM rws ≤ 9; omega, fun i x e => ?_, fun x hx => law_s1 x (List.mem_of_mem_take hx), fun x hx => law_s2 x (List.mem_of_mem_take hx), fun i sps e s hs => ?_⟩
  · rw [kcI_nl]; show ((List.range (nN rws)).map (spsI rws)).length = _; simp
  · have e : (lawNms.take (nN rws))[i]? = some x := e
    show (lawShs.take (nN rws))[i]? = _
    rw [List.getElem?_take] at e ⊢
    split at e
    · rename_i h; rw [if_pos h]; exact law_sh i x e
    · cases e
  · have e : ((List.range (nN rws)).map (spsI rws))[i]? = some sps := e
    rw [List.getElem?_map] at e
    rw [kcI_nl]
    by_cases hi : i < nN rws
    · rw [List.getElem?_range hi] at e
      cases e
      unfold spsI at hs
      simp only [List.mem_append] at hs
      rcases hs with ((hs | hs) | hs) | hs
      · unfold sp1 at hs
        split at hs
        · rw [List.mem_singleton.mp hs]; exact ⟨fun _ => by omega, fun h => absurd h (by decide)⟩
        · cases hs
      · unfold sp2 at hs
        split at hs
        · rw [List.mem_singleton.mp hs]; exact ⟨fun h => absurd h (by decide), fun _ => by omega⟩
        · cases hs
      · unfold sp3 at hs
        split at hs
        · rw [List.mem_singleton.mp hs]; show (-12 : Int).natAbs < 1000; decide
        · cases hs
      · unfold sp4 at hs
        split at hs
        · rw [List.mem_singleton.mp hs]; show (12 : Int).natAbs < 1000; decide
        · cases hs
    · rw [List.getElem?_eq_none (by simp; omega)] at e; cases e
def Bad (rws : List Int) (row : List Int) (i : Nat) (v : Int) : Prop := (0 < i ∧ 2 ≤ (sdI rws).getD (i - 1) 0 ∧ v < row.getD (i - 1) 0) ∨ (i + 1 < nN rws ∧ (sdI rws).getD i 0 ≠ 2 ∧ row.getD (i + 1) 0 < v) ∨ (i = 0 ∧ v < -12) ∨ (i + 1 = nN rws ∧ 12 < v)
theorem bad_iff {rws row : List Int} {i : Nat} {v : Int} (h : i < nN rws) : ((kcI rws).spss.getD i []).any (badV row i v) = true ↔ Bad rws row i v := by
  rw [kcI_sp h]
  unfold spsI
  simp only [List.any_append, Bool.or_eq_true]
  have e1 : (sp1 rws i).any (badV row i v) = true ↔ (0 < i ∧ 2 ≤ (sdI rws).getD (i - 1) 0 ∧ v < row.getD (i - 1) 0) := by
    unfold sp1
    split
    · rename_i hh
      simp [badV, badC, hh.1, hh.2]
      exact fun _ => by simpa using hh.2
    · rename_i hh
      simp only [List.any_nil, Bool.false_eq_true, false_iff]
      exact fun z => hh ⟨z.1, z.2.1⟩
  have e2 : (sp2 rws i).any (badV row i v) = true ↔ (i + 1 < nN rws ∧ (sdI rws).getD i 0 ≠ 2 ∧ row.getD (i + 1) 0 < v) := by
    unfold sp2
    split
    · rename_i hh
      simp [badV, badC, hh.1, hh.2]
      exact fun _ => by simpa using hh.2
    · rename_i hh
      simp only [List.any_nil, Bool.false_eq_true, false_iff]
      exact fun z => hh ⟨z.1, z.2.1⟩
  have e3 : (sp3 i).any (badV row i v) = true ↔ (i = 0 ∧ v < -12) := by
    unfold sp3
    split
    · rename_i hh; simp [badV, badN, hh]
    · rename_i hh; simp [hh]
  have e4 : (sp4 rws i).any (badV row i v) = true ↔ (i + 1 = nN rws ∧ 12 < v) := by
    unfold sp4
    split
    · rename_i hh; simp [badV, badN, hh]
    · rename_i hh; simp [hh]
  rw [e1, e2, e3, e4]
  unfold Bad
  constructor
  · rintro (((h | h) | h) | h)
    · exact .inl h
    · exact .inr (.inl h)
    · exact .inr (.inr (.inl h))
    · exact .inr (.inr (.inr h))
  · rintro (h | h | h | h)
    · exact .inl (.inl (.inl h))
    · exact .inl (.inl (.inr h))
    · exact .inl (.inr h)
    · exact .inr h
theorem right_iff {row : List Int} : rightI row = true ↔ (-12 ≤ row.getD 0 0 ∧ row.getD (row.length - 1) 0 ≤ 12 ∧ ∀ i, i + 1 < row.length → row.getD i 0 ≤ row.getD (i + 1) 0) := by
  unfold rightI
  split
  · rename_i h
    simp only [Bool.false_eq_true, false_iff]
    rintro ⟨a, b, _⟩
    omega
  · rename_i h
    rw [List.all_eq_true]
    constructor
    · intro f
      refine ⟨by omega, by omega, fun i hi => ?_⟩
      have := f i (List.mem_range.mpr (by omega))
      simp at this
      simpa using this
    · rintro ⟨_, _, f⟩ i hi
      have := f i (by have := List.mem_range.mp hi; omega)
      simpa using this
theorem passes_right {rws row : List Int} (hl : row.length = nN rws) : passes (kcI rws) row = rightI row := by
  have hN := nN_eq rws
  rw [Bool.eq_iff_iff, right_iff]
  unfold passes
  rw [kcI_nl, List.all_eq_true]
  have key : (∀ i, i < nN rws → ¬ Bad rws row i (row.getD i 0)) ↔ (-12 ≤ row.getD 0 0 ∧ row.getD (row.length - 1) 0 ≤ 12 ∧ ∀ i, i + 1 < row.length → row.getD i 0 ≤ row.getD (i + 1) 0) := by
    constructor
    · intro f
      refine ⟨?_, ?_, fun i hi => ?_⟩
      · have := f 0 (by omega)
        unfold Bad at this
        omega
      · have := f (nN rws - 1) (by omega)
        unfold Bad at this
        rw [hl]
        have e : nN rws - 1 + 1 = nN rws := by omega
        rw [e] at this
        omega
      · have a := f i (by omega)
        have b := f (i + 1) (by omega)
        unfold Bad at a b
        rw [show i + 1 - 1 = i from by omega] at b
        omega
    · rintro ⟨a, b, c⟩ i hi bad
      rcases bad with ⟨h1, h2, h3⟩ | ⟨h1, h2, h3⟩ | ⟨h1, h2⟩ | ⟨h1, h2⟩
      · have := c (i - 1) (by omega)
        rw [show i - 1 + 1 = i from by omega] at this
        omega
      · have := c i (by omega)
        omega
      · subst h1; omega
      · rw [hl, show nN rws - 1 = i from by omega] at b
        omega
  rw [← key]
  constructor
  · intro f i hi hb
    have := f i (List.mem_range.mpr hi)
    rw [(bad_iff hi).mpr hb] at this
    cases this
  · intro f i hi
    have hi := List.mem_range.mp hi
    have := f i hi
    rw [← bad_iff hi] at this
    simpa using this
end

end
section
set_option maxHeartbeats 4000000
section
variable {C : Cfg} {A : Around} {g h : Heap} {V : Led} {n : Nat} {R : Result → Heap → Prop}
theorem rd_all {m v : Int} (h1 : 1 ≤ m) (h3 : m ≤ 3) : rd m v = v - v % m := by
  unfold rd
  rw [Int.fmod_eq_emod_of_nonneg _ (by omega)]
theorem rd_le {m v : Int} (h1 : 1 ≤ m) (h3 : m ≤ 3) : rd m v ≤ v ∧ v - 3 < rd m v := by
  rw [rd_all h1 h3]
  obtain rfl | rfl | rfl : m = 1 ∨ m = 2 ∨ m = 3 := by omega
  all_goals omega
theorem rd_rd {m v : Int} (h1 : 1 ≤ m) (h3 : m ≤ 3) : rd m (rd m v) = rd m v := by
  rw [rd_all h1 h3, rd_all h1 h3]
  obtain rfl | rfl | rfl : m = 1 ∨ m = 2 ∨ m = 3 := by omega
  all_goals omega
theorem rd_low {m v : Int} (h1 : 1 ≤ m) (h3 : m ≤ 3) (h : -12 ≤ v) : -12 ≤ rd m v := by
  rw [rd_all h1 h3]
  obtain rfl | rfl | rfl : m = 1 ∨ m = 2 ∨ m = 3 := by omega
  all_goals omega
theorem rd_mono {m v w : Int} (h1 : 1 ≤ m) (h3 : m ≤ 3) (h : v ≤ w) : rd m v ≤ rd m w := by
  rw [rd_all h1 h3, rd_all h1 h3]
  obtain rfl | rfl | rfl : m = 1 ∨ m = 2 ∨ m = 3 := by omega
  all_goals omega
structure Srt (rws fs : List Int) : Prop where
  l : fs.length = nN rws
  s : fs.Pairwise (· ≤ ·)
  b : ∀ x ∈ fs, -12 ≤ x ∧ x ≤ 12
structure Rdd (rws u : List Int) : Prop where
  l : u.length = nN rws
  b : ∀ x ∈ u, x.natAbs < 50
  r : ∀ x ∈ u, rd (mM rws) x = x
theorem getD_map {l : List Int} {f : Int → Int} {i : Nat} (h : i < l.length) : (l.map f).getD i 0 = f (l.getD i 0) := by
  rw [List.getD_eq_getElem?_getD, List.getD_eq_getElem?_getD, List.getElem?_map, List.getElem?_eq_getElem h]; rfl
theorem ext_getD {a b : List Int} (h : a.length = b.length) (e : ∀ i, i < a.length → a.getD i 0 = b.getD i 0) : a = b := by
  refine List.ext_getElem h fun i h1 h2 => ?_
  have := e i h1
  rw [List.getD_eq_getElem?_getD, List.getD_eq_getElem?_getD, List.getElem?_eq_getElem h1, List.getElem?_eq_getElem h2] at this
  exact this
theorem Srt.le {rws fs : List Int} (s : Srt rws fs) {i j : Nat} (h : i ≤ j) (hj : j < nN rws) : fs.getD i 0 ≤ fs.getD j 0 := by
  have hl := s.l
  rcases Nat.eq_or_lt_of_le h with rfl | h
  · exact Int.le_refl _
  · rw [List.getD_eq_getElem?_getD, List.getD_eq_getElem?_getD, List.getElem?_eq_getElem (show i < fs.length by omega), List.getElem?_eq_getElem (show j < fs.length by omega)]
    exact List.pairwise_iff_getElem.mp s.s i j (by omega) (by omega) h
theorem Srt.rdd {rws fs : List Int} (s : Srt rws fs) : Rdd rws (fs.map (rd (mM rws))) := by
  have hm := mM_eq rws
  refine ⟨by rw [List.length_map, s.l], fun x hx => ?_, fun x hx => ?_⟩
  · obtain ⟨y, hy, rfl⟩ := List.mem_map.mp hx
    have := s.b y hy
    have := rd_le (v := y) hm.1 hm.2
    omega
  · obtain ⟨y, hy, rfl⟩ := List.mem_map.mp hx
    exact rd_rd hm.1 hm.2
theorem Srt.right {rws fs : List Int} (s : Srt rws fs) : rightI (fs.map (rd (mM rws))) = true := by
  have hm := mM_eq rws
  have hN := nN_eq rws
  have hl := s.l
  rw [right_iff, List.length_map]
  refine ⟨?_, ?_, fun i hi => ?_⟩
  · rw [getD_map (by omega)]
    exact rd_low hm.1 hm.2 (s.b _ (getD_mem (by omega))).1
  · rw [getD_map (by omega)]
    have := rd_le (v := fs.getD (fs.length - 1) 0) hm.1 hm.2
    have := (s.b _ (getD_mem (l := fs) (i := fs.length - 1) (by omega))).2
    omega
  · rw [getD_map (by omega), getD_map (by omega)]
    exact rd_mono hm.1 hm.2 (s.le (by omega) (by omega))
theorem kRow_shs {rws fs : List Int} (hl : fs.length = nN rws) : kRow (kcI rws) (kcI rws).shs fs = fs.map (rd (mM rws)) := by
  have sl := kcI_sl rws
  unfold kRow
  refine ext_getD (by simp [sl, hl]) fun i hi => ?_
  have hi : i < nN rws := by simpa [sl] using hi
  rw [getD_map (by omega), getD_of (x := rd (mM rws) (fs.getD i 0)) ?_]
  rw [List.getElem?_map, List.getElem?_eq_getElem (by omega)]
  simp only [Option.map_some]
  rw [valOf_at (kcI_ok rws).nd2 (List.getElem?_eq_getElem (by omega)) (by omega)]
  rfl
theorem eRow_shs {rws ls row : List Int} (hl : ls.length = nN rws) : eRow (kcI rws) (kcI rws).shs ls row = ls.map (rd (mM rws)) := by
  have sl := kcI_sl rws
  unfold eRow
  rw [kcI_nl]
  refine ext_getD (by simp [hl]) fun i hi => ?_
  have hi : i < nN rws := by simpa using hi
  rw [getD_map (by omega), getD_of (x := rd (mM rws) (ls.getD i 0)) ?_]
  rw [List.getElem?_map, List.getElem?_range hi]
  simp only [Option.map_some]
  have m : (kcI rws).shs[i]? = some ((kcI rws).shs.getD i Str.empty) := getD_str (by omega)
  rw [if_pos (List.mem_of_getElem? m), valOf_at (kcI_ok rws).nd2 m (by omega)]
  rfl
theorem eRow_nil {rws row : List Int} (hl : row.length = nN rws) : eRow (kcI rws) [] [] row = row.map (rd (mM rws)) := by
  unfold eRow
  rw [kcI_nl]
  refine ext_getD (by simp [hl]) fun i hi => ?_
  have hi : i < nN rws := by simpa using hi
  rw [getD_map (by omega), getD_of (x := rd (mM rws) (row.getD i 0)) ?_]
  rw [List.getElem?_map, List.getElem?_range hi]
  simp only [Option.map_some]
  rw [if_neg (by simp)]
  rfl
theorem Rdd.map {rws u : List Int} (r : Rdd rws u) : u.map (rd (mM rws)) = u := by
  conv => rhs; rw [← List.map_id u]
  exact List.map_congr_left fun x hx => r.r x hx
theorem aRow_one {rws row : List Int} {i : Nat} {w : Int} (hl : row.length = nN rws) (hi : i < nN rws) : aRow (kcI rws).nms [(kcI rws).nms.getD i Str.empty] [w] row = row.set i w := by
  have nl := kcI_nl rws
  have := aRow_snoc (nms := (kcI rws).nms) (ks := []) (ws := []) (row := row) (x := (kcI rws).nms.getD i Str.empty) (w := w) (p := i) (by simp) rfl (kcI_ok rws).nd1 (getD_str (by omega))
  rw [List.nil_append, List.nil_append] at this
  rw [this]
  congr 1
  unfold aRow
  refine ext_getD (by simp [nl, hl]) fun j hj => ?_
  have hj : j < nN rws := by simpa [nl] using hj
  rw [getD_of (x := row.getD j 0) ?_]
  rw [List.getElem?_map, List.getElem?_range (by omega)]
  simp
theorem valOf_map {f : Nat → Str} {k : Nat → Int} : ∀ {is : List Nat} {i : Nat}, i ∈ is → (∀ a ∈ is, f a = f i → a = i) → valOf (is.map f) (is.map k) (f i) = k i
  | a :: is, i, m, inj => by
    unfold valOf
    simp only [List.map_cons, List.zip_cons_cons, List.lookup_cons]
    by_cases e : f i = f a
    · have := inj a (.head _) e.symm
      subst this
      simp
    · have ne : (f i == f a) = false := by simpa using e
      rw [ne]
      have m' : i ∈ is := by
        rcases List.mem_cons.mp m with rfl | m
        · exact absurd rfl e
        · exact m
      exact valOf_map m' fun b hb => inj b (.tail _ hb)
def idxF (fl : Nat → Bool) (n : Nat) : List Nat := (List.range n).filter fl
theorem idxF_succ (fl : Nat → Bool) (n : Nat) : idxF fl (n + 1) = idxF fl n ++ (if fl n then [n] else []) := by
  unfold idxF
  rw [List.range_succ, List.filter_append]
  congr 1
  simp only [List.filter_cons, List.filter_nil]
theorem nd_inj {xs : List Str} (nd : xs.Nodup) {a b : Nat} (ha : a < xs.length) (hb : b < xs.length) (e : xs.getD a Str.empty = xs.getD b Str.empty) : a = b := by
  rw [List.getD_eq_getElem?_getD, List.getD_eq_getElem?_getD, List.getElem?_eq_getElem ha, List.getElem?_eq_getElem hb] at e
  exact (List.getElem_inj nd).mp e
theorem idxF_lt {fl : Nat → Bool} {n a : Nat} (h : a ∈ idxF fl n) : a < n ∧ fl a = true := by
  obtain ⟨h1, h2⟩ := List.mem_filter.mp h
  exact ⟨List.mem_range.mp h1, h2⟩
theorem ks_nd {xs : List Str} (nd : xs.Nodup) {fl : Nat → Bool} : ((idxF fl xs.length).map fun i => xs.getD i Str.empty).Nodup := by
  refine List.pairwise_map.mpr ?_
  have h : (idxF fl xs.length).Nodup := (List.nodup_range).sublist List.filter_sublist
  refine List.Pairwise.imp_of_mem (fun ha hb hne e => hne (nd_inj nd (idxF_lt ha).1 (idxF_lt hb).1 e)) h
theorem ks_mem {xs : List Str} (nd : xs.Nodup) {fl : Nat → Bool} {i : Nat} (hi : i < xs.length) : xs.getD i Str.empty ∈ ((idxF fl xs.length).map fun i => xs.getD i Str.empty) ↔ fl i = true := by
  constructor
  · intro m
    obtain ⟨a, ha, e⟩ := List.mem_map.mp m
    have := nd_inj nd (idxF_lt ha).1 hi e
    subst this
    exact (idxF_lt ha).2
  · intro h
    exact List.mem_map.mpr ⟨i, List.mem_filter.mpr ⟨List.mem_range.mpr hi, h⟩, rfl⟩
def laidI (n : Nat) (fl : Nat → Bool) (raw u : List Int) : List Int := (List.range n).map fun i => if fl i then raw.getD i 0 else u.getD i 0
theorem aRow_fl {rws raw u : List Int} {fl : Nat → Bool} : aRow (kcI rws).nms ((idxF fl (kcI rws).nms.length).map fun i => (kcI rws).nms.getD i Str.empty) ((idxF fl (kcI rws).nms.length).map fun i => raw.getD i 0) u = laidI (nN rws) fl raw u := by
  unfold aRow laidI
  rw [kcI_nl]
  refine List.map_congr_left fun i hi => ?_
  have hi := List.mem_range.mp hi
  have nl := kcI_nl rws
  have mm := ks_mem (xs := (kcI rws).nms) (kcI_ok rws).nd1 (fl := fl) (i := i) (by omega)
  rw [nl] at mm
  by_cases h : fl i = true
  · rw [if_pos (mm.mpr h), if_pos h]
    exact valOf_map (f := fun i => (kcI rws).nms.getD i Str.empty) (k := fun i => raw.getD i 0) (List.mem_filter.mpr ⟨List.mem_range.mpr hi, h⟩) fun a ha e => nd_inj (kcI_ok rws).nd1 (by have := (idxF_lt ha).1; omega) (by omega) e
  · rw [if_neg (fun z => h (mm.mp z)), if_neg h]
theorem eRow_fl {rws raw u : List Int} {fl : Nat → Bool} : eRow (kcI rws) ((idxF fl (kcI rws).shs.length).map fun i => (kcI rws).shs.getD i Str.empty) ((idxF fl (kcI rws).shs.length).map fun i => raw.getD i 0) u = (laidI (nN rws) fl raw u).map (rd (mM rws)) := by
  unfold eRow laidI
  rw [kcI_nl, List.map_map]
  refine List.map_congr_left fun i hi => ?_
  have hi := List.mem_range.mp hi
  have sl := kcI_sl rws
  have mm := ks_mem (xs := (kcI rws).shs) (kcI_ok rws).nd2 (fl := fl) (i := i) (by omega)
  rw [sl] at mm
  show rd (mM rws) _ = rd (mM rws) _
  congr 1
  rw [sl]
  show _ = if fl i = true then raw.getD i 0 else u.getD i 0
  by_cases h : fl i = true
  · rw [if_pos (mm.mpr h), if_pos h]
    exact valOf_map (f := fun i => (kcI rws).shs.getD i Str.empty) (k := fun i => raw.getD i 0) (List.mem_filter.mpr ⟨List.mem_range.mpr hi, h⟩) fun a ha e => nd_inj (kcI_ok rws).nd2 (by have := (idxF_lt ha).1; omega) (by omega) e
  · rw [if_neg (fun z => h (mm.mp z)), if_neg h]
end

end
section
set_option maxHeartbeats 4000000
section
variable {C : Cfg} {A : Around} {g h : Heap} {V : Led} {n : Nat} {R : Result → Heap → Prop}
def Il (g : Heap) (l : Addr) (ns : List Int) : Prop := ∃ v, Lst g l v ∧ IntsAre v ns
theorem Il.up {g g' : Heap} {l : Addr} {ns : List Int} (x : Il g l ns) (le : Le g g') : Il g' l ns := let ⟨v, a, b⟩ := x; ⟨v, a.up le, b⟩
structure LcF (P : Params) (g : Heap) (rws : List Int) (rl tv ts sl k fa la ua va : Addr) (fs ls : List Int) : Prop where
  lf : Lf P g rws rl tv ts sl
  kd : Kd P g k tv (kcI rws)
  f : Il g fa fs
  l : Il g la ls
  u : Il g ua (fs.map (rd (mM rws)))
  v : Il g va (ls.map (rd (mM rws)))
theorem LcF.up {P : Params} {g g' : Heap} {rws : List Int} {rl tv ts sl k fa la ua va : Addr} {fs ls : List Int} (x : LcF P g rws rl tv ts sl k fa la ua va fs ls) (le : Le g g') : LcF P g' rws rl tv ts sl k fa la ua va fs ls :=
  ⟨x.lf.up le, x.kd.up le, x.f.up le, x.l.up le, x.u.up le, x.v.up le⟩
abbrev lfC (v0 v2 v4 v5 v6 : Option Value) (rws : List Int) (t1 : Tok) (sl k fa la : Addr) : List (Option Value) := [v0, some (.int (nN rws) t1), v2, some (.ref sl), v4, v5, v6, some (.ref k), some (.ref fa), some (.ref la), none, none, none, none, none, none, none, none, none, none, none, none, none, none, none, none, none, none, none, none]
abbrev celC (ca : Nat → Addr) (rl tv ts ua va : Addr) (rws : List Int) (tm : Tok) (V : Led) : Led := (ca 8, .cell none) :: (ca 7, .cell none) :: (ca 6, .cell none) :: (ca 5, .cell (some (.ref va))) :: (ca 4, .cell (some (.ref ua))) :: (ca 3, .cell (some (.ref ts))) :: (ca 2, .cell (some (.ref tv))) :: (ca 1, .cell (some (.int (mM rws) tm))) :: (ca 0, .cell (some (.ref rl))) :: V
def drawnI (rws : List Int) (k : Int) : List Int := (List.range (nN rws)).map fun (i : Nat) => drawI rws (k + (i : Int)) 25 - 12
theorem srt_of {rws fs : List Int} {k : Int} (p : fs.Perm (drawnI rws k)) (s : fs.Pairwise (· ≤ ·)) : Srt rws fs := by
  refine ⟨by rw [p.length_eq]; unfold drawnI; simp, s, fun x hx => ?_⟩
  obtain ⟨i, _, rfl⟩ := List.mem_map.mp (p.mem_iff.mp hx)
  have := draw_range rws (k + (i : Int)) (m := 25) (by omega)
  omega
theorem segC0 {en : Env} {L rl tv ts sl td : Addr} {ca : Nat → Addr} {v0 v2 v4 v6 : Option Value} {rws : List Int} {t1 tm : Tok} {cas : List Value} (F : Fe en L lawN lwX (lwC ca)) (S : Sb A en L V) (r : Rm A (n + 8)) (Wd : Wld C g)
    (lf : Lf C.w.params g rws rl tv ts sl) (h0 : 0 < rws.length) (h64 : rws.length < 64) (mt2 : (276, .tab deQ) ∈ V) (tj : TabJ C.w.params g rws tv (nN rws) cas)
    (H : Hp C.w.params g ((L, .frm lwX [v0, some (.int (nN rws) t1), v2, some (.ref sl), v4, some (.ref td), v6, none, none, none, none, none, none, none, none, none, none, none, none, none, none, none, none, none, none, none, none, none, none, none]) :: (td, .sd (lawNms.take (nN rws)) cas) :: celB ca rl tv ts rws tm V) h)
    (q : ∀ v5 k fa la fs ls g' h', Le g g' → Lf C.w.params g' rws rl tv ts sl → Kd C.w.params g' k tv (kcI rws) → Il g' fa fs → Il g' la ls → Srt rws fs → Srt rws ls →
      Hp C.w.params g' ((L, .frm lwX (lfC v0 v2 v4 v5 v6 rws t1 sl k fa la)) :: celB ca rl tv ts rws tm V) h' → LB C A en R 11 h') : LB C A en R 8 h := by
  dsimp only [celB] at H
  obtain ⟨eN, n2, n4⟩ := nN_eq rws
  obtain ⟨g1, l1, s1, H1⟩ := H.give
  clear H
  have H := H1
  clear H1
  have s1 : Sd C.w.params g1 td (kcI rws).nms cas := s1
  replace Wd := Wd.up l1
  replace lf := lf.up l1
  replace tj := tj.up l1
  have tb : Tab C.w.params g1 td tv (kcI rws) := ⟨cas, s1, fun j v e => by
    obtain ⟨ca, vk, cv, x, t2, t3, a, b, c, d, e'⟩ := tj.2 j v e
    have hj : j < nN rws := by rw [← tj.1]; exact (List.getElem?_eq_some_iff.mp e).1
    refine ⟨ca, vk, cv, spsI rws j, x, t2, t3, a, b, c, ?_, d, e'⟩
    show ((List.range (nN rws)).map (spsI rws))[j]? = _
    rw [List.getElem?_map, List.getElem?_range hj]; rfl⟩
  refine W_nxt 8 rfl ?_
  k_search "tt"
  refine W_call (mclass_ok (n := n) (kcI_ok rws) H Wd (by k_search "stk") r (by k_search "mt") tb ?_)
  intro k g2 h2 l2 kd H
  replace Wd := Wd.up l2
  replace lf := lf.up l2
  obtain ⟨rv, p1, hi⟩ := lf.r
  k_search "tt"
  refine W_nxt 9 rfl ?_
  k_search "tt"
  refine W_ListComp (cl' := [(Str.ofString "rows", ca 0)]) (cxs := [Str.ofString "i"]) F ⟨rfl, by kernel_rfl, rfl, by kernel_rfl, by kernel_rfl, by decide +kernel⟩ ?_ (fun _ => rfl)
  k_search "tt"
  refine W_range1 H ?_
  intro rg ga h9 la9 Rg9 H
  replace Wd := Wd.up la9
  replace p1 := p1.up la9
  refine W_iter_rangeN (n := nN rws) r.hd Rg9 rfl (by omega) H ?_
  intro it S9 h9 IT H
  refine ⟨_, nN rws, _, _, ga, fun i _ acc => acc.length = i ∧ IntsAre acc ((List.range i).map fun (i : Nat) => drawI rws (6 + (i : Int)) 25 - 12), IT _ _, by omega, H, ⟨rfl, .nil⟩, fun _ _ _ _ _ e => e, ?_, ?_⟩
  · rintro i g' acc Cf D cen cvs v h3 le hi2 ⟨al, ai⟩ ⟨ti, rfl⟩ F H
    obtain ⟨cv, rfl⟩ := one_of H
    replace Wd := Wd.up le
    replace p1 := p1.up le
    dsimp only [List.cons_append] at H
    k_search "tt"
    refine W_call (draw_ok (n := n + 7) H Wd (by k_search "stk") r p1 hi h0 h64 (by omega) (by omega) (by omega) ?_)
    intro t9 h9 H
    k_search "tt"
    refine ⟨g', _, Le.refl g', ⟨by simp [al], ?_⟩, H⟩
    rw [List.range_succ, List.map_append]
    exact ints_snocT ai
  rintro gb D5 acc lb9 ⟨al, ai⟩
  intro h9 H
  replace H := H.swap
  obtain ⟨gc, lc9, s5, H9⟩ := H.give
  clear H
  have H := H9
  clear H9
  have s5 : Lst gc D5 acc := s5
  k_search "tt"
  refine W_sortedI H (s5.up H.le) ai (by simp; omega) ?_
  intro fa fv fs gd h9 ld9 fL fi fp fq H
  replace Wd := Wd.up (lb9.trans (lc9.trans ld9))
  replace p1 := p1.up (lb9.trans (lc9.trans ld9))
  have l50 := la9.trans (lb9.trans (lc9.trans ld9))
  k_search "tt"
  have l50' := l50
  refine W_nxt 10 rfl ?_
  k_search "tt"
  refine W_ListComp (cl' := [(Str.ofString "rows", ca 0)]) (cxs := [Str.ofString "i"]) F ⟨rfl, by kernel_rfl, rfl, by kernel_rfl, by kernel_rfl, by decide +kernel⟩ ?_ (fun _ => rfl)
  k_search "tt"
  refine W_range1 H ?_
  intro rg ga h9 la9 Rg9 H
  replace Wd := Wd.up la9
  replace p1 := p1.up la9
  refine W_iter_rangeN (n := nN rws) r.hd Rg9 rfl (by omega) H ?_
  intro it S9 h9 IT H
  refine ⟨_, nN rws, _, _, ga, fun i _ acc => acc.length = i ∧ IntsAre acc ((List.range i).map fun (i : Nat) => drawI rws (10 + (i : Int)) 25 - 12), IT _ _, by omega, H, ⟨rfl, .nil⟩, fun _ _ _ _ _ e => e, ?_, ?_⟩
  · rintro i g' acc Cf D cen cvs v h3 le hi2 ⟨al, ai⟩ ⟨ti, rfl⟩ F H
    obtain ⟨cv, rfl⟩ := one_of H
    replace Wd := Wd.up le
    replace p1 := p1.up le
    dsimp only [List.cons_append] at H
    k_search "tt"
    refine W_call (draw_ok (n := n + 7) H Wd (by k_search "stk") r p1 hi h0 h64 (by omega) (by omega) (by omega) ?_)
    intro t9 h9 H
    k_search "tt"
    refine ⟨g', _, Le.refl g', ⟨by simp [al], ?_⟩, H⟩
    rw [List.range_succ, List.map_append]
    exact ints_snocT ai
  rintro gb D6 acc lb9 ⟨al, ai⟩
  intro h9 H
  replace H := H.swap
  obtain ⟨gc, lc9, s6, H9⟩ := H.give
  clear H
  have H := H9
  clear H9
  have s6 : Lst gc D6 acc := s6
  k_search "tt"
  refine W_sortedI H (s6.up H.le) ai (by simp; omega) ?_
  intro ea ev es gd h9 ld9 eL ei ep eq H
  replace Wd := Wd.up (lb9.trans (lc9.trans ld9))
  replace p1 := p1.up (lb9.trans (lc9.trans ld9))
  have l60 := la9.trans (lb9.trans (lc9.trans ld9))
  k_search "tt"
  have lf2 := lf.up (l50.trans l60)
  exact q _ k fa ea fs es gd _ (l1.trans (l2.trans (l50.trans l60))) lf2 (kd.up (l50.trans l60)) ⟨fv, fL.up l60, fi⟩ ⟨ev, eL, ei⟩ (srt_of fp fq) (srt_of ep eq) H
end

end
section
set_option maxHeartbeats 4000000
section
variable {C : Cfg} {A : Around} {g h : Heap} {V : Led} {n : Nat} {R : Result → Heap → Prop}
theorem map_take_snoc {l : List Int} {f : Int → Int} {i : Nat} (h : i < l.length) : (l.take (i + 1)).map f = (l.take i).map f ++ [f (l.getD i 0)] := by
  rw [List.take_add_one, List.getD_eq_getElem?_getD, List.getElem?_eq_getElem h, List.map_append]; rfl
theorem ints_get {vs : List Value} {ns : List Int} {i : Nat} {v : Value} (hi : IntsAre vs ns) (e : vs[i]? = some v) : i < ns.length ∧ ∃ t, v = .int (ns.getD i 0) t := by
  have h : i < vs.length := (List.getElem?_eq_some_iff.mp e).1
  have hl : vs.length = ns.length := hi.length
  refine ⟨by omega, ?_⟩
  obtain ⟨t, e2⟩ := ints_at hi (j := i) (by omega)
  rw [e] at e2
  cases e2
  exact ⟨t, rfl⟩
theorem segC1 {en : Env} {L rl tv ts sl k fa la : Addr} {ca : Nat → Addr} {v0 v2 v4 v5 v6 : Option Value} {rws fs ls : List Int} {t1 tm : Tok} (F : Fe en L lawN lwX (lwC ca)) (S : Sb A en L V) (r : Rm A (n + 1)) (Wd : Wld C g)
    (lf : Lf C.w.params g rws rl tv ts sl) (kd : Kd C.w.params g k tv (kcI rws)) (fI : Il g fa fs) (lI : Il g la ls) (sf : Srt rws fs) (sls : Srt rws ls)
    (H : Hp C.w.params g ((L, .frm lwX (lfC v0 v2 v4 v5 v6 rws t1 sl k fa la)) :: celB ca rl tv ts rws tm V) h)
    (q : ∀ ua va g' h', Le g g' → LcF C.w.params g' rws rl tv ts sl k fa la ua va fs ls → Hp C.w.params g' ((L, .frm lwX (lfC v0 v2 v4 v5 v6 rws t1 sl k fa la)) :: celC ca rl tv ts ua va rws tm V) h' → LB C A en R 13 h') : LB C A en R 11 h := by
  dsimp only [celB] at H
  obtain ⟨eN, n2, n4⟩ := nN_eq rws
  have hm := mM_eq rws
  have fsl := sf.l
  have lsl := sls.l
  refine W_nxt 11 rfl ?_
  refine W_Assign ?_ (F.env (P := fun en => swapsWith _ _ _ en = pure false) fun _ _ _ _ _ _ _ _ _ _ _ => by kernel_rfl) rfl rfl
  refine W_ListComp (cl' := [(Str.ofString "m", ca 1)]) (cxs := [Str.ofString "one"]) F ⟨rfl, by kernel_rfl, rfl, by kernel_rfl, by kernel_rfl, by decide +kernel⟩ ?_ (fun _ => rfl)
  k_search "tt"
  obtain ⟨sv1, sL1, sI1⟩ := id fI
  refine W_iter_list r.hd sL1 H ?_
  intro it h9 IT H
  have svl1 : sv1.length = fs.length := sI1.length
  refine ⟨_, sv1.length, _, _, _, fun i _ acc => acc.length = i ∧ IntsAre acc ((fs.take i).map (rd (mM rws))), IT _ _, by omega, H, ⟨rfl, .nil⟩, fun _ _ _ _ _ e => e, ?_, ?_⟩
  · rintro i g' acc Cf D cen cvs v h3 le hi2 ⟨al, ai⟩ hy F H
    obtain ⟨cv, rfl⟩ := one_of H
    obtain ⟨hi3, ti, rfl⟩ := ints_get sI1 hy
    replace Wd := Wd.up le
    dsimp only [List.cons_append] at H
    k_search "tt"
    refine W_mod (by omega) ?_; intro
    k_search "tt"
    refine ⟨g', _, Le.refl g', ⟨by simp [al], ?_⟩, H⟩
    show IntsAre _ ((fs.take (i + 1)).map (rd (mM rws)))
    rw [map_take_snoc hi3]
    exact ints_snocT ai
  rintro gb D1 acc1 lb1 ⟨al, ai1⟩
  rw [svl1, List.take_length] at ai1
  intro h9 H
  replace H := H.swap
  obtain ⟨gc1, lc1, s1, H9⟩ := H.give
  clear H
  have H := H9
  clear H9
  have s1 : Lst gc1 D1 acc1 := s1
  have l1 := lb1.trans lc1
  replace Wd := Wd.up l1
  replace lf := lf.up l1
  replace kd := kd.up l1
  replace fI := fI.up l1
  replace lI := lI.up l1
  k_search "tt"
  k_search "bc"
  k_search "tt"
  refine W_nxt 12 rfl ?_
  refine W_Assign ?_ (F.env (P := fun en => swapsWith _ _ _ en = pure false) fun _ _ _ _ _ _ _ _ _ _ _ => by kernel_rfl) rfl rfl
  refine W_ListComp (cl' := [(Str.ofString "m", ca 1)]) (cxs := [Str.ofString "one"]) F ⟨rfl, by kernel_rfl, rfl, by kernel_rfl, by kernel_rfl, by decide +kernel⟩ ?_ (fun _ => rfl)
  k_search "tt"
  obtain ⟨sv2, sL2, sI2⟩ := id lI
  refine W_iter_list r.hd sL2 H ?_
  intro it h9 IT H
  have svl2 : sv2.length = ls.length := sI2.length
  refine ⟨_, sv2.length, _, _, _, fun i _ acc => acc.length = i ∧ IntsAre acc ((ls.take i).map (rd (mM rws))), IT _ _, by omega, H, ⟨rfl, .nil⟩, fun _ _ _ _ _ e => e, ?_, ?_⟩
  · rintro i g' acc Cf D cen cvs v h3 le hi2 ⟨al, ai⟩ hy F H
    obtain ⟨cv, rfl⟩ := one_of H
    obtain ⟨hi3, ti, rfl⟩ := ints_get sI2 hy
    replace Wd := Wd.up le
    dsimp only [List.cons_append] at H
    k_search "tt"
    refine W_mod (by omega) ?_; intro
    k_search "tt"
    refine ⟨g', _, Le.refl g', ⟨by simp [al], ?_⟩, H⟩
    show IntsAre _ ((ls.take (i + 1)).map (rd (mM rws)))
    rw [map_take_snoc hi3]
    exact ints_snocT ai
  rintro gb D2 acc2 lb2 ⟨al, ai2⟩
  rw [svl2, List.take_length] at ai2
  intro h9 H
  replace H := H.swap
  obtain ⟨gc2, lc2, s2, H9⟩ := H.give
  clear H
  have H := H9
  clear H9
  have s2 : Lst gc2 D2 acc2 := s2
  have l2 := lb2.trans lc2
  replace Wd := Wd.up l2
  replace lf := lf.up l2
  replace kd := kd.up l2
  replace fI := fI.up l2
  replace lI := lI.up l2
  k_search "tt"
  k_search "bc"
  k_search "tt"
  exact q D1 D2 gc2 _ (l1.trans l2) ⟨lf, kd, fI, lI, ⟨_, s1.up l2, ai1⟩, ⟨_, s2, ai2⟩⟩ H
end

end
section
set_option maxHeartbeats 4000000
section
variable {C : Cfg} {A : Around} {g h : Heap} {V : Led} {n : Nat} {R : Result → Heap → Prop}
abbrev lfD (v0 v2 v4 v5 v6 : Option Value) (rws : List Int) (t1 : Tok) (sl k fa la x a1 : Addr) (w12 w13 w14 w15 w16 w17 w18 w19 w20 w21 w22 w23 w24 w25 w26 w27 w28 w29 : Option Value) : List (Option Value) := [v0, some (.int (nN rws) t1), v2, some (.ref sl), v4, v5, v6, some (.ref k), some (.ref fa), some (.ref la), some (.ref x), some (.ref a1), w12, w13, w14, w15, w16, w17, w18, w19, w20, w21, w22, w23, w24, w25, w26, w27, w28, w29]
theorem sub_shs {rws : List Int} {vs : List Value} {ns : List Int} (hi : IntsAre vs ns) (hl : ns.length = nN rws) (hb : ∀ x ∈ ns, -12 ≤ x ∧ x ≤ 12) : ∀ w ∈ ns, w.natAbs < 900 := fun w hw => by have := hb w hw; omega
theorem Kd.kpr {k tv : Addr} {c : Kc} (x : Kd C.w.params g k tv c) (le : Le g h) : Kpr C (.ref k) h := by
  obtain ⟨_, _, _, _, _, _, ⟨dx, e, _⟩, _⟩ := x
  exact Kpr.inst (le _ _ e) rfl
theorem holdsW {rws row : List Int} {rl tv ts sl z k ra : Addr} {E : Value → Heap → Prop} {Q : Value → Heap → Prop} (H : Hp C.w.params g V h) (Wd : Wld C g) (S : Stk A V) (r : Rm A (n + 1)) (lf : Lf C.w.params g rws rl tv ts sl) (pz : Th C.w.params g z (.ref k) (kcI rws).nms row) (p2 : Il g ra row) (hl : row.length = nN rws) (hb : ∀ w ∈ row, w.natAbs < 50)
    (q : ∀ g' h', Le g g' → Hp C.w.params g' V h' → Q (.bool true) h') : W C A (call (.ref 591) [.ref z, .ref k, .ref tv, .ref ra]) Q E h := by
  obtain ⟨nv, nT, nS⟩ := lf.t
  obtain ⟨rv, rL, rI⟩ := p2
  refine W_call (holds_ok (n := n) (kcI_ok rws) (kcI_so rws) H Wd S r pz nT nS rL rI (by rw [hl, kcI_nl]) (fun w hw => by have := hb w hw; omega) (fun w hw => by have := hb w hw; omega) ?_)
  intro g' h' l H
  rw [decide_eq_true rfl]
  exact q g' h' l H
theorem segC2 {en : Env} {L rl tv ts sl k fa la ua va : Addr} {ca : Nat → Addr} {v0 v2 v4 v5 v6 : Option Value} {rws fs ls : List Int} {t1 tm : Tok} (F : Fe en L lawN lwX (lwC ca)) (S : Sb A en L V) (r : Rm A (n + 8)) (Wd : Wld C g)
    (lc : LcF C.w.params g rws rl tv ts sl k fa la ua va fs ls) (sf : Srt rws fs) (sls : Srt rws ls)
    (H : Hp C.w.params g ((L, .frm lwX (lfC v0 v2 v4 v5 v6 rws t1 sl k fa la)) :: celC ca rl tv ts ua va rws tm V) h)
    (q : ∀ x a1 g' h', Le g g' → LcF C.w.params g' rws rl tv ts sl k fa la ua va fs ls → Th C.w.params g' x (.ref k) (kcI rws).nms (fs.map (rd (mM rws))) → Th C.w.params g' a1 (.ref k) (kcI rws).nms (ls.map (rd (mM rws))) →
      Hp C.w.params g' ((L, .frm lwX (lfD v0 v2 v4 v5 v6 rws t1 sl k fa la x a1 none none none none none none none none none none none none none none none none none none)) :: celC ca rl tv ts ua va rws tm V) h' → LB C A en R 16 h') : LB C A en R 13 h := by
  dsimp only [celC] at H
  obtain ⟨eN, n2, n4⟩ := nN_eq rws
  have hm := mM_eq rws
  have fsl := sf.l
  have lsl := sls.l
  have kl := kcI_sl rws
  have ok := kcI_ok rws
  have b900 : ∀ w ∈ fs, w.natAbs < 900 := fun w hw => by have := sf.b w hw; omega
  have c900 : ∀ w ∈ ls, w.natAbs < 900 := fun w hw => by have := sls.b w hw; omega
  have nself : Str.ofString "self" ∉ (kcI rws).shs := fun m => law_self.1 (List.mem_of_mem_take m)
  refine W_nxt 13 rfl ?_
  k_search "tt"
  refine W_newList H (by simp) ?_
  intro D0 h1 H
  replace H := H.swap
  obtain ⟨g1, l0, s0, H9⟩ := H.give
  clear H
  have H := H9
  clear H9
  have s0 : Lst g1 D0 [] := s0
  replace Wd := Wd.up l0
  replace lc := lc.up l0
  k_search "tt"
  refine W_DictComp (g0 := g1) (cl' := []) (cxs := [Str.ofString "name", Str.ofString "one"]) (fun h le => Wd.ne1 le) F ⟨rfl, by kernel_rfl, rfl, by kernel_rfl, by kernel_rfl, by decide +kernel⟩ ?_ (fun _ => rfl)
  k_search "tt"
  obtain ⟨sv1, sT1, sS1⟩ := lc.lf.s
  obtain ⟨iv1, iL1, iI1⟩ := lc.f
  have svl1 : sv1.length = nN rws := by rw [sS1.1]; exact kl
  have ivl1 : iv1.length = nN rws := by rw [iI1.length]; omega
  refine W_zip_tl sT1 iL1 H ?_
  intro z9 S9 h9 ZT H
  refine (ZT A [] 0 default r.hd).self (Le.refl g1) H ?_
  refine ⟨_, min sv1.length iv1.length, _, _, g1, fun i _ ks ys => ks = (kcI rws).shs.take i ∧ IntsAre ys (fs.take i), Le.refl _, ZT A _ _ _ r.hd, by omega, H, ⟨rfl, .nil⟩, fun _ _ _ _ _ _ e => e, ?_, ?_⟩
  · rintro i g' ks ys Cf D cen cvs v h3 le hi ⟨rfl, ai⟩ ⟨ta, x, y, rfl, hx, hy, tp⟩ F H
    obtain ⟨cv1, cv2, rfl⟩ := two_of H
    dsimp only [List.cons_append] at H
    have hi3 : i < (kcI rws).shs.length := by omega
    obtain ⟨tx, ex⟩ := sS1.2 i _ (getD_str hi3)
    rw [hx] at ex
    cases ex
    obtain ⟨hi4, ty, rfl⟩ := ints_get iI1 hy
    refine W_asT r.hd H tp rfl rfl ?_
    intro h6 H
    k_search "tt"
    have tk : (kcI rws).shs.take (i + 1) = (kcI rws).shs.take i ++ [(kcI rws).shs.getD i Str.empty] := by rw [List.take_add_one, getD_str hi3]; rfl
    have nk : (kcI rws).shs.getD i Str.empty ∉ (kcI rws).shs.take i := by
      have := (ok.nd2.sublist (List.take_sublist (i + 1) _))
      rw [tk] at this
      exact fun m => (List.nodup_append.mp this).2.2 _ m _ (by simp) rfl
    refine ⟨_, tx, _, _, g', _, rfl, .new nk, Le.refl _, ⟨tk.symm, ?_⟩, H⟩
    rw [List.take_add_one, show fs[i]? = some (fs.getD i 0) from by rw [List.getD_eq_getElem?_getD, List.getElem?_eq_getElem hi4]; rfl]
    exact ints_snocT ai
  rintro gb D1 ks ys1 lb1 ⟨rfl, ai1⟩
  intro h9 H
  rw [show min sv1.length iv1.length = nN rws from by omega] at ai1 H
  rw [List.take_of_length_le (by omega)] at ai1 H
  replace H := H.swap
  obtain ⟨gc1, lc1, d1, H9⟩ := H.give
  clear H
  have H := H9
  clear H9
  have d1 : Sd C.w.params gc1 D1 (kcI rws).shs ys1 := d1
  have l1 := lb1.trans lc1
  replace Wd := Wd.up l1
  replace lc := lc.up l1
  k_search "tt"
  have pr1 : passes (kcI rws) (kRow (kcI rws) (kcI rws).shs fs) = true := by rw [kRow_shs fsl, passes_right (by simp [fsl])]; exact sf.right
  refine W_call (called_ok (n := n + 4) (P := fun g' v => ∃ z, v = .ref z ∧ Th C.w.params g' z (.ref k) (kcI rws).nms (fs.map (rd (mM rws)))) (B := fun _ => False) H Wd (by k_search "stk") (r.le (by omega)) (.inl (s0.up l1)) d1 ok.nd2 (by omega) (by simp) ?_ ?_ ?_ ?_)
  · exact fun h' le => lc.kd.kpr le
  · intro A' p h' H' S' r'
    obtain ⟨nv, nT, nS⟩ := lc.lf.t
    refine kcall_ok (n := n) ok H' Wd S' r' lc.kd nT nS ai1 (by rw [d1.len (C := C)]) ok.nd2 (by omega) (fun x hx => (ok.s2 x hx).1) b900 (fun _ s m => m) nself ?_ ?_ ?_
    · intro _ _ z g' h'' l t H''
      rw [kRow_shs fsl] at t
      exact ⟨g', l, ⟨z, rfl, t⟩, H''⟩
    · intro _ e
      rw [pr1] at e
      cases e
    · rintro ⟨x, hx, hx2⟩
      exact absurd hx hx2
  · rintro _ g3 h3 l3 ⟨x, rfl, thx⟩ H
    replace Wd := Wd.up l3
    replace lc := lc.up l3
    k_search "tt"
    refine W_nxt 14 rfl ?_
    k_search "tt"
    refine W_DictComp (g0 := g3) (cl' := []) (cxs := [Str.ofString "name", Str.ofString "one"]) (fun h le => Wd.ne1 le) F ⟨rfl, by kernel_rfl, rfl, by kernel_rfl, by kernel_rfl, by decide +kernel⟩ ?_ (fun _ => rfl)
    k_search "tt"
    obtain ⟨sv3, sT3, sS3⟩ := lc.lf.s
    obtain ⟨iv3, iL3, iI3⟩ := lc.l
    have svl3 : sv3.length = nN rws := by rw [sS3.1]; exact kl
    have ivl3 : iv3.length = nN rws := by rw [iI3.length]; omega
    refine W_zip_tl sT3 iL3 H ?_
    intro z9 S9 h9 ZT H
    refine (ZT A [] 0 default r.hd).self (Le.refl g3) H ?_
    refine ⟨_, min sv3.length iv3.length, _, _, g3, fun i _ ks ys => ks = (kcI rws).shs.take i ∧ IntsAre ys (ls.take i), Le.refl _, ZT A _ _ _ r.hd, by omega, H, ⟨rfl, .nil⟩, fun _ _ _ _ _ _ e => e, ?_, ?_⟩
    · rintro i g' ks ys Cf D cen cvs v h3 le hi ⟨rfl, ai⟩ ⟨ta, x, y, rfl, hx, hy, tp⟩ F H
      obtain ⟨cv1, cv2, rfl⟩ := two_of H
      dsimp only [List.cons_append] at H
      have hi3 : i < (kcI rws).shs.length := by omega
      obtain ⟨tx, ex⟩ := sS3.2 i _ (getD_str hi3)
      rw [hx] at ex
      cases ex
      obtain ⟨hi4, ty, rfl⟩ := ints_get iI3 hy
      refine W_asT r.hd H tp rfl rfl ?_
      intro h6 H
      k_search "tt"
      have tk : (kcI rws).shs.take (i + 1) = (kcI rws).shs.take i ++ [(kcI rws).shs.getD i Str.empty] := by rw [List.take_add_one, getD_str hi3]; rfl
      have nk : (kcI rws).shs.getD i Str.empty ∉ (kcI rws).shs.take i := by
        have := (ok.nd2.sublist (List.take_sublist (i + 1) _))
        rw [tk] at this
        exact fun m => (List.nodup_append.mp this).2.2 _ m _ (by simp) rfl
      refine ⟨_, tx, _, _, g', _, rfl, .new nk, Le.refl _, ⟨tk.symm, ?_⟩, H⟩
      rw [List.take_add_one, show ls[i]? = some (ls.getD i 0) from by rw [List.getD_eq_getElem?_getD, List.getElem?_eq_getElem hi4]; rfl]
      exact ints_snocT ai
    rintro gb D3 ks ys3 lb3 ⟨rfl, ai3⟩
    intro h9 H
    rw [show min sv3.length iv3.length = nN rws from by omega] at ai3 H
    rw [List.take_of_length_le (by omega)] at ai3 H
    replace H := H.swap
    obtain ⟨gc3, lc3, d3, H9⟩ := H.give
    clear H
    have H := H9
    clear H9
    have d3 : Sd C.w.params gc3 D3 (kcI rws).shs ys3 := d3
    have l3x := lb3.trans lc3
    replace Wd := Wd.up l3x
    replace lc := lc.up l3x
    replace thx := thx.up l3x
    k_search "tt"
    obtain ⟨nv, nT, nS⟩ := lc.lf.t
    have pr2 : passes (kcI rws) (eRow (kcI rws) (kcI rws).shs ls (fs.map (rd (mM rws)))) = true := by rw [eRow_shs lsl, passes_right (by simp [lsl])]; exact sls.right
    refine W_call (changed_ok (n := n + 1) ok H Wd (by k_search "stk") r lc.kd nT nS thx d3 ai3 ok.nd2 (by omega) (fun x hx => hx) c900 (fun w hw => by have := sf.rdd.b w hw; omega) nself ?_ ?_)
    · intro _ a1 g5 h5 l5 tha H
      rw [eRow_shs lsl] at tha
      replace Wd := Wd.up l5
      replace lc := lc.up l5
      replace thx := thx.up l5
      k_search "tt"
      refine W_nxt 15 rfl ?_
      k_search "tt"
      refine holdsW (n := n + 7) H Wd (by k_search "stk") r lc.lf thx lc.u sf.rdd.l sf.rdd.b ?_
      intro g6 h6 l6 H
      replace Wd := Wd.up l6
      replace lc := lc.up l6
      replace thx := thx.up l6
      replace tha := tha.up l6
      k_search "tt"
      refine holdsW (n := n + 7) H Wd (by k_search "stk") r lc.lf tha lc.v sls.rdd.l sls.rdd.b ?_
      intro g7 h7 l7 H
      replace lc := lc.up l7
      replace thx := thx.up l7
      replace tha := tha.up l7
      k_search "tt"
      exact q x a1 g7 _ (l0.trans (l1.trans (l3.trans (l3x.trans (l5.trans (l6.trans l7)))))) lc thx tha H
    · intro e
      rw [pr2] at e
      cases e
  · rintro _ _ _ _ _ ⟨⟩
end

end
section
set_option maxHeartbeats 4000000
section
variable {C : Cfg} {A : Around} {g h : Heap} {V : Led} {n : Nat} {R : Result → Heap → Prop}
theorem Stp.kpr {f : Addr} (x : Stp C.w.params g f) (le : Le g h) : Kpr C (.ref f) h := by
  obtain ⟨c, t, ⟨_, _, _, _, _, _, _, _, _, _, _, _, _, fo⟩, _⟩ := x
  exact fo.kpr le
theorem eqW {rws row1 row2 : List Int} {tv z1 z2 k : Addr} {E : Value → Heap → Prop} {Q : Value → Heap → Prop} (H : Hp C.w.params g V h) (Wd : Wld C g) (S : Stk A V) (r : Rm A (n + 2)) (kd : Kd C.w.params g k tv (kcI rws)) (p1 : Th C.w.params g z1 (.ref k) (kcI rws).nms row1) (p2 : Th C.w.params g z2 (.ref k) (kcI rws).nms row2)
    (q : ∀ g' h', Le g g' → Hp C.w.params g' V h' → Q (.bool (decide (row1 = row2))) h') : W C A (compareOp .Eq (.ref z1) (.ref z2)) Q E h := by
  obtain ⟨d1, w1, I1, _⟩ := id p1
  obtain ⟨d2, w2, I2, _⟩ := id p2
  refine W_eqInst (by have := r.u; unfold cLine; omega) (Wd.K.keeps H.le) (I1.up H.le) (I2.up H.le) ?_
  refine W_call (eqm_ok (n := n) (kcI_ok rws) H Wd S r kd p1 p2 ?_)
  intro g' h' l H
  exact ⟨_, rfl, q g' h' l H⟩
def rises (us vs : List Int) (i : Nat) : Bool := decide (us.getD i 0 < vs.getD i 0)
def rsI (n : Nat) (us vs : List Int) (k : Nat) : List Nat := ((List.range k).map fun j => n - 1 - j).filter (rises us vs)
def otI (us vs : List Int) (k : Nat) : List Nat := (List.range k).filter fun i => decide (vs.getD i 0 ≤ us.getD i 0)
def ordI (n : Nat) (us vs : List Int) : List Nat := rsI n us vs n ++ otI us vs n
def mixI (n : Nat) (us vs : List Int) (done : List Nat) : List Int := (List.range n).map fun i => if i ∈ done then vs.getD i 0 else us.getD i 0
theorem rsI_succ {n : Nat} {us vs : List Int} {k : Nat} : rsI n us vs (k + 1) = rsI n us vs k ++ (if rises us vs (n - 1 - k) then [n - 1 - k] else []) := by
  unfold rsI
  rw [List.range_succ, List.map_append, List.filter_append]
  congr 1
  simp only [List.map_cons, List.map_nil, List.filter_cons, List.filter_nil]
theorem otI_succ {us vs : List Int} {k : Nat} : otI us vs (k + 1) = otI us vs k ++ (if decide (vs.getD k 0 ≤ us.getD k 0) then [k] else []) := by
  unfold otI
  rw [List.range_succ, List.filter_append]
  congr 1
  simp only [List.filter_cons, List.filter_nil]
theorem mem_rsI {n : Nat} {us vs : List Int} {i : Nat} : i ∈ rsI n us vs n ↔ i < n ∧ us.getD i 0 < vs.getD i 0 := by
  unfold rsI rises
  rw [List.mem_filter, List.mem_map]
  constructor
  · rintro ⟨⟨j, hj, rfl⟩, h⟩
    have := List.mem_range.mp hj
    exact ⟨by omega, of_decide_eq_true h⟩
  · rintro ⟨h1, h2⟩
    exact ⟨⟨n - 1 - i, List.mem_range.mpr (by omega), by omega⟩, decide_eq_true h2⟩
theorem mem_otI {n : Nat} {us vs : List Int} {i : Nat} : i ∈ otI us vs n ↔ i < n ∧ vs.getD i 0 ≤ us.getD i 0 := by
  unfold otI
  rw [List.mem_filter, List.mem_range]
  simp
theorem mem_ordI {n : Nat} {us vs : List Int} {i : Nat} : i ∈ ordI n us vs ↔ i < n := by
  unfold ordI
  rw [List.mem_append, mem_rsI, mem_otI]
  omega
def Bef (us vs : List Int) (a b : Nat) : Prop := (us.getD a 0 < vs.getD a 0 ∧ us.getD b 0 < vs.getD b 0 ∧ b < a) ∨ (us.getD a 0 < vs.getD a 0 ∧ vs.getD b 0 ≤ us.getD b 0) ∨ (vs.getD a 0 ≤ us.getD a 0 ∧ vs.getD b 0 ≤ us.getD b 0 ∧ a < b)
theorem ordI_pw {n : Nat} {us vs : List Int} : (ordI n us vs).Pairwise (Bef us vs) := by
  unfold ordI
  rw [List.pairwise_append]
  refine ⟨?_, ?_, fun a ha b hb => .inr (.inl ⟨(mem_rsI.mp ha).2, (mem_otI.mp hb).2⟩)⟩
  · have h : (rsI n us vs n).Pairwise (fun a b => b < a) := by
      unfold rsI
      refine List.Pairwise.filter _ (List.pairwise_map.mpr ?_)
      refine List.Pairwise.imp_of_mem (fun {a b} ha hb hab => ?_) (List.pairwise_lt_range (n := n))
      have := List.mem_range.mp ha
      have := List.mem_range.mp hb
      omega
    exact List.Pairwise.imp_of_mem (fun ha hb hab => .inl ⟨(mem_rsI.mp ha).2, (mem_rsI.mp hb).2, hab⟩) h
  · have h : (otI us vs n).Pairwise (fun a b => a < b) := by
      unfold otI
      exact List.Pairwise.filter _ List.pairwise_lt_range
    exact List.Pairwise.imp_of_mem (fun ha hb hab => .inr (.inr ⟨(mem_otI.mp ha).2, (mem_otI.mp hb).2, hab⟩)) h
theorem mixI_len {n : Nat} {us vs : List Int} {d : List Nat} : (mixI n us vs d).length = n := by simp [mixI]
theorem mixI_at {n : Nat} {us vs : List Int} {d : List Nat} {i : Nat} (h : i < n) : (mixI n us vs d).getD i 0 = if i ∈ d then vs.getD i 0 else us.getD i 0 := by
  unfold mixI
  rw [getD_of (x := if i ∈ d then vs.getD i 0 else us.getD i 0)]
  rw [List.getElem?_map, List.getElem?_range h]; rfl
theorem mixI_snoc {n : Nat} {us vs : List Int} {d : List Nat} {i : Nat} : mixI n us vs (d ++ [i]) = (mixI n us vs d).set i (vs.getD i 0) := by
  refine ext_getD (by simp [mixI]) fun j hj => ?_
  have hj : j < n := by simpa [mixI] using hj
  rw [mixI_at hj]
  by_cases e : i = j
  · subst e
    rw [if_pos (by simp)]
    exact (getD_of (List.getElem?_set_self (by rw [mixI_len]; exact hj))).symm
  · have e2 : ((mixI n us vs d).set i (vs.getD i 0)).getD j 0 = (mixI n us vs d).getD j 0 := by
      simp only [List.getD_eq_getElem?_getD, List.getElem?_set_ne e]
    rw [e2, mixI_at hj]
    simp [show ¬ j = i from fun z => e z.symm]
theorem mixI_all {n : Nat} {us vs : List Int} (h : vs.length = n) : mixI n us vs (ordI n us vs) = vs := by
  refine ext_getD (by simp [mixI, h]) fun j hj => ?_
  have hj : j < n := by simpa [mixI] using hj
  rw [mixI_at hj, if_pos (mem_ordI.mpr hj)]
theorem mixI_nil {n : Nat} {us vs : List Int} (h : us.length = n) : mixI n us vs [] = us := by
  refine ext_getD (by simp [mixI, h]) fun j hj => ?_
  have hj : j < n := by simpa [mixI] using hj
  rw [mixI_at hj, if_neg (by simp)]
theorem ord_good {rws fs ls : List Int} (sf : Srt rws fs) (sls : Srt rws ls) {j i : Nat} (hj : (ordI (nN rws) (fs.map (rd (mM rws))) (ls.map (rd (mM rws))))[j]? = some i) :
    ¬ Bad rws (mixI (nN rws) (fs.map (rd (mM rws))) (ls.map (rd (mM rws))) ((ordI (nN rws) (fs.map (rd (mM rws))) (ls.map (rd (mM rws)))).take j)) i ((ls.map (rd (mM rws))).getD i 0) := by
  have hm := mM_eq rws
  have fl := sf.l
  have ll := sls.l
  generalize hO : ordI (nN rws) (fs.map (rd (mM rws))) (ls.map (rd (mM rws))) = O at hj ⊢
  have hi : i < nN rws := by
    have := List.mem_of_getElem? hj
    rw [← hO] at this
    exact mem_ordI.mp this
  have hjl : j < O.length := (List.getElem?_eq_some_iff.mp hj).1
  have ue : ∀ a, a < nN rws → (fs.map (rd (mM rws))).getD a 0 = rd (mM rws) (fs.getD a 0) := fun a ha => getD_map (by omega)
  have ve : ∀ a, a < nN rws → (ls.map (rd (mM rws))).getD a 0 = rd (mM rws) (ls.getD a 0) := fun a ha => getD_map (by omega)
  have um : ∀ a b, a ≤ b → b < nN rws → (fs.map (rd (mM rws))).getD a 0 ≤ (fs.map (rd (mM rws))).getD b 0 := fun a b h hb => by rw [ue a (by omega), ue b hb]; exact rd_mono hm.1 hm.2 (sf.le h hb)
  have vm : ∀ a b, a ≤ b → b < nN rws → (ls.map (rd (mM rws))).getD a 0 ≤ (ls.map (rd (mM rws))).getD b 0 := fun a b h hb => by rw [ve a (by omega), ve b hb]; exact rd_mono hm.1 hm.2 (sls.le h hb)
  have rt := right_iff.mp sls.right
  rw [List.length_map] at rt
  have later : ∀ q, q < nN rws → q ≠ i → q ∉ O.take j → Bef (fs.map (rd (mM rws))) (ls.map (rd (mM rws))) i q := fun q hq hne hn => by
    have hm : q ∈ O := by rw [← hO]; exact mem_ordI.mpr hq
    obtain ⟨p, hp, e⟩ := List.getElem_of_mem hm
    have pw := ordI_pw (n := nN rws) (us := fs.map (rd (mM rws))) (vs := ls.map (rd (mM rws)))
    rw [hO] at pw
    have e2 : O[j] = i := by rw [List.getElem?_eq_getElem hjl] at hj; exact Option.some.inj hj
    have hjp : j < p := by
      rcases Nat.lt_trichotomy p j with h | h | h
      · exact absurd (List.mem_iff_getElem?.mpr ⟨p, by rw [List.getElem?_take, if_pos h, List.getElem?_eq_getElem hp, e]⟩) hn
      · subst h; exact absurd (e.symm.trans e2) hne
      · exact h
    have := List.pairwise_iff_getElem.mp pw j p hjl hp hjp
    rw [e, e2] at this
    exact this
  rintro (⟨h1, _, h3⟩ | ⟨h1, _, h3⟩ | ⟨h1, h2⟩ | ⟨h1, h2⟩)
  · rw [mixI_at (by omega)] at h3
    have a := vm (i - 1) i (by omega) hi
    have b := um (i - 1) i (by omega) hi
    split at h3
    · omega
    · rename_i hn
      have := later (i - 1) (by omega) (by omega) hn
      unfold Bef at this
      omega
  · rw [mixI_at (by omega)] at h3
    have a := vm i (i + 1) (by omega) h1
    have b := um i (i + 1) (by omega) h1
    split at h3
    · omega
    · rename_i hn
      have := later (i + 1) (by omega) (by omega) hn
      unfold Bef at this
      omega
  · subst h1; omega
  · have e : ls.length - 1 = i := by omega
    rw [e] at rt
    omega
end

end
section
set_option maxHeartbeats 4000000
section
variable {C : Cfg} {A : Around} {g h : Heap} {V : Led} {n : Nat} {R : Result → Heap → Prop}
structure Ps (P : Params) (g : Heap) (rws : List Int) (tv pa st : Addr) : Prop where
  p : ∃ fv, Tp g pa fv ∧ Fls P g tv (kcI rws) fv
  s : Stp P g st
theorem Ps.up {P : Params} {g g' : Heap} {rws : List Int} {tv pa st : Addr} (x : Ps P g rws tv pa st) (le : Le g g') : Ps P g' rws tv pa st := ⟨let ⟨v, a, b⟩ := x.p; ⟨v, a.up le, b.up le⟩, x.s.up le⟩
def nInts (is : List Nat) : List Int := is.map fun (i : Nat) => (i : Int)
theorem nInts_app {a b : List Nat} : nInts (a ++ b) = nInts a ++ nInts b := List.map_append
theorem segD0 {en : Env} {L rl tv ts sl k fa la ua va x a1 : Addr} {ca : Nat → Addr} {v0 v2 v4 v5 v6 : Option Value} {rws fs ls : List Int} {t1 tm : Tok} (F : Fe en L lawN lwX (lwC ca)) (S : Sb A en L V) (r : Rm A (n + 2)) (Wd : Wld C g) (mt : (497, .tab ppQ) ∈ V)
    (lc : LcF C.w.params g rws rl tv ts sl k fa la ua va fs ls) (thx : Th C.w.params g x (.ref k) (kcI rws).nms (fs.map (rd (mM rws)))) (tha : Th C.w.params g a1 (.ref k) (kcI rws).nms (ls.map (rd (mM rws)))) (sf : Srt rws fs) (sls : Srt rws ls)
    (H : Hp C.w.params g ((L, .frm lwX (lfD v0 v2 v4 v5 v6 rws t1 sl k fa la x a1 none none none none none none none none none none none none none none none none none none)) :: celC ca rl tv ts ua va rws tm V) h)
    (q : ∀ pa st da db g' h', Le g g' → LcF C.w.params g' rws rl tv ts sl k fa la ua va fs ls → Th C.w.params g' x (.ref k) (kcI rws).nms (fs.map (rd (mM rws))) → Th C.w.params g' a1 (.ref k) (kcI rws).nms (ls.map (rd (mM rws))) → Ps C.w.params g' rws tv pa st →
      Il g' da (nInts (rsI (nN rws) (fs.map (rd (mM rws))) (ls.map (rd (mM rws))) (nN rws))) → Il g' db (nInts (otI (fs.map (rd (mM rws))) (ls.map (rd (mM rws))) (nN rws))) →
      Hp C.w.params g' ((L, .frm lwX (lfD v0 v2 v4 v5 v6 rws t1 sl k fa la x a1 (some (.ref pa)) (some (.ref st)) (some (.ref da)) (some (.ref db)) (some (.ref x)) none none none none none none none none none none none none none)) :: celC ca rl tv ts ua va rws tm V) h' → LB C A en R 21 h') : LB C A en R 16 h := by
  dsimp only [celC, lfD] at H
  obtain ⟨eN, n2, n4⟩ := nN_eq rws
  have hm := mM_eq rws
  obtain ⟨t0, at_, ea, oa, fv, mro, kI, T1, _, _, fl⟩ := id lc.kd
  refine W_nxt 16 rfl ?_
  k_search "tt"
  refine W_call (fieldsK_ok (n := n + 1) H Wd (by k_search "stk") r kI rfl ?_)
  intro h1 H
  k_search "tt"
  refine W_nxt 17 rfl ?_
  k_search "tt"
  refine W_call (pipe_ok (n := n + 1) H Wd (by k_search "stk") r (by k_search "mt") ?_)
  intro st g1 h2 l1 stp H
  have ps : Ps C.w.params g1 rws tv at_ st := ⟨⟨fv, T1.up l1, fl.up l1⟩, stp⟩
  replace Wd := Wd.up l1
  replace lc := lc.up l1
  k_search "tt"
  obtain ⟨uv, uL, uI⟩ := id lc.u
  obtain ⟨vv, vL, vI⟩ := id lc.v
  have ul : (fs.map (rd (mM rws))).length = nN rws := sf.rdd.l
  have vl : (ls.map (rd (mM rws))).length = nN rws := sls.rdd.l
  generalize hus : fs.map (rd (mM rws)) = us at *
  generalize hvs : ls.map (rd (mM rws)) = vs at *
  have uvl : uv.length = nN rws := by rw [uI.length]; exact ul
  have vvl : vv.length = nN rws := by rw [vI.length]; exact vl
  refine W_nxt 18 rfl ?_
  refine W_AssignLC (cl' := [(Str.ofString "v", ca 5), (Str.ofString "u", ca 4)]) (cxs := [Str.ofString "i"]) F ⟨rfl, by kernel_rfl, rfl, by kernel_rfl, by kernel_rfl, by decide +kernel⟩ (F.env (P := fun en => swapsWith _ _ _ en = pure true) fun _ _ _ _ _ _ _ _ _ _ _ => by kernel_rfl) ?_ (fun _ => rfl)
  k_search "tt"
  refine W_neg ?_; intro
  k_search "tt"
  refine W_neg ?_; intro
  k_search "tt"
  refine W_range3 (by decide) (by omega) (by decide) H ?_
  intro rg ga2 h9 la2 Rg9 H
  refine W_iter_range (n := nN rws) r.hd Rg9 (small_down (by omega) (by omega) (by omega) (by omega)) (by rw [rangeSize_downNat]; omega) H ?_
  intro it h9 IT H
  refine ⟨_, _, nN rws, _, _, ga2, fun i _ acc => acc.length ≤ i ∧ IntsAre acc (nInts (rsI (nN rws) us vs i)), IT _ _, by omega, H, ⟨Nat.le_refl _, .nil⟩, fun _ _ _ _ _ e => e, ?_, ?_⟩
  · rintro i g' acc Cf D cen cvs v h3 le hi2 ⟨al, ai⟩ ⟨ti, rfl⟩ F H
    obtain ⟨cv, rfl⟩ := one_of H
    replace Wd := (Wd.up la2).up le
    have uL9 := (uL.up la2).up le
    have vL9 := (vL.up la2).up le
    dsimp only [List.cons_append] at H
    have ei : ((nN rws : Int) - 1 + (i : Int) * -1) = ((nN rws - 1 - i : Nat) : Int) := by omega
    rw [ei]
    k_search "tt"
    obtain ⟨tv9, ev⟩ := ints_at vI (j := nN rws - 1 - i) (by omega)
    refine W_sub_listN (j := nN rws - 1 - i) (vL9.up H.le) rfl ev (by omega) ?_
    k_search "tt"
    obtain ⟨tu9, eu⟩ := ints_at uI (j := nN rws - 1 - i) (by omega)
    refine W_sub_listN (j := nN rws - 1 - i) (uL9.up H.le) rfl eu (by omega) ?_
    k_search "tt"
    refine Ite_b (fun e => ?_) (fun e => ?_)
    · k_search "tt"
      refine ⟨g', _, Le.refl g', ⟨by simp; omega, ?_⟩, H⟩
      rw [rsI_succ]
      unfold rises
      rw [if_pos e, nInts_app]
      exact ints_snocT ai
    · refine ⟨g', _, Le.refl g', ⟨by omega, ?_⟩, H⟩
      rw [rsI_succ]
      unfold rises
      rw [if_neg (by rw [e]; decide), List.append_nil]
      exact ai
  rintro gb D2 acc2 lb2 ⟨al2, ai2⟩
  refine ⟨_, by k_search "st", ?_⟩
  intro h9 H
  obtain ⟨gc2, lc2, s2, H9⟩ := H.give
  clear H
  have H := H9
  clear H9
  have s2 : Lst gc2 D2 acc2 := s2
  have l2 := la2.trans (lb2.trans lc2)
  replace Wd := Wd.up l2
  replace lc := lc.up l2
  replace uL := uL.up l2
  replace vL := vL.up l2
  k_search "tt"
  refine W_nxt 19 rfl ?_
  refine W_AssignLC (cl' := [(Str.ofString "v", ca 5), (Str.ofString "u", ca 4)]) (cxs := [Str.ofString "i"]) F ⟨rfl, by kernel_rfl, rfl, by kernel_rfl, by kernel_rfl, by decide +kernel⟩ (F.env (P := fun en => swapsWith _ _ _ en = pure true) fun _ _ _ _ _ _ _ _ _ _ _ => by kernel_rfl) ?_ (fun _ => rfl)
  k_search "tt"
  refine W_range1 H ?_
  intro rg ga3 h9 la3 Rg9 H
  refine W_iter_rangeN (n := nN rws) r.hd Rg9 rfl (by omega) H ?_
  intro it S9 h9 IT H
  refine ⟨_, _, nN rws, _, _, ga3, fun i _ acc => acc.length ≤ i ∧ IntsAre acc (nInts (otI us vs i)), IT _ _, by omega, H, ⟨Nat.le_refl _, .nil⟩, fun _ _ _ _ _ e => e, ?_, ?_⟩
  · rintro i g' acc Cf D cen cvs v h3 le hi2 ⟨al, ai⟩ ⟨ti, rfl⟩ F H
    obtain ⟨cv, rfl⟩ := one_of H
    replace Wd := (Wd.up la3).up le
    have uL9 := (uL.up la3).up le
    have vL9 := (vL.up la3).up le
    dsimp only [List.cons_append] at H
    skip
    k_search "tt"
    obtain ⟨tv9, ev⟩ := ints_at vI (j := i) (by omega)
    refine W_sub_listN (j := i) (vL9.up H.le) rfl ev (by omega) ?_
    k_search "tt"
    obtain ⟨tu9, eu⟩ := ints_at uI (j := i) (by omega)
    refine W_sub_listN (j := i) (uL9.up H.le) rfl eu (by omega) ?_
    k_search "tt"
    refine Ite_b (fun e => ?_) (fun e => ?_)
    · k_search "tt"
      refine ⟨g', _, Le.refl g', ⟨by simp; omega, ?_⟩, H⟩
      rw [otI_succ, if_pos e, nInts_app]
      exact ints_snocT ai
    · refine ⟨g', _, Le.refl g', ⟨by omega, ?_⟩, H⟩
      rw [otI_succ, if_neg (by rw [e]; decide), List.append_nil]
      exact ai
  rintro gb D3 acc3 lb3 ⟨al3, ai3⟩
  refine ⟨_, by k_search "st", ?_⟩
  intro h9 H
  obtain ⟨gc3, lc3, s3, H9⟩ := H.give
  clear H
  have H := H9
  clear H9
  have s3 : Lst gc3 D3 acc3 := s3
  have l3 := la3.trans (lb3.trans lc3)
  replace Wd := Wd.up l3
  replace lc := lc.up l3
  replace uL := uL.up l3
  replace vL := vL.up l3
  k_search "tt"
  refine W_nxt 20 rfl ?_
  k_search "tt"
  have lz := l2.trans l3
  exact q at_ st D2 D3 gc3 _ (l1.trans lz) lc ((thx.up l1).up lz) ((tha.up l1).up lz) (ps.up lz) ⟨_, s2.up l3, ai2⟩ ⟨_, s3, ai3⟩ H
end

end
section
set_option maxHeartbeats 4000000
section
variable {C : Cfg} {A : Around} {g h : Heap} {V : Led} {n : Nat} {R : Result → Heap → Prop}
theorem nInts_getD {is : List Nat} {j i : Nat} (e : is[j]? = some i) : (nInts is).getD j 0 = (i : Int) := getD_of (by unfold nInts; rw [List.getElem?_map, e]; rfl)
theorem ints_append {v1 v2 : List Value} {n1 n2 : List Int} (a : IntsAre v1 n1) (b : IntsAre v2 n2) : IntsAre (v1 ++ v2) (n1 ++ n2) := by
  induction a with
  | nil => exact b
  | cons n t h ih => exact .cons n t ih
theorem stepW {rws row : List Int} {tv ts sl rl st z k : Addr} {i : Nat} {fv : List Value} {one : Value} {v : Int} {t : Tok} {E : Value → Heap → Prop} {Q : Value → Heap → Prop} (H : Hp C.w.params g V h) (Wd : Wld C g) (S : Stk A V) (r : Rm A (n + 4)) (lf : Lf C.w.params g rws rl tv ts sl) (kd : Kd C.w.params g k tv (kcI rws)) (sp : Stp C.w.params g st) (fl : Fls C.w.params g tv (kcI rws) fv) (e : fv[i]? = some one)
    (pz : Th C.w.params g z (.ref k) (kcI rws).nms row) (hv : v.natAbs < 900)
    (q1 : ¬ Bad rws row i (rd (mM rws) v) → ∀ t' g' h', Le g g' → Hp C.w.params g' V h' → Q (.int (rd (mM rws) v) t') h')
    (q2 : Bad rws row i (rd (mM rws) v) → ∀ e g' h', Le g g' → Ex C.w.params (.type "ValueError") e (some .none) g' V h' → E (.ref e) h') : W C A (call (.ref st) [.ref z, one, .int v t]) Q E h := by
  have ok := kcI_ok rws
  have hm := mM_eq rws
  obtain ⟨nv, nT, nS⟩ := lf.t
  obtain ⟨a, x, sh, sps, rfl, e1, e2, e3, fd⟩ := fl.2 i one e
  have hi : i < nN rws := by rw [← kcI_nl]; exact (List.getElem?_eq_some_iff.mp e1).1
  have es : (kcI rws).spss.getD i [] = sps := getD_of e3
  have bi := bad_iff (rws := rws) (row := row) (v := rd (mM rws) v) hi
  rw [es] at bi
  refine W_call (step_ok (n := n) H Wd S r sp fd (fun s hs => ok.okv i sps e3 s hs) nT nS pz kd.kn e1 ok.z (ok.s1 x (List.mem_of_getElem? e1)).1 (rd_small (show 0 < mM rws by omega) (show mM rws ≤ 9 by omega) hv) (by show mM rws ≠ 0; omega) ?_ ?_)
  · intro hb t' g' h' l H
    exact q1 (fun z => by rw [show sps.any (badV row i (rd (kcI rws).m v)) = true from bi.mpr z] at hb; cases hb) t' g' h' l H
  · intro hb e g' h' l X
    exact q2 (bi.mp hb) e g' h' l X
theorem assocW {rws row : List Int} {tv z k D0 D1 : Addr} {i : Nat} {w : Int} {t : Tok} {E : Value → Heap → Prop} {Q : Value → Heap → Prop} (H : Hp C.w.params g V h) (Wd : Wld C g) (S : Stk A V) (r : Rm A (n + 5)) (kd : Kd C.w.params g k tv (kcI rws)) (pz : Th C.w.params g z (.ref k) (kcI rws).nms row) (hl : row.length = nN rws) (hi : i < nN rws)
    (s0 : Lst g D0 [.ref z]) (s1 : Sd C.w.params g D1 [(kcI rws).nms.getD i Str.empty] [.int w t])
    (q : ∀ z' g' h', Le g g' → Th C.w.params g' z' (.ref k) (kcI rws).nms (row.set i w) → Hp C.w.params g' V h' → Q (.ref z') h') : W C A (call (.ref 490) [.ref 495, .ref D0, .ref D1]) Q E h := by
  have ok := kcI_ok rws
  have nl := kcI_nl rws
  have mm : (kcI rws).nms.getD i Str.empty ∈ (kcI rws).nms := List.mem_of_getElem? (getD_str (by omega))
  refine W_call (called_ok (n := n + 4) (P := fun g' v => ∃ z', v = .ref z' ∧ Th C.w.params g' z' (.ref k) (kcI rws).nms (row.set i w)) (B := fun _ => False) H Wd S r (.inl s0) s1 (by simp) (by simp) (by simp) (fun h' l => Kpr.fnT Wd l (by decide)) ?_ ?_ ?_)
  · intro A' p h' H' S' r'
    refine assoc_ok (n := n) (ws := [w]) ok H' Wd S' r' kd pz (.cons _ _ .nil) rfl (by simp) (by simp) (fun x hx => by rw [List.mem_singleton.mp hx]; exact ok.s1 _ mm) (fun m => ?_) ?_ ?_
    · rw [← List.mem_singleton.mp m] at mm
      exact law_self.2.1 (List.mem_of_mem_take mm)
    · intro _ z' g' h'' l t H''
      rw [aRow_one hl hi] at t
      exact ⟨g', l, ⟨z', rfl, t⟩, H''⟩
    · rintro ⟨x, hx, hx2⟩
      rw [List.mem_singleton.mp hx] at hx2
      exact absurd mm hx2
  · rintro _ g3 h3 l3 ⟨z', rfl, th⟩ H
    exact q z' g3 h3 l3 th H
  · rintro _ _ _ _ _ ⟨⟩
theorem segD1 {en : Env} {L rl tv ts sl k fa la ua va x a1 pa st da db : Addr} {ca : Nat → Addr} {v0 v2 v4 v5 v6 : Option Value} {rws fs ls : List Int} {t1 tm : Tok} (F : Fe en L lawN lwX (lwC ca)) (S : Sb A en L V) (r : Rm A (n + 8)) (Wd : Wld C g)
    (lc : LcF C.w.params g rws rl tv ts sl k fa la ua va fs ls) (thx : Th C.w.params g x (.ref k) (kcI rws).nms (fs.map (rd (mM rws)))) (tha : Th C.w.params g a1 (.ref k) (kcI rws).nms (ls.map (rd (mM rws)))) (ps : Ps C.w.params g rws tv pa st) (sf : Srt rws fs) (sls : Srt rws ls)
    (di : Il g da (nInts (rsI (nN rws) (fs.map (rd (mM rws))) (ls.map (rd (mM rws))) (nN rws)))) (oi : Il g db (nInts (otI (fs.map (rd (mM rws))) (ls.map (rd (mM rws))) (nN rws))))
    (H : Hp C.w.params g ((L, .frm lwX (lfD v0 v2 v4 v5 v6 rws t1 sl k fa la x a1 (some (.ref pa)) (some (.ref st)) (some (.ref da)) (some (.ref db)) (some (.ref x)) none none none none none none none none none none none none none)) :: celC ca rl tv ts ua va rws tm V) h)
    (q : ∀ vi w14 w15 w16 g' h', Le g g' → LcF C.w.params g' rws rl tv ts sl k fa la ua va fs ls → Th C.w.params g' x (.ref k) (kcI rws).nms (fs.map (rd (mM rws))) → Th C.w.params g' a1 (.ref k) (kcI rws).nms (ls.map (rd (mM rws))) → Ps C.w.params g' rws tv pa st →
      Hp C.w.params g' ((L, .frm lwX (lfD v0 vi v4 v5 v6 rws t1 sl k fa la x a1 (some (.ref pa)) (some (.ref st)) w14 w15 w16 none none none none none none none none none none none none none)) :: celC ca rl tv ts ua va rws tm V) h' → LB C A en R 23 h') : LB C A en R 21 h := by
  dsimp only [celC, lfD] at H
  obtain ⟨eN, n2, n4⟩ := nN_eq rws
  have hm := mM_eq rws
  have ul : (fs.map (rd (mM rws))).length = nN rws := sf.rdd.l
  have vl : (ls.map (rd (mM rws))).length = nN rws := sls.rdd.l
  have good := fun j i hj => ord_good sf sls (j := j) (i := i) hj
  have fin := mixI_all (n := nN rws) (us := fs.map (rd (mM rws))) vl
  have mi0 := mixI_nil (n := nN rws) (us := fs.map (rd (mM rws))) (vs := ls.map (rd (mM rws))) ul
  obtain ⟨dv, dL, dI⟩ := di
  obtain ⟨ov, oL, oI⟩ := oi
  have ordI2 : IntsAre (dv ++ ov) (nInts (ordI (nN rws) (fs.map (rd (mM rws))) (ls.map (rd (mM rws))))) := by
    unfold ordI
    rw [nInts_app]
    exact ints_append dI oI
  have dvz : dv.length ≤ 4 := by
    rw [dI.length]
    unfold nInts rsI
    rw [List.length_map]
    refine Nat.le_trans (List.length_filter_le _ _) ?_
    simp; omega
  have ovz : ov.length ≤ 4 := by
    rw [oI.length]
    unfold nInts otI
    rw [List.length_map]
    refine Nat.le_trans (List.length_filter_le _ _) ?_
    simp; omega
  generalize hO : ordI (nN rws) (fs.map (rd (mM rws))) (ls.map (rd (mM rws))) = O at *
  have hOl : ∀ j i, O[j]? = some i → i < nN rws := fun j i e => by
    have := List.mem_of_getElem? e
    rw [← hO] at this
    exact mem_ordI.mp this
  refine W_nxt 21 rfl ?_
  refine W_For ?_ (fun _ => rfl)
  k_search "tt"
  refine W_addL H (dL.up H.le) (oL.up H.le) (by omega) ?_
  intro D h1 H
  replace H := H.swap
  obtain ⟨g1, l1, s1, H9⟩ := H.give
  clear H
  have H := H9
  clear H9
  have s1 : Lst g1 D (dv ++ ov) := s1
  replace Wd := Wd.up l1
  replace lc := lc.up l1
  replace thx := thx.up l1
  replace tha := tha.up l1
  replace ps := ps.up l1
  have sz : (dv ++ ov).length = O.length := by rw [ordI2.length]; unfold nInts; simp
  refine W_iter_list r.hd s1 H ?_
  intro it h2 IT H
  refine CW_for (R := fun _ _ => True) (IT _ _) (fun j g' V' => Le g1 g' ∧ ∃ vi z, Th C.w.params g' z (.ref k) (kcI rws).nms (mixI (nN rws) (fs.map (rd (mM rws))) (ls.map (rd (mM rws))) (O.take j)) ∧
    V' = (L, .frm lwX (lfD v0 vi v4 v5 v6 rws t1 sl k fa la x a1 (some (.ref pa)) (some (.ref st)) (some (.ref da)) (some (.ref db)) (some (.ref z)) none none none none none none none none none none none none none)) :: celC ca rl tv ts ua va rws tm V) ?_ H (Le.refl g1) ⟨Le.refl g1, _, x, by rw [List.take_zero, mi0]; exact thx, rfl⟩ ?_ ?_
  · rintro i g g' V1 l ⟨a, vi, z, b, c⟩
    exact ⟨a.trans l, vi, z, b.up l, c⟩
  · rintro j g2 V1 h3 v le2 hj ⟨_, vi, z, thz, rfl⟩ hy H
    dsimp only [List.cons_append] at H
    obtain ⟨hj2, ti, rfl⟩ := ints_get ordI2 hy
    have hj3 : j < O.length := by omega
    have ej : O[j]? = some O[j] := List.getElem?_eq_getElem hj3
    obtain ⟨i, ei⟩ : ∃ i, O[j] = i := ⟨_, rfl⟩
    rw [ei] at ej
    have hi := hOl j i ej
    rw [nInts_getD ej]
    replace Wd := Wd.up le2
    replace lc := lc.up le2
    replace ps := ps.up le2
    obtain ⟨nv, nT, nS⟩ := lc.lf.t
    obtain ⟨fv, pT, pF⟩ := ps.p
    obtain ⟨lv, lL, lI⟩ := lc.l
    obtain ⟨tx, ex⟩ := nS.2 i _ (getD_str (l := (kcI rws).nms) (by rw [kcI_nl]; exact hi))
    have nvz : nv.length = nN rws := by rw [nS.1]; exact kcI_nl rws
    have fvz : fv.length = nN rws := by rw [pF.1, kcI_nl]
    have lvz : lv.length = nN rws := by rw [lI.length]; exact sls.l
    obtain ⟨tl, el⟩ := ints_at lI (j := i) (by rw [sls.l]; exact hi)
    have ef : fv[i]? = some fv[i] := List.getElem?_eq_getElem (by omega)
    refine W_as_Name (W_bindL F H (by k_search "st") ?_)
    clear H
    intro h4 H
    refine W_execs (W_TryN ?_)
    k_search "tt"
    refine W_newList H (by simp) ?_
    intro D0 h5 H
    replace H := H.swap
    obtain ⟨g3, l3, s3, H9⟩ := H.give
    clear H
    have H := H9
    clear H9
    have s3 : Lst g3 D0 [.ref z] := s3
    replace Wd := Wd.up l3
    replace lc := lc.up l3
    replace ps := ps.up l3
    replace thz := thz.up l3
    k_search "tt"
    refine W_Dict1 H Wd ?_
    intro D1 h6 H
    k_search "tt"
    refine W_sub_tupN (j := i) ((nT.up l3).up H.le) rfl ex (by omega) ?_
    k_search "tt"
    refine W_sub_tupN (j := i) ((pT.up l3).up H.le) rfl ef (by omega) ?_
    k_search "tt"
    refine W_sub_listN (j := i) ((lL.up l3).up H.le) rfl el (by omega) ?_
    k_search "tt"
    refine ⟨ps.s.kpr H.le, ?_⟩
    dsimp only [List.nil_append, List.zip, List.zipWith, namesOf, Option.toList]
    have vi9 : (ls.map (rd (mM rws))).getD i 0 = rd (mM rws) (ls.getD i 0) := getD_map (by rw [sls.l]; exact hi)
    have gd := good j i ej
    rw [vi9] at gd
    refine stepW (n := n + 4) H Wd (by k_search "stk") r lc.lf lc.kd ps.s (pF.up l3) ef thz (by have := sls.b _ (getD_mem (l := ls) (i := i) (by rw [sls.l]; exact hi)); omega) ?_ (fun b => absurd b gd)
    intro _ t9 g4 h7 l4 H
    refine ⟨_, tx, _, _, _, rfl, H, fun h8 H => ?_⟩
    obtain ⟨g5, l5, s5, H9⟩ := H.give
    clear H
    have H := H9
    clear H9
    have s5 : Sd C.w.params g5 D1 [(kcI rws).nms.getD i Str.empty] [.int (rd (mM rws) (ls.getD i 0)) t9] := s5
    have l45 := l4.trans l5
    replace Wd := Wd.up l45
    replace lc := lc.up l45
    replace ps := ps.up l45
    replace thz := thz.up l45
    k_search "tt"
    refine assocW (n := n + 3) H Wd (by k_search "stk") r lc.kd thz mixI_len hi (s3.up l45) s5 ?_
    intro z' g6 h9 l6 thz' H
    k_search "tt"
    refine ⟨g6, _, l3.trans (l45.trans l6), ⟨le2.trans (l3.trans (l45.trans l6)), _, z', ?_, rfl⟩, H⟩
    rw [show O.take (j + 1) = O.take j ++ [i] from by rw [List.take_add_one, ej]; rfl, mixI_snoc, vi9]
    exact thz'
  · rintro g2 V1 h3 le2 ⟨_, vi, z, thz, rfl⟩ H
    rw [sz, List.take_length, fin] at thz
    replace Wd := Wd.up le2
    replace lc := lc.up le2
    replace thx := thx.up le2
    replace tha := tha.up le2
    replace ps := ps.up le2
    k_search "tt"
    refine W_nxt 22 rfl ?_
    k_search "tt"
    refine holdsW (n := n + 7) H Wd (by k_search "stk") r lc.lf thz lc.v sls.rdd.l sls.rdd.b ?_
    intro g3 h4 l3 H
    replace Wd := Wd.up l3
    replace lc := lc.up l3
    replace thz := thz.up l3
    replace tha := tha.up l3
    k_search "tt"
    refine eqW (n := n + 6) H Wd (by k_search "stk") r lc.kd thz tha ?_
    intro g4 h5 l4 H
    rw [decide_eq_true rfl]
    k_search "tt"
    exact q _ _ _ _ g4 _ (l1.trans (le2.trans (l3.trans l4))) (lc.up l4) (thx.up (l3.trans l4)) (tha.up l4) (ps.up (l3.trans l4)) H
end

end
section
set_option maxHeartbeats 4000000
section
variable {C : Cfg} {A : Around} {g h : Heap} {V : Led} {n : Nat} {R : Result → Heap → Prop}
abbrev lamQ : Pos → Str := fun _ => Str.ofString "law.<locals>.<lambda>"
abbrev celE (ca : Nat → Addr) (rl tv ts ua va ka : Addr) (rws : List Int) (tm : Tok) (V : Led) : Led := (ca 8, .cell (some (.ref ka))) :: (ca 7, .cell none) :: (ca 6, .cell none) :: (ca 5, .cell (some (.ref va))) :: (ca 4, .cell (some (.ref ua))) :: (ca 3, .cell (some (.ref ts))) :: (ca 2, .cell (some (.ref tv))) :: (ca 1, .cell (some (.int (mM rws) tm))) :: (ca 0, .cell (some (.ref rl))) :: V
theorem segE0 {en : Env} {L rl tv ts sl k fa la ua va x a1 pa st : Addr} {ca : Nat → Addr} {v0 v2 v4 v5 v6 w14 w15 w16 : Option Value} {rws fs ls : List Int} {t1 tm : Tok} (F : Fe en L lawN lwX (lwC ca)) (S : Sb A en L V) (r : Rm A (n + 2)) (Wd : Wld C g) (h0 : 0 < rws.length) (h64 : rws.length < 64)
    (lc : LcF C.w.params g rws rl tv ts sl k fa la ua va fs ls) (sf : Srt rws fs)
    (H : Hp C.w.params g ((L, .frm lwX (lfD v0 v2 v4 v5 v6 rws t1 sl k fa la x a1 (some (.ref pa)) (some (.ref st)) w14 w15 w16 none none none none none none none none none none none none none)) :: celC ca rl tv ts ua va rws tm V) h)
    (q : ∀ ka ks nd nv g' h', Le g g' → Il g' ka ks → ks.length = nN rws → IntsAre nv (fs.map (rd (mM rws))) →
      Hp C.w.params g' ((L, .frm lwX (lfD v0 v2 v4 v5 v6 rws t1 sl k fa la x a1 (some (.ref pa)) (some (.ref st)) w14 w15 (some (.ref x)) (some (.ref nd)) none none none none none none none none none none none none)) :: (nd, .lst nv) :: celE ca rl tv ts ua va ka rws tm V) h' → LB C A en R 26 h') : LB C A en R 23 h := by
  dsimp only [celC, lfD] at H
  obtain ⟨eN, n2, n4⟩ := nN_eq rws
  obtain ⟨rv, p1, hi⟩ := lc.lf.r
  obtain ⟨uv, uL, uI⟩ := lc.u
  have ul : (fs.map (rd (mM rws))).length = nN rws := sf.rdd.l
  have uvl : uv.length = nN rws := by rw [uI.length]; exact ul
  refine W_nxt 23 rfl ?_
  refine W_Assign ?_ (F.env (P := fun en => swapsWith _ _ _ en = pure false) fun _ _ _ _ _ _ _ _ _ _ _ => by kernel_rfl) rfl rfl
  refine W_ListComp (cl' := [(Str.ofString "rows", ca 0)]) (cxs := [Str.ofString "i"]) F ⟨rfl, by kernel_rfl, rfl, by kernel_rfl, by kernel_rfl, by decide +kernel⟩ ?_ (fun _ => rfl)
  k_search "tt"
  refine W_range1 H ?_
  intro rg ga h9 la9 Rg9 H
  replace Wd := Wd.up la9
  replace p1 := p1.up la9
  refine W_iter_rangeN (n := nN rws) r.hd Rg9 rfl (by omega) H ?_
  intro it S9 h9 IT H
  refine ⟨_, nN rws, _, _, ga, fun i _ acc => acc.length = i ∧ IntsAre acc ((List.range i).map fun (i : Nat) => drawI rws (14 + (i : Int)) 7), IT _ _, by omega, H, ⟨rfl, .nil⟩, fun _ _ _ _ _ e => e, ?_, ?_⟩
  · rintro i g' acc Cf D cen cvs v h3 le hi2 ⟨al, ai⟩ ⟨ti, rfl⟩ F H
    obtain ⟨cv, rfl⟩ := one_of H
    replace Wd := Wd.up le
    replace p1 := p1.up le
    dsimp only [List.cons_append] at H
    k_search "tt"
    refine W_call (draw_ok (n := n + 1) H Wd (by k_search "stk") r p1 hi h0 h64 (by omega) (by omega) (by omega) ?_)
    intro t9 h9 H
    k_search "tt"
    refine ⟨g', _, Le.refl g', ⟨by simp [al], ?_⟩, H⟩
    rw [List.range_succ, List.map_append]
    exact ints_snocT ai
  rintro gb D1 acc lb ⟨al, ai⟩
  intro h9 H
  replace H := H.swap
  obtain ⟨gc, lc1, s1, H9⟩ := H.give
  clear H
  have H := H9
  clear H9
  have s1 : Lst gc D1 acc := s1
  have l1 := la9.trans (lb.trans lc1)
  replace Wd := (Wd.up lb).up lc1
  replace uL := uL.up l1
  k_search "tt"
  k_search "bc"
  k_search "tt"
  refine W_nxt 24 rfl ?_
  refine W_AssignLC (cl' := []) (cxs := [Str.ofString "one"]) F ⟨rfl, by kernel_rfl, rfl, by kernel_rfl, by kernel_rfl, by decide +kernel⟩ (F.env (P := fun en => swapsWith _ _ _ en = pure true) fun _ _ _ _ _ _ _ _ _ _ _ => by kernel_rfl) ?_ (fun _ => rfl)
  k_search "tt"
  refine W_iter_list r.hd uL H ?_
  intro it h3 IT H
  refine ⟨_, _, uv.length, _, _, gc, fun i _ acc => acc = uv.take i, IT _ _, by omega, H, rfl, fun _ _ _ _ _ e => e, ?_, ?_⟩
  · rintro i g' acc Cf D5 cen cvs v h4 le hi rfl hy F H
    obtain ⟨cv, rfl⟩ := one_of H
    dsimp only [List.cons_append] at H
    k_search "tt"
    exact ⟨g', _, Le.refl g', by show _ = List.take (i + 1) uv; rw [List.take_add_one, hy]; rfl, H⟩
  rintro g3 nd acc l3 rfl
  rw [List.take_length]
  refine ⟨_, by k_search "st", ?_⟩
  intro h7 H
  k_search "tt"
  refine W_nxt 25 rfl ?_
  k_search "tt"
  exact q D1 _ nd uv g3 _ (l1.trans l3) ⟨_, s1.up l3, ai⟩ (by simp) uI H
end

end
section
set_option maxHeartbeats 4000000
section
variable {C : Cfg} {A : Around} {g h : Heap} {V : Led} {n : Nat} {R : Result → Heap → Prop}
def body26 : List Stmt := forBody (lawB.drop 26)
theorem Rdd.set {rws row : List Int} {i : Nat} {w : Int} (r : Rdd rws row) (hb : w.natAbs < 50) (hr : rd (mM rws) w = w) : Rdd rws (row.set i w) :=
  ⟨by rw [List.length_set]; exact r.l, fun x hx => by rcases List.mem_or_eq_of_mem_set hx with h | rfl; exact r.b x h; exact hb, fun x hx => by rcases List.mem_or_eq_of_mem_set hx with h | rfl; exact r.r x h; exact hr⟩
theorem ints_setL {vs : List Value} {ns : List Int} {i : Nat} {w : Int} {t : Tok} (h : IntsAre vs ns) : IntsAre (vs.set i (.int w t)) (ns.set i w) := by
  induction h generalizing i with
  | nil => exact .nil
  | cons a b c ih => cases i with
    | zero => exact .cons _ _ c
    | succ i => exact .cons _ _ ih
abbrev lfE (v0 v2 v4 v5 v6 : Option Value) (rws : List Int) (t1 : Tok) (sl k fa la x a1 pa st : Addr) (w14 w15 : Option Value) (z nd : Addr) (ww wt : Option Value) : List (Option Value) := lfD v0 v2 v4 v5 v6 rws t1 sl k fa la x a1 (some (.ref pa)) (some (.ref st)) w14 w15 (some (.ref z)) (some (.ref nd)) ww wt none none none none none none none none none none
def c1E (rws row : List Int) (i : Nat) (v : Int) : Bool := decide (0 < i) && (decide (2 ≤ (sdI rws).getD (i - 1) 0) && decide (v < row.getD (i - 1) 0))
def c2E (rws row : List Int) (i : Nat) (v : Int) : Bool := decide (i + 1 < nN rws) && (decide ((sdI rws).getD i 0 ≠ 2) && decide (row.getD (i + 1) 0 < v))
theorem bad_c {rws row : List Int} {i : Nat} {v : Int} (hv : -12 ≤ v ∧ v ≤ 12) : Bad rws row i v ↔ (c1E rws row i v || c2E rws row i v) = true := by
  unfold Bad c1E c2E
  simp only [Bool.or_eq_true, Bool.and_eq_true, decide_eq_true_eq]
  constructor
  · rintro (h | h | ⟨_, h⟩ | ⟨_, h⟩)
    · exact .inl h
    · exact .inr h
    · omega
    · omega
  · rintro (h | h)
    · exact .inl h
    · exact .inr (.inl h)
theorem turnE1 {en : Env} {L rl tv ts sl k fa la ua va ka x a1 pa st z nd : Addr} {ca : Nat → Addr} {v0 v4 v5 v6 w14 w15 ww wt : Option Value} {rws fs ls row : List Int} {nv : List Value} {t1 tm ti : Tok} {i : Nat} {X : Led} {E : Value → Heap → Prop} {Q : Flow → Heap → Prop} (F : Fe en L lawN lwX (lwC ca)) (S : Sb A en L X) (r : Rm A (n + 6)) (Wd : Wld C g)
    (lc : LcF C.w.params g rws rl tv ts sl k fa la ua va fs ls) (sls : Srt rws ls) (hi : i < nN rws) (nI : IntsAre nv row) (rr : Rdd rws row)
    (H : Hp C.w.params g ((L, .frm lwX (lfE v0 (some (.int i ti)) v4 v5 v6 rws t1 sl k fa la x a1 pa st w14 w15 z nd ww wt)) :: (nd, .lst nv) :: celE ca rl tv ts ua va ka rws tm X) h)
    (q : ∀ h', Hp C.w.params g ((L, .frm lwX (lfE v0 (some (.int i ti)) v4 v5 v6 rws t1 sl k fa la x a1 pa st w14 w15 z nd (some (.bool (!(c1E rws row i ((ls.map (rd (mM rws))).getD i 0) || c2E rws row i ((ls.map (rd (mM rws))).getD i 0))))) wt)) :: (nd, .lst nv) :: celE ca rl tv ts ua va ka rws tm X) h' → W C A (execs (body26.drop 3) en) Q E h') : W C A (execs body26 en) Q E h := by
  obtain ⟨eN, n2, n4⟩ := nN_eq rws
  have dl := sd_len rws
  have vl : (ls.map (rd (mM rws))).length = nN rws := sls.rdd.l
  obtain ⟨vv, vL, vI⟩ := lc.v
  obtain ⟨dv, dL, dI⟩ := lc.lf.d
  have rwl := rr.l
  have vvz : vv.length = nN rws := by rw [vI.length]; exact vl
  have dvz : dv.length = nN rws - 1 := by rw [dI.length, dl]
  have nvz : nv.length = nN rws := by rw [nI.length, rwl]
  generalize hvi : (ls.map (rd (mM rws))).getD i 0 = vi at q ⊢
  obtain ⟨tv1, ev⟩ := ints_at vI (j := i) (by omega)
  rw [hvi] at ev
  refine W_nxb (ss' := body26.drop 1) rfl ?_
  k_search "tt"
  refine W_nxb (ss' := body26.drop 2) rfl (W_cut (fun h' => Hp C.w.params g ((L, .frm lwX (lfE v0 (some (.int i ti)) v4 v5 v6 rws t1 sl k fa la x a1 pa st w14 w15 z nd (some (.bool (!c1E rws row i vi))) wt)) :: (nd, .lst nv) :: celE ca rl tv ts ua va ka rws tm X) h') ?_ ?_)
  · k_search "tt"
    refine ⟨fun e => ?_, fun e => ?_⟩
    · have e := of_decide_eq_true e
      k_search "tt"
      obtain ⟨t3, e3⟩ := ints_at dI (j := i - 1) (by omega)
      refine W_sub_listN (j := i - 1) (dL.up H.le) (by omega) e3 (by omega) ?_
      k_search "tt"
      refine ⟨fun e2 => ?_, fun e2 => ?_⟩
      · have e2' := of_decide_eq_true e2
        k_search "tt"
        obtain ⟨t4, e4⟩ := ints_at nI (j := i - 1) (by omega)
        refine W_sub_listN (j := i - 1) (H.at (s := .lst nv) (by k_search "mm")) (by omega) e4 (by omega) ?_
        k_search "tt"
        refine W_sub_listN (j := i) (vL.up H.le) rfl ev (by omega) ?_
        k_search "tt"
        refine ⟨fun e5 => ?_, fun e5 => ?_⟩
        · k_search "tt"
          refine ⟨rfl, ?_⟩
          have : c1E rws row i vi = true := by unfold c1E; rw [e2, e5, decide_eq_true (show 0 < i by omega)]; rfl
          rw [this]
          exact H
        · k_search "tt"
          refine ⟨rfl, ?_⟩
          have : c1E rws row i vi = false := by unfold c1E; rw [e5, Bool.and_false, Bool.and_false]
          rw [this]
          exact H
      · k_search "tt"
        refine ⟨rfl, ?_⟩
        have : c1E rws row i vi = false := by unfold c1E; rw [e2, Bool.false_and, Bool.and_false]
        rw [this]
        exact H
    · have e := of_decide_eq_false e
      k_search "tt"
      refine ⟨rfl, ?_⟩
      have : c1E rws row i vi = false := by unfold c1E; rw [decide_eq_false (show ¬ 0 < i by omega), Bool.false_and]
      rw [this]
      exact H
  intro h2 H
  refine W_nxb (ss' := body26.drop 3) rfl (W_cut (fun h' => Hp C.w.params g ((L, .frm lwX (lfE v0 (some (.int i ti)) v4 v5 v6 rws t1 sl k fa la x a1 pa st w14 w15 z nd (some (.bool (!(c1E rws row i vi || c2E rws row i vi)))) wt)) :: (nd, .lst nv) :: celE ca rl tv ts ua va ka rws tm X) h') ?_ ?_)
  · k_search "tt"
    refine ⟨fun e => ?_, fun e => ?_⟩
    · have e := of_decide_eq_true e
      k_search "tt"
      obtain ⟨t3, e3⟩ := ints_at dI (j := i) (by omega)
      refine W_sub_listN (j := i) (dL.up H.le) rfl e3 (by omega) ?_
      k_search "tt"
      refine ⟨fun e2 => ?_, fun e2 => ?_⟩
      · have e2' : (sdI rws).getD i 0 ≠ 2 := by simpa using e2
        k_search "tt"
        refine W_sub_listN (j := i) (vL.up H.le) rfl ev (by omega) ?_
        k_search "tt"
        obtain ⟨t4, e4⟩ := ints_at nI (j := i + 1) (by omega)
        refine W_sub_listN (j := i + 1) (H.at (s := .lst nv) (by k_search "mm")) (by omega) e4 (by omega) ?_
        k_search "tt"
        refine ⟨fun e5 => ?_, fun e5 => ?_⟩
        · k_search "tt"
          refine ⟨rfl, ?_⟩
          have : c2E rws row i vi = true := by unfold c2E; rw [e5, decide_eq_true e2', decide_eq_true (show i + 1 < nN rws by omega)]; rfl
          rw [this, Bool.or_true]
          exact H
        · k_search "tt"
          refine ⟨rfl, ?_⟩
          have : c2E rws row i vi = false := by unfold c2E; rw [e5, Bool.and_false, Bool.and_false]
          rw [this, Bool.or_false]
          exact H
      · have e2' : (sdI rws).getD i 0 = 2 := by simpa using e2
        k_search "tt"
        refine ⟨rfl, ?_⟩
        have : c2E rws row i vi = false := by unfold c2E; rw [decide_eq_false (p := (sdI rws).getD i 0 ≠ 2) (fun z => z e2'), Bool.false_and, Bool.and_false]
        rw [this, Bool.or_false]
        exact H
    · have e := of_decide_eq_false e
      k_search "tt"
      refine ⟨rfl, ?_⟩
      have : c2E rws row i vi = false := by unfold c2E; rw [decide_eq_false (show ¬ i + 1 < nN rws by omega), Bool.false_and]
      rw [this, Bool.or_false]
      exact H
  exact fun h3 H => q h3 H
end

end
section
set_option maxHeartbeats 4000000
section
variable {C : Cfg} {A : Around} {g h : Heap} {V : Led} {n : Nat} {R : Result → Heap → Prop}
theorem turnE2 {en : Env} {L rl tv ts sl k fa la ua va ka x a1 pa st z nd : Addr} {ca : Nat → Addr} {v0 v4 v5 v6 w14 w15 wt : Option Value} {rws fs ls row : List Int} {nv : List Value} {t1 tm ti : Tok} {i : Nat} {X0 : Led} {E : Value → Heap → Prop} {Q : Flow → Heap → Prop} (F : Fe en L lawN lwX (lwC ca)) (S : Sb A en L X0) (r : Rm A (n + 8)) (Wd : Wld C g)
    (lc : LcF C.w.params g rws rl tv ts sl k fa la ua va fs ls) (ps : Ps C.w.params g rws tv pa st) (sls : Srt rws ls) (hi : i < nN rws) (nI : IntsAre nv row) (rr : Rdd rws row) (thz : Th C.w.params g z (.ref k) (kcI rws).nms row)
    (H : Hp C.w.params g ((L, .frm lwX (lfE v0 (some (.int i ti)) v4 v5 v6 rws t1 sl k fa la x a1 pa st w14 w15 z nd (some (.bool (!(c1E rws row i ((ls.map (rd (mM rws))).getD i 0) || c2E rws row i ((ls.map (rd (mM rws))).getD i 0))))) wt)) :: (nd, .lst nv) :: celE ca rl tv ts ua va ka rws tm X0) h)
    (q : ∀ ww wt z' row' nv' g' h', Le g g' → Th C.w.params g' z' (.ref k) (kcI rws).nms row' → IntsAre nv' row' → Rdd rws row' → Hp C.w.params g' ((L, .frm lwX (lfE v0 (some (.int i ti)) v4 v5 v6 rws t1 sl k fa la x a1 pa st w14 w15 z' nd ww wt)) :: (nd, .lst nv') :: celE ca rl tv ts ua va ka rws tm X0) h' → Q .next h') : W C A (execs (body26.drop 3) en) Q E h := by
  obtain ⟨eN, n2, n4⟩ := nN_eq rws
  have vl : (ls.map (rd (mM rws))).length = nN rws := sls.rdd.l
  have rwl := rr.l
  have vi9 : (ls.map (rd (mM rws))).getD i 0 = rd (mM rws) (ls.getD i 0) := getD_map (by rw [sls.l]; exact hi)
  have vb := sls.rdd.b _ (getD_mem (l := ls.map (rd (mM rws))) (i := i) (by omega))
  have vr := sls.rdd.r _ (getD_mem (l := ls.map (rd (mM rws))) (i := i) (by omega))
  have lb := sls.b _ (getD_mem (l := ls) (i := i) (by rw [sls.l]; exact hi))
  have hm := mM_eq rws
  have vin : -12 ≤ (ls.map (rd (mM rws))).getD i 0 ∧ (ls.map (rd (mM rws))).getD i 0 ≤ 12 := by
    rw [vi9]
    exact ⟨rd_low hm.1 hm.2 lb.1, Int.le_trans (rd_le hm.1 hm.2).1 lb.2⟩
  have bc := bad_c (rws := rws) (row := row) (i := i) vin
  obtain ⟨nv2, nT, nS⟩ := lc.lf.t
  obtain ⟨fv, pT, pF⟩ := ps.p
  obtain ⟨lv, lL, lI⟩ := lc.l
  obtain ⟨vv, vL, vI⟩ := lc.v
  obtain ⟨tx, ex⟩ := nS.2 i _ (getD_str (l := (kcI rws).nms) (by rw [kcI_nl]; exact hi))
  have n2z : nv2.length = nN rws := by rw [nS.1]; exact kcI_nl rws
  have fvz : fv.length = nN rws := by rw [pF.1, kcI_nl]
  have lvz : lv.length = nN rws := by rw [lI.length]; exact sls.l
  have vvz : vv.length = nN rws := by rw [vI.length]; exact vl
  have nvz : nv.length = nN rws := by rw [nI.length, rwl]
  obtain ⟨tl, el⟩ := ints_at lI (j := i) (by rw [sls.l]; exact hi)
  obtain ⟨tu, eu⟩ := ints_at vI (j := i) (by omega)
  have ef : fv[i]? = some fv[i] := List.getElem?_eq_getElem (by omega)
  generalize hB : (c1E rws row i ((ls.map (rd (mM rws))).getD i 0) || c2E rws row i ((ls.map (rd (mM rws))).getD i 0)) = B at H bc
  have stp : ∀ {Q E}, (¬ B = true → ∀ t' g' h', Le g g' → Hp C.w.params g' ((L, .frm lwX (lfE v0 (some (.int i ti)) v4 v5 v6 rws t1 sl k fa la x a1 pa st w14 w15 z nd (some (.bool (!B))) wt)) :: (nd, .lst nv) :: celE ca rl tv ts ua va ka rws tm X0) h' → Q (.int ((ls.map (rd (mM rws))).getD i 0) t') h') →
      (B = true → ∀ e g' h', Le g g' → Ex C.w.params (.type "ValueError") e (some .none) g' ((L, .frm lwX (lfE v0 (some (.int i ti)) v4 v5 v6 rws t1 sl k fa la x a1 pa st w14 w15 z nd (some (.bool (!B))) wt)) :: (nd, .lst nv) :: celE ca rl tv ts ua va ka rws tm X0) h' → E (.ref e) h') →
      ∀ {h}, Hp C.w.params g ((L, .frm lwX (lfE v0 (some (.int i ti)) v4 v5 v6 rws t1 sl k fa la x a1 pa st w14 w15 z nd (some (.bool (!B))) wt)) :: (nd, .lst nv) :: celE ca rl tv ts ua va ka rws tm X0) h → W C A (call (.ref st) [.ref z, fv[i], .int (ls.getD i 0) tl]) Q E h := by
    intro Q E q1 q2 h H
    refine stepW (n := n + 4) H Wd (by k_search "stk") r lc.lf lc.kd ps.s pF ef thz (by omega) ?_ ?_
    · intro nb t' g' h' l H
      rw [← vi9] at nb ⊢
      exact q1 (fun b => nb (bc.mpr b)) t' g' h' l H
    · intro b
      rw [← vi9] at b
      exact q2 (bc.mp b)
  refine W_nxb (ss' := body26.drop 4) rfl (W_Try (L := L) sub_ve_b nt_ve ?_)
  k_search "tt"
  refine W_sub_tupN (j := i) (pT.up H.le) rfl ef (by omega) ?_
  k_search "tt"
  refine W_sub_listN (j := i) (lL.up H.le) rfl el (by omega) ?_
  k_search "tt"
  refine ⟨ps.s.kpr H.le, ?_⟩
  dsimp only [List.nil_append, List.zip, List.zipWith, namesOf, Option.toList]
  refine stp ?_ ?_ H
  · intro nb t9 g4 h4 l4 H
    obtain rfl : B = false := by cases B; rfl; exact absurd rfl nb
    replace Wd := Wd.up l4
    replace lc := lc.up l4
    replace ps := ps.up l4
    replace thz := thz.up l4
    rw [Bool.not_false] at H
    k_search "tt"
    refine W_nxb (ss' := body26.drop 5) rfl ?_
    k_search "tt"
    refine W_neb ?_
    k_search "tt"
    refine W_nxb (ss' := []) rfl ?_
    k_search "tt"
    refine W_sub_listN (j := i) ((vL.up l4).up H.le) rfl eu (by omega) ?_
    k_search "tt"
    refine W_setItemL (i := i) H (by k_search "up") rfl (by omega) (by omega) ?_
    intro h5 H
    k_search "tt"
    refine W_newList H (by simp) ?_
    intro D0 h6 H
    replace H := H.swap
    obtain ⟨g5, l5, s5, H9⟩ := H.give
    clear H
    have H := H9
    clear H9
    have s5 : Lst g5 D0 [.ref z] := s5
    replace Wd := Wd.up l5
    replace lc := lc.up l5
    replace thz := thz.up l5
    k_search "tt"
    refine W_Dict1 H Wd ?_
    intro D1 h7 H
    k_search "tt"
    refine W_sub_tupN (j := i) (((nT.up l4).up l5).up H.le) rfl ex (by omega) ?_
    k_search "tt"
    refine ⟨_, tx, _, _, _, rfl, H, fun h8 H => ?_⟩
    obtain ⟨g6, l6, s6, H9⟩ := H.give
    clear H
    have H := H9
    clear H9
    have s6 : Sd C.w.params g6 D1 [(kcI rws).nms.getD i Str.empty] [.int ((ls.map (rd (mM rws))).getD i 0) t9] := s6
    replace Wd := Wd.up l6
    replace lc := lc.up l6
    replace thz := thz.up l6
    k_search "tt"
    refine assocW (n := n + 3) H Wd (by k_search "stk") r lc.kd thz rwl hi (s5.up l6) s6 ?_
    intro z' g7 h9 l7 thz' H
    k_search "tt"
    exact q _ _ z' _ _ g7 _ (l4.trans (l5.trans (l6.trans l7))) thz' (ints_setL nI) (rr.set vb vr) H
  · intro b e g4 h4 l4 X
    subst b
    replace Wd := Wd.up l4
    have sub : ∀ {ff : List (Option Value)} (p : Addr × Sp), p ∈ X0 → p ∈ (L, .frm lwX ff) :: (nd, .lst nv) :: celE ca rl tv ts ua va ka rws tm X0 := fun p9 hp9 => by
      repeat (first | exact hp9 | apply List.mem_cons_of_mem)
    refine ⟨e, "ValueError", _, g4, _, rfl, sub_ve, X, .inr (.inl rfl), Sb.sf S (.head _) sub, fun h1 X => ?_⟩
    have H := X.H
    k_search "tt"
    refine ⟨rfl, _, g4, _, X, fun h3 X => ?_⟩
    have H := X.H
    rw [Bool.not_true] at H
    k_search "tt"
    refine W_nxb (ss' := body26.drop 5) rfl ?_
    k_search "tt"
    refine W_neb ?_
    k_search "tt"
    refine W_nxb (ss' := []) rfl ?_
    k_search "tt"
    exact q _ _ z _ _ g4 _ l4 (thz.up l4) nI rr H
end

end
section
set_option maxHeartbeats 4000000
section
variable {C : Cfg} {A : Around} {g h : Heap} {V : Led} {n : Nat} {R : Result → Heap → Prop}
theorem segE1 {en : Env} {L rl tv ts sl k fa la ua va ka x a1 pa st nd : Addr} {ca : Nat → Addr} {v0 v2 v4 v5 v6 w14 w15 : Option Value} {rws fs ls ks : List Int} {nv : List Value} {t1 tm : Tok} (F : Fe en L lawN lwX (lwC ca)) (Fq : en.qual = Str.ofString "law.<locals>.") (Fc : en.code = .ref 609) (S : Sb A en L V) (r : Rm A (n + 8)) (Wd : Wld C g) (mt : (607, .tab lamQ) ∈ V)
    (lc : LcF C.w.params g rws rl tv ts sl k fa la ua va fs ls) (ps : Ps C.w.params g rws tv pa st) (thx : Th C.w.params g x (.ref k) (kcI rws).nms (fs.map (rd (mM rws)))) (sf : Srt rws fs) (sls : Srt rws ls) (kI : Il g ka ks) (kl : ks.length = nN rws) (nI : IntsAre nv (fs.map (rd (mM rws))))
    (H : Hp C.w.params g ((L, .frm lwX (lfE v0 v2 v4 v5 v6 rws t1 sl k fa la x a1 pa st w14 w15 x nd none none)) :: (nd, .lst nv) :: celE ca rl tv ts ua va ka rws tm V) h)
    (q : ∀ vi ww wt z row nv' g' h', Le g g' → Th C.w.params g' z (.ref k) (kcI rws).nms row → IntsAre nv' row → Rdd rws row → Hp C.w.params g' ((L, .frm lwX (lfE v0 vi v4 v5 v6 rws t1 sl k fa la x a1 pa st w14 w15 z nd ww wt)) :: (nd, .lst nv') :: celE ca rl tv ts ua va ka rws tm V) h' → LB C A en R 27 h') : LB C A en R 26 h := by
  dsimp only [celE, lfE, lfD] at H
  obtain ⟨eN, n2, n4⟩ := nN_eq rws
  obtain ⟨kv, kL, kI⟩ := kI
  have kvl : kv.length = nN rws := by rw [kI.length, kl]
  refine W_nxt 26 rfl ?_
  refine W_For ?_ (fun _ => rfl)
  k_search "tt"
  refine W_range1 H ?_
  intro rg g1 h1 l1 Rg1 H
  replace Wd := Wd.up l1
  k_search "tt"
  refine W_Lambda rfl ?_
  refine W_makeFnE (c := 609) (P := 607) (q := lamQ) (clos := [(Str.ofString "keys", ca 8)]) H Wd F.glob Fc (by decide) (by k_search "mt") (by rw [F.cells]; kernel_rfl) (fun p a b => by rw [Fq]; kernel_rfl) ?_
  intro f g2 h2 l2 fo H
  replace Wd := Wd.up l2
  have l12 := l1.trans l2
  replace lc := lc.up l12
  replace ps := ps.up l12
  replace thx := thx.up l12
  replace kL := kL.up l12
  k_search "tt"
  refine W_sortedK (n := nN rws) r.hd H (Rg1.up l2) rfl n2 n4 ?_ ?_
  · intro i t p1 p2 g3 h3 hi l3 H
    replace Wd := Wd.up l3
    replace kL := kL.up l3
    obtain ⟨pm, cdv, ctv, e, rc⟩ := fo.up l3
    have r9 : Rm A.in1.in1 (n + 6) := Rm.in1 (Rm.in1 r)
    refine W_call ?_
    refine CW_fnE (xs := [Str.ofString "k"]) (binds := [(Str.ofString "k", .int (i : Int) t)]) (vs := [some (.int (i : Int) t)]) (n := n + 5) H Wd (by show Stk A _; k_search "stk") r9 e rfl rc rfl (Looks.of_pure (by kernel_rfl)) rfl ⟨rfl, rfl⟩ ⟨⟨rfl, rfl⟩, rfl⟩ (by kernel_rfl) (by kernel_rfl) (by kernel_rfl) (by decide +kernel) (by kernel_rfl) ?_
    k_search "in"
    k_search "tt"
    obtain ⟨t4, e4⟩ := ints_at kI (j := i) (by omega)
    refine W_sub_listN (j := i) (kL.up H.le) rfl e4 (by omega) ?_
    k_search "tt"
    refine W_newTuple H (by simp) ?_
    intro tp g4 h5 l4 T4 H
    exact ⟨g4, l4, ⟨tp, _, _, _, _, rfl, T4⟩, H.drop⟩
  · intro D p out g3 h3 l3 pp oi H
    replace H := H.swap
    obtain ⟨g4, l4, s4, H9⟩ := H.give
    clear H
    have H := H9
    clear H9
    have s4 : Lst g4 D out := s4
    have l34 := l3.trans l4
    replace Wd := Wd.up l34
    replace lc := lc.up l34
    replace ps := ps.up l34
    replace thx := thx.up l34
    have ol : out.length = p.length := by rw [oi.length]; simp
    have pl : p.length = nN rws := by rw [pp.length_eq]; simp
    k_search "tt"
    refine W_iter_list r.hd s4 H ?_
    intro it h5 IT H
    refine CW_for (R := fun _ _ => True) (IT _ _) (fun j g' V' => Le g4 g' ∧ ∃ vi ww wt z row nv, Th C.w.params g' z (.ref k) (kcI rws).nms row ∧ IntsAre nv row ∧ Rdd rws row ∧
      V' = (L, .frm lwX (lfE v0 vi v4 v5 v6 rws t1 sl k fa la x a1 pa st w14 w15 z nd ww wt)) :: (nd, .lst nv) :: celE ca rl tv ts ua va ka rws tm V) ?_ H (Le.refl g4) ⟨Le.refl g4, _, none, none, x, _, nv, thx, nI, sf.rdd, rfl⟩ ?_ ?_
    · rintro i g g' V1 l ⟨a, vi, ww, wt, z, row, nv, b, c⟩
      exact ⟨a.trans l, vi, ww, wt, z, row, nv, b.up l, c⟩
    · rintro j g5 V1 h6 v le5 hj ⟨_, vi, ww, wt, z, row, nv, thz, nI, rr, rfl⟩ hy H
      dsimp only [List.cons_append] at H
      obtain ⟨hj2, ti, rfl⟩ := ints_get (ns := nInts p) oi hy
      have hj3 : j < p.length := by omega
      have ej : p[j]? = some p[j] := List.getElem?_eq_getElem hj3
      obtain ⟨i, ei⟩ : ∃ i, p[j] = i := ⟨_, rfl⟩
      rw [ei] at ej
      have hi : i < nN rws := List.mem_range.mp (pp.mem_iff.mp (List.mem_of_getElem? ej))
      rw [nInts_getD ej]
      replace Wd := Wd.up le5
      replace lc := lc.up le5
      replace ps := ps.up le5
      refine W_as_Name (W_bindL F H (by k_search "st") ?_)
      clear H
      intro h7 H
      have Sx : Sb A en L (V ++ [(it, Sp.any fun o => o.cls = Value.type "list_iterator" ∧ o.data = Data.fields #[Value.ref D, Value.int ((j + 1 : Nat) : Int) 0])]) := by
        obtain ⟨envs, a, b, c, d⟩ := S
        exact ⟨envs, a, b, c, fun e he => let ⟨x, y⟩ := d e he; ⟨x, let ⟨L', xs, vs, p, q⟩ := y; ⟨L', xs, vs, p, List.mem_append_left _ q⟩⟩⟩
      refine turnE1 (n := n + 2) F Sx r Wd lc sls hi nI rr H ?_
      intro h8 H
      refine turnE2 (n := n) F Sx r Wd lc ps sls hi nI rr thz H ?_
      intro ww' wt' z' row' nv' g6 h9 l6 thz' nI' rr' H
      exact ⟨g6, _, l6, ⟨le5.trans l6, _, ww', wt', z', row', nv', thz', nI', rr', rfl⟩, H⟩
    · rintro g5 V1 h6 le5 ⟨_, vi, ww, wt, z, row, nv, thz, nI, rr, rfl⟩ H
      k_search "tt"
      exact q vi ww wt z row nv g5 _ (l12.trans (l34.trans le5)) thz nI rr H
end

end
section
set_option maxHeartbeats 4000000
section
variable {C : Cfg} {A : Around} {g h : Heap} {V : Led} {n : Nat} {R : Result → Heap → Prop}
theorem changedW {rws row er ws : List Int} {rl tv ts sl k z cd : Addr} {ks : List Str} {vs : List Value} {E : Value → Heap → Prop} {Q : Value → Heap → Prop} (H : Hp C.w.params g V h) (Wd : Wld C g) (S : Stk A V) (r : Rm A (n + 7)) (lf : Lf C.w.params g rws rl tv ts sl) (kd : Kd C.w.params g k tv (kcI rws)) (pz : Th C.w.params g z (.ref k) (kcI rws).nms row) (hb : ∀ w ∈ row, w.natAbs < 50)
    (pc : Sd C.w.params g cd ks vs) (hi : IntsAre vs ws) (nd : ks.Nodup) (kz : ks.length ≤ 50) (hin : ∀ x ∈ ks, x ∈ (kcI rws).shs) (hw : ∀ w ∈ ws, w.natAbs < 50) (ee : eRow (kcI rws) ks ws row = er) (el : er.length = nN rws)
    (q1 : rightI er = true → ∀ z' g' h', Le g g' → Th C.w.params g' z' (.ref k) (kcI rws).nms er → Hp C.w.params g' V h' → Q (.ref z') h')
    (q2 : rightI er = false → ∀ g' h', Le g g' → Hp C.w.params g' V h' → Q .none h') : W C A (call (.ref 605) [.ref z, .ref cd]) Q E h := by
  obtain ⟨nv, nT, nS⟩ := lf.t
  subst ee
  have pr := passes_right (rws := rws) el
  refine W_call (changed_ok (n := n) (kcI_ok rws) H Wd S r kd nT nS pz pc hi nd kz hin (fun w m => by have := hw w m; omega) (fun w m => by have := hb w m; omega) (fun m => law_self.1 (List.mem_of_mem_take m)) ?_ ?_)
  · intro e z' g' h' l t H
    exact q1 (by rw [← pr]; exact e) z' g' h' l t H
  · intro e g' h' l H
    exact q2 (by rw [← pr]; exact e) g' h' l H
theorem passesW {rws row : List Int} {rl tv ts sl k z : Addr} {E : Value → Heap → Prop} {Q : Value → Heap → Prop} (H : Hp C.w.params g V h) (Wd : Wld C g) (S : Stk A V) (r : Rm A (n + 4)) (lf : Lf C.w.params g rws rl tv ts sl) (kd : Kd C.w.params g k tv (kcI rws)) (pz : Th C.w.params g z (.ref k) (kcI rws).nms row) (hb : ∀ w ∈ row, w.natAbs < 50) (hl : row.length = nN rws)
    (q : ∀ g' h', Le g g' → Hp C.w.params g' V h' → Q (.bool (rightI row)) h') : W C A (call (.ref 598) [.ref z]) Q E h := by
  obtain ⟨nv, nT, nS⟩ := lf.t
  refine W_call (passes_ok (n := n) (kcI_ok rws) H Wd S r kd pz nT nS (fun w m => by have := hb w m; omega) ?_)
  intro g' h' l H
  rw [passes_right hl]
  exact q g' h' l H
theorem rightW {rws row : List Int} {ra : Addr} {E : Value → Heap → Prop} {Q : Value → Heap → Prop} (H : Hp C.w.params g V h) (Wd : Wld C g) (S : Stk A V) (r : Rm A (n + 1)) (p : Il g ra row) (hl : row.length = nN rws)
    (q : ∀ g' h', Le g g' → Hp C.w.params g' V h' → Q (.bool (rightI row)) h') : W C A (call (.ref 586) [.ref ra]) Q E h := by
  have := nN_eq rws
  obtain ⟨rv, rL, rI⟩ := p
  exact W_call (right_ok (n := n) H Wd S r rL rI (by omega) (by omega) q)
theorem segE2 {en : Env} {L rl tv ts sl k fa la ua va ka x a1 pa st z nd : Addr} {ca : Nat → Addr} {v0 v2 v4 v5 v6 w14 w15 ww wt : Option Value} {rws fs ls row : List Int} {nv : List Value} {t1 tm : Tok} (F : Fe en L lawN lwX (lwC ca)) (S : Sb A en L V) (r : Rm A (n + 8)) (Wd : Wld C g)
    (lc : LcF C.w.params g rws rl tv ts sl k fa la ua va fs ls) (thz : Th C.w.params g z (.ref k) (kcI rws).nms row) (nI : IntsAre nv row) (rr : Rdd rws row)
    (H : Hp C.w.params g ((L, .frm lwX (lfE v0 v2 v4 v5 v6 rws t1 sl k fa la x a1 pa st w14 w15 z nd ww wt)) :: (nd, .lst nv) :: celE ca rl tv ts ua va ka rws tm V) h)
    (q : ∀ w20 g' h', Le g g' → Hp C.w.params g' ((L, .frm lwX (lfD v0 v2 v4 v5 v6 rws t1 sl k fa la x a1 (some (.ref pa)) (some (.ref st)) w14 w15 (some (.ref z)) (some (.ref nd)) ww wt w20 none none none none none none none none none)) :: celE ca rl tv ts ua va ka rws tm V) h' → LB C A en R 31 h') : LB C A en R 27 h := by
  dsimp only [celE, lfE, lfD] at H
  obtain ⟨eN, n2, n4⟩ := nN_eq rws
  obtain ⟨g0, l0, s0, H9⟩ := H.give
  clear H
  have H := H9
  clear H9
  have s0 : Lst g0 nd nv := s0
  replace Wd := Wd.up l0
  replace lc := lc.up l0
  replace thz := thz.up l0
  have nil0 : Il g0 nd row := ⟨nv, s0, nI⟩
  refine W_nxt 27 rfl ?_
  k_search "tt"
  refine W_Dict0 H Wd ?_
  intro D1 h1 H
  replace H := H.swap
  obtain ⟨g1, l1, s1, H9⟩ := H.give
  clear H
  have H := H9
  clear H9
  have s1 : Sd C.w.params g1 D1 [] [] := s1
  replace Wd := Wd.up l1
  replace lc := lc.up l1
  replace thz := thz.up l1
  replace nil0 := nil0.up l1
  k_search "tt"
  have l01 := l0.trans l1
  refine changedW (n := n + 1) H Wd (by k_search "stk") r lc.lf lc.kd thz rr.b s1 .nil (by simp) (by simp) (by simp) (by simp) ((eRow_nil rr.l).trans rr.map) rr.l ?_ ?_
  · intro e za g2 h2 l2 tha H
    replace Wd := Wd.up l2
    replace lc := lc.up l2
    replace thz := thz.up l2
    replace nil0 := nil0.up l2
    k_search "tt"
    refine W_nxt 28 rfl ?_
    k_search "tt"
    refine holdsW (n := n + 7) H Wd (by k_search "stk") r lc.lf thz nil0 rr.l rr.b ?_
    intro g3 h3 l3 H
    replace Wd := Wd.up l3
    replace lc := lc.up l3
    replace thz := thz.up l3
    replace nil0 := nil0.up l3
    k_search "tt"
    refine passesW (n := n + 4) H Wd (by k_search "stk") r lc.lf lc.kd thz rr.b rr.l ?_
    intro g4 h4 l4 H
    replace Wd := Wd.up l4
    replace lc := lc.up l4
    replace thz := thz.up l4
    replace nil0 := nil0.up l4
    k_search "tt"
    refine rightW (rws := rws) (n := n + 7) H Wd (by k_search "stk") r nil0 rr.l ?_
    intro g5 h5 l5 H
    replace Wd := Wd.up l5
    replace lc := lc.up l5
    replace thz := thz.up l5
    replace nil0 := nil0.up l5
    refine W_neb ?_
    rw [show (rightI row != rightI row) = false from by simp]
    k_search "tt"
    refine W_nxt 29 rfl ?_
    k_search "tt"
    refine rightW (rws := rws) (n := n + 7) H Wd (by k_search "stk") r nil0 rr.l ?_
    intro g6 h6 l6 H
    replace Wd := Wd.up l6
    replace lc := lc.up l6
    replace thz := thz.up l6
    replace nil0 := nil0.up l6
    refine W_neb ?_
    rw [e]
    k_search "tt"
    refine W_nxt 30 rfl ?_
    k_search "tt"
    have l26 := l3.trans (l4.trans (l5.trans l6))
    replace tha := tha.up l26
    refine holdsW (n := n + 7) H Wd (by k_search "stk") r lc.lf tha nil0 rr.l rr.b ?_
    intro g7 h7 l7 H
    replace Wd := Wd.up l7
    replace lc := lc.up l7
    replace thz := thz.up l7
    replace tha := tha.up l7
    k_search "tt"
    refine eqW (n := n + 6) H Wd (by k_search "stk") r lc.kd tha thz ?_
    intro g8 h8 l8 H
    rw [decide_eq_true rfl]
    k_search "tt"
    exact q _ g8 _ (l01.trans (l2.trans (l26.trans (l7.trans l8)))) H
  · intro e g2 h2 l2 H
    replace Wd := Wd.up l2
    replace lc := lc.up l2
    replace thz := thz.up l2
    replace nil0 := nil0.up l2
    k_search "tt"
    refine W_nxt 28 rfl ?_
    k_search "tt"
    refine holdsW (n := n + 7) H Wd (by k_search "stk") r lc.lf thz nil0 rr.l rr.b ?_
    intro g3 h3 l3 H
    replace Wd := Wd.up l3
    replace lc := lc.up l3
    replace thz := thz.up l3
    replace nil0 := nil0.up l3
    k_search "tt"
    refine passesW (n := n + 4) H Wd (by k_search "stk") r lc.lf lc.kd thz rr.b rr.l ?_
    intro g4 h4 l4 H
    replace Wd := Wd.up l4
    replace lc := lc.up l4
    replace thz := thz.up l4
    replace nil0 := nil0.up l4
    k_search "tt"
    refine rightW (rws := rws) (n := n + 7) H Wd (by k_search "stk") r nil0 rr.l ?_
    intro g5 h5 l5 H
    replace Wd := Wd.up l5
    replace lc := lc.up l5
    replace thz := thz.up l5
    replace nil0 := nil0.up l5
    refine W_neb ?_
    rw [show (rightI row != rightI row) = false from by simp]
    k_search "tt"
    refine W_nxt 29 rfl ?_
    k_search "tt"
    refine rightW (rws := rws) (n := n + 7) H Wd (by k_search "stk") r nil0 rr.l ?_
    intro g6 h6 l6 H
    replace Wd := Wd.up l6
    replace lc := lc.up l6
    replace thz := thz.up l6
    replace nil0 := nil0.up l6
    refine W_neb ?_
    rw [e]
    k_search "tt"
    refine W_nxt 30 rfl ?_
    k_search "tt"
    have l26 := l3.trans (l4.trans (l5.trans l6))
    exact q _ g6 _ (l01.trans (l2.trans l26)) H
end

end
section
set_option maxHeartbeats 4000000
section
variable {C : Cfg} {A : Around} {g h : Heap} {V : Led} {n : Nat} {R : Result → Heap → Prop}
def flgI (rws : List Int) : List Int := (List.range (nN rws)).map fun (i : Nat) => drawI rws (18 + (i : Int)) 2
def rawI (rws : List Int) : List Int := (List.range (nN rws)).map fun (i : Nat) => drawI rws (22 + (i : Int)) 29 - 14
def flF (rws : List Int) (i : Nat) : Bool := (flgI rws).getD i 0 != 0
theorem raw_b {rws : List Int} : ∀ x ∈ rawI rws, -14 ≤ x ∧ x ≤ 14 := fun x hx => by
  obtain ⟨i, _, rfl⟩ := List.mem_map.mp hx
  have := draw_range rws (22 + (i : Int)) (m := 29) (by omega)
  omega
theorem raw_l {rws : List Int} : (rawI rws).length = nN rws := by simp [rawI]
theorem flg_l {rws : List Int} : (flgI rws).length = nN rws := by simp [flgI]
theorem laid_l {n : Nat} {fl : Nat → Bool} {a b : List Int} : (laidI n fl a b).length = n := by simp [laidI]
theorem laid_b {rws u : List Int} {fl : Nat → Bool} (hu : Rdd rws u) : ∀ x ∈ laidI (nN rws) fl (rawI rws) u, x.natAbs < 40 ∨ x.natAbs < 50 := fun x hx => by
  obtain ⟨i, hi, rfl⟩ := List.mem_map.mp hx
  have hi := List.mem_range.mp hi
  split
  · have := raw_b _ (getD_mem (l := rawI rws) (i := i) (by rw [raw_l]; exact hi))
    omega
  · exact .inr (hu.b _ (getD_mem (by rw [hu.l]; exact hi)))
theorem srt12 {rws fs : List Int} (s : Srt rws fs) : ∀ x ∈ fs.map (rd (mM rws)), x.natAbs < 20 := fun x hx => by
  have hm := mM_eq rws
  obtain ⟨y, hy, rfl⟩ := List.mem_map.mp hx
  have := s.b y hy
  have := rd_le (v := y) hm.1 hm.2
  omega
theorem laid_b2 {rws fs : List Int} {fl : Nat → Bool} (s : Srt rws fs) : ∀ x ∈ laidI (nN rws) fl (rawI rws) (fs.map (rd (mM rws))), x.natAbs < 20 := fun x hx => by
  obtain ⟨i, hi, rfl⟩ := List.mem_map.mp hx
  have hi := List.mem_range.mp hi
  split
  · have := raw_b _ (getD_mem (l := rawI rws) (i := i) (by rw [raw_l]; exact hi))
    omega
  · exact srt12 s _ (getD_mem (by rw [s.rdd.l]; exact hi))
theorem due_rdd {rws l : List Int} (hl : l.length = nN rws) (hb : ∀ x ∈ l, x.natAbs < 20) : Rdd rws (l.map (rd (mM rws))) := by
  have hm := mM_eq rws
  refine ⟨by rw [List.length_map, hl], fun x hx => ?_, fun x hx => ?_⟩
  · obtain ⟨y, hy, rfl⟩ := List.mem_map.mp hx
    have := hb y hy
    have := rd_le (v := y) hm.1 hm.2
    omega
  · obtain ⟨y, hy, rfl⟩ := List.mem_map.mp hx
    exact rd_rd hm.1 hm.2
abbrev celF (ca : Nat → Addr) (rl tv ts ua va ra fla : Addr) (c8 : Option Value) (rws : List Int) (tm : Tok) (V : Led) : Led := (ca 8, .cell c8) :: (ca 7, .cell (some (.ref ra))) :: (ca 6, .cell (some (.ref fla))) :: (ca 5, .cell (some (.ref va))) :: (ca 4, .cell (some (.ref ua))) :: (ca 3, .cell (some (.ref ts))) :: (ca 2, .cell (some (.ref tv))) :: (ca 1, .cell (some (.int (mM rws) tm))) :: (ca 0, .cell (some (.ref rl))) :: V
structure Lg (g : Heap) (rws fs : List Int) (ra fla da ea : Addr) : Prop where
  r : Il g ra (rawI rws)
  f : Il g fla (flgI rws)
  d : Il g da (laidI (nN rws) (flF rws) (rawI rws) (fs.map (rd (mM rws))))
  e : Il g ea ((laidI (nN rws) (flF rws) (rawI rws) (fs.map (rd (mM rws)))).map (rd (mM rws)))
theorem Lg.up {g g' : Heap} {rws fs : List Int} {ra fla da ea : Addr} (x : Lg g rws fs ra fla da ea) (le : Le g g') : Lg g' rws fs ra fla da ea := ⟨x.r.up le, x.f.up le, x.d.up le, x.e.up le⟩
theorem segF0 {en : Env} {L rl tv ts sl k fa la ua va ka x a1 : Addr} {ca : Nat → Addr} {v0 v2 v4 v5 v6 w12 w13 w14 w15 w16 w17 w18 w19 w20 : Option Value} {rws fs ls : List Int} {t1 tm : Tok} (F : Fe en L lawN lwX (lwC ca)) (S : Sb A en L V) (r : Rm A (n + 8)) (Wd : Wld C g) (h0 : 0 < rws.length) (h64 : rws.length < 64)
    (lc : LcF C.w.params g rws rl tv ts sl k fa la ua va fs ls) (sf : Srt rws fs)
    (H : Hp C.w.params g ((L, .frm lwX (lfD v0 v2 v4 v5 v6 rws t1 sl k fa la x a1 w12 w13 w14 w15 w16 w17 w18 w19 w20 none none none none none none none none none)) :: celE ca rl tv ts ua va ka rws tm V) h)
    (q : ∀ ra fla da ea g' h', Le g g' → Lg g' rws fs ra fla da ea → Hp C.w.params g' ((L, .frm lwX (lfD v0 v2 v4 v5 v6 rws t1 sl k fa la x a1 w12 w13 w14 w15 w16 w17 w18 w19 w20 (some (.ref da)) (some (.ref ea)) none none none none none none none)) :: celF ca rl tv ts ua va ra fla (some (.ref ka)) rws tm V) h' → LB C A en R 35 h') : LB C A en R 31 h := by
  dsimp only [celE, lfD] at H
  obtain ⟨eN, n2, n4⟩ := nN_eq rws
  have hm := mM_eq rws
  obtain ⟨rv, p1, hi⟩ := lc.lf.r
  obtain ⟨uv, uL, uI⟩ := lc.u
  have ul : (fs.map (rd (mM rws))).length = nN rws := sf.rdd.l
  have uvl : uv.length = nN rws := by rw [uI.length]; exact ul
  refine W_nxt 31 rfl ?_
  refine W_Assign ?_ (F.env (P := fun en => swapsWith _ _ _ en = pure false) fun _ _ _ _ _ _ _ _ _ _ _ => by kernel_rfl) rfl rfl
  refine W_ListComp (cl' := [(Str.ofString "rows", ca 0)]) (cxs := [Str.ofString "i"]) F ⟨rfl, by kernel_rfl, rfl, by kernel_rfl, by kernel_rfl, by decide +kernel⟩ ?_ (fun _ => rfl)
  k_search "tt"
  refine W_range1 H ?_
  intro rg ga h9 la9 Rg9 H
  replace Wd := Wd.up la9
  replace p1 := p1.up la9
  refine W_iter_rangeN (n := nN rws) r.hd Rg9 rfl (by omega) H ?_
  intro it S9 h9 IT H
  refine ⟨_, nN rws, _, _, ga, fun i _ acc => acc.length = i ∧ IntsAre acc ((List.range i).map fun (i : Nat) => drawI rws (18 + (i : Int)) 2), IT _ _, by omega, H, ⟨rfl, .nil⟩, fun _ _ _ _ _ e => e, ?_, ?_⟩
  · rintro i g' acc Cf D cen cvs v h3 le hi2 ⟨al, ai⟩ ⟨ti, rfl⟩ F H
    obtain ⟨cv, rfl⟩ := one_of H
    replace Wd := Wd.up le
    replace p1 := p1.up le
    dsimp only [List.cons_append] at H
    k_search "tt"
    refine W_call (draw_ok (n := n + 7) H Wd (by k_search "stk") r p1 hi h0 h64 (by omega) (by omega) (by omega) ?_)
    intro t9 h9 H
    k_search "tt"
    refine ⟨g', _, Le.refl g', ⟨by simp [al], ?_⟩, H⟩
    rw [List.range_succ, List.map_append]
    exact ints_snocT ai
  rintro gb D1 acc1 lb ⟨al1, ai1⟩
  intro h9 H
  replace H := H.swap
  obtain ⟨gc1, lc1, s1, H9⟩ := H.give
  clear H
  have H := H9
  clear H9
  have s1 : Lst gc1 D1 acc1 := s1
  have l1 := la9.trans (lb.trans lc1)
  replace Wd := (Wd.up lb).up lc1
  replace p1 := (p1.up lb).up lc1
  replace uL := uL.up l1
  k_search "tt"
  k_search "bc"
  k_search "tt"
  refine W_nxt 32 rfl ?_
  refine W_Assign ?_ (F.env (P := fun en => swapsWith _ _ _ en = pure false) fun _ _ _ _ _ _ _ _ _ _ _ => by kernel_rfl) rfl rfl
  refine W_ListComp (cl' := [(Str.ofString "rows", ca 0)]) (cxs := [Str.ofString "i"]) F ⟨rfl, by kernel_rfl, rfl, by kernel_rfl, by kernel_rfl, by decide +kernel⟩ ?_ (fun _ => rfl)
  k_search "tt"
  refine W_range1 H ?_
  intro rg ga h9 la9 Rg9 H
  replace Wd := Wd.up la9
  replace p1 := p1.up la9
  refine W_iter_rangeN (n := nN rws) r.hd Rg9 rfl (by omega) H ?_
  intro it S9 h9 IT H
  refine ⟨_, nN rws, _, _, ga, fun i _ acc => acc.length = i ∧ IntsAre acc ((List.range i).map fun (i : Nat) => drawI rws (22 + (i : Int)) 29 - 14), IT _ _, by omega, H, ⟨rfl, .nil⟩, fun _ _ _ _ _ e => e, ?_, ?_⟩
  · rintro i g' acc Cf D cen cvs v h3 le hi2 ⟨al, ai⟩ ⟨ti, rfl⟩ F H
    obtain ⟨cv, rfl⟩ := one_of H
    replace Wd := Wd.up le
    replace p1 := p1.up le
    dsimp only [List.cons_append] at H
    k_search "tt"
    refine W_call (draw_ok (n := n + 7) H Wd (by k_search "stk") r p1 hi h0 h64 (by omega) (by omega) (by omega) ?_)
    intro t9 h9 H
    k_search "tt"
    refine ⟨g', _, Le.refl g', ⟨by simp [al], ?_⟩, H⟩
    rw [List.range_succ, List.map_append]
    exact ints_snocT ai
  rintro gb D2 acc2 lb ⟨al2, ai2⟩
  intro h9 H
  replace H := H.swap
  obtain ⟨gc2, lc2, s2, H9⟩ := H.give
  clear H
  have H := H9
  clear H9
  have s2 : Lst gc2 D2 acc2 := s2
  have l2 := la9.trans (lb.trans lc2)
  replace Wd := (Wd.up lb).up lc2
  replace p1 := (p1.up lb).up lc2
  replace uL := uL.up l2
  replace s1 := s1.up l2
  k_search "tt"
  k_search "bc"
  k_search "tt"
  have fI : IntsAre acc1 (flgI rws) := ai1
  have rI : IntsAre acc2 (rawI rws) := ai2
  refine W_nxt 33 rfl ?_
  refine W_AssignLC (cl' := [(Str.ofString "u", ca 4), (Str.ofString "raw", ca 7), (Str.ofString "flags", ca 6)]) (cxs := [Str.ofString "i"]) F ⟨rfl, by kernel_rfl, rfl, by kernel_rfl, by kernel_rfl, by decide +kernel⟩ (F.env (P := fun en => swapsWith _ _ _ en = pure true) fun _ _ _ _ _ _ _ _ _ _ _ => by kernel_rfl) ?_ (fun _ => rfl)
  k_search "tt"
  refine W_range1 H ?_
  intro rg gd h9 ld Rg9 H
  refine W_iter_rangeN (n := nN rws) r.hd Rg9 rfl (by omega) H ?_
  intro it S9 h9 IT H
  refine ⟨_, _, nN rws, _, _, gd, fun i _ acc => acc.length = i ∧ IntsAre acc ((List.range i).map fun i => if flF rws i then (rawI rws).getD i 0 else (fs.map (rd (mM rws))).getD i 0), IT _ _, by omega, H, ⟨rfl, .nil⟩, fun _ _ _ _ _ e => e, ?_, ?_⟩
  · rintro i g' acc Cf D cen cvs v h3 le hi2 ⟨al, ai⟩ ⟨ti, rfl⟩ F H
    obtain ⟨cv, rfl⟩ := one_of H
    replace Wd := (Wd.up ld).up le
    have s1' := (s1.up ld).up le
    have s2' := (s2.up ld).up le
    have uL' := (uL.up ld).up le
    dsimp only [List.cons_append] at H
    k_search "tt"
    obtain ⟨tf, ef⟩ := ints_at fI (j := i) (by rw [flg_l]; exact hi2)
    refine W_sub_listN (j := i) (s1'.up H.le) rfl ef (by omega) ?_
    k_search "tt"
    refine W_truthy_int ?_
    refine ⟨fun e => ?_, fun e => ?_⟩
    · k_search "tt"
      obtain ⟨tr, er⟩ := ints_at rI (j := i) (by rw [raw_l]; exact hi2)
      refine W_sub_listN (j := i) (s2'.up H.le) rfl er (by omega) ?_
      refine ⟨g', _, Le.refl g', ⟨by simp [al], ?_⟩, H⟩
      rw [List.range_succ, List.map_append]
      simp only [List.map_cons, List.map_nil]
      rw [if_pos (show flF rws i = true from e)]
      exact ints_snocT ai
    · k_search "tt"
      obtain ⟨tu, eu⟩ := ints_at uI (j := i) (by omega)
      refine W_sub_listN (j := i) (uL'.up H.le) rfl eu (by omega) ?_
      refine ⟨g', _, Le.refl g', ⟨by simp [al], ?_⟩, H⟩
      rw [List.range_succ, List.map_append]
      simp only [List.map_cons, List.map_nil]
      rw [if_neg (show ¬ flF rws i = true from by rw [show flF rws i = false from e]; decide)]
      exact ints_snocT ai
  rintro gb D3 acc3 lb ⟨al3, ai3⟩
  refine ⟨_, by k_search "st", ?_⟩
  intro h9 H
  obtain ⟨gc3, lc3, s3, H9⟩ := H.give
  clear H
  have H := H9
  clear H9
  have s3 : Lst gc3 D3 acc3 := s3
  have l3 := ld.trans (lb.trans lc3)
  replace Wd := Wd.up l3
  have dI : IntsAre acc3 (laidI (nN rws) (flF rws) (rawI rws) (fs.map (rd (mM rws)))) := ai3
  generalize hla : laidI (nN rws) (flF rws) (rawI rws) (fs.map (rd (mM rws))) = lai at *
  k_search "tt"
  refine W_nxt 34 rfl ?_
  refine W_AssignLC (cl' := [(Str.ofString "m", ca 1)]) (cxs := [Str.ofString "one"]) F ⟨rfl, by kernel_rfl, rfl, by kernel_rfl, by kernel_rfl, by decide +kernel⟩ (F.env (P := fun en => swapsWith _ _ _ en = pure true) fun _ _ _ _ _ _ _ _ _ _ _ => by kernel_rfl) ?_ (fun _ => rfl)
  k_search "tt"
  refine W_iter_list r.hd s3 H ?_
  intro it h9 IT H
  have a3l : acc3.length = lai.length := dI.length
  refine ⟨_, _, acc3.length, _, _, gc3, fun i _ acc => acc.length = i ∧ IntsAre acc ((lai.take i).map (rd (mM rws))), IT _ _, by omega, H, ⟨rfl, .nil⟩, fun _ _ _ _ _ e => e, ?_, ?_⟩
  · rintro i g' acc Cf D cen cvs v h3 le hi2 ⟨al, ai⟩ hy F H
    obtain ⟨cv, rfl⟩ := one_of H
    obtain ⟨hi3, ti, rfl⟩ := ints_get dI hy
    replace Wd := Wd.up le
    dsimp only [List.cons_append] at H
    k_search "tt"
    refine W_mod (by omega) ?_; intro
    k_search "tt"
    refine ⟨g', _, Le.refl g', ⟨by simp [al], ?_⟩, H⟩
    show IntsAre _ ((lai.take (i + 1)).map (rd (mM rws)))
    rw [map_take_snoc hi3]
    exact ints_snocT ai
  rintro gb4 D4 acc4 lb4 ⟨al4, ai4⟩
  rw [a3l, List.take_length] at ai4
  refine ⟨_, by k_search "st", ?_⟩
  intro h9 H
  obtain ⟨gc4, lc4, s4, H9⟩ := H.give
  clear H
  have H := H9
  clear H9
  have s4 : Lst gc4 D4 acc4 := s4
  have l4 := lb4.trans lc4
  k_search "tt"
  have l34 := l3.trans l4
  exact q D2 D1 D3 D4 gc4 _ (l1.trans (l2.trans l34)) ⟨⟨_, s2.up l34, rI⟩, ⟨_, s1.up l34, fI⟩, by rw [hla]; exact ⟨_, s3.up l4, dI⟩, by rw [hla]; exact ⟨_, s4, ai4⟩⟩ H
end

end
section
set_option maxHeartbeats 4000000
section
variable {C : Cfg} {A : Around} {g h : Heap} {V : Led} {n : Nat} {R : Result → Heap → Prop}
theorem idx_new {xs : List Str} (nd : xs.Nodup) {fl : Nat → Bool} {i : Nat} (hi : i < xs.length) : xs.getD i Str.empty ∉ (idxF fl i).map fun j => xs.getD j Str.empty := fun m => by
  obtain ⟨a, ha, e⟩ := List.mem_map.mp m
  have h := (idxF_lt ha).1
  have := nd_inj nd (by omega) hi e
  omega
theorem idx_len (fl : Nat → Bool) (n : Nat) : (idxF fl n).length ≤ n := by
  unfold idxF
  refine Nat.le_trans (List.length_filter_le _ _) ?_
  simp
theorem assocFW {rws u : List Int} {fl : Nat → Bool} {tv z k D0 D1 : Addr} {ys : List Value} {E : Value → Heap → Prop} {Q : Value → Heap → Prop} (H : Hp C.w.params g V h) (Wd : Wld C g) (S : Stk A V) (r : Rm A (n + 5)) (kd : Kd C.w.params g k tv (kcI rws)) (pz : Th C.w.params g z (.ref k) (kcI rws).nms u)
    (s0 : Lst g D0 [.ref z]) (s1 : Sd C.w.params g D1 ((idxF fl (nN rws)).map fun i => (kcI rws).nms.getD i Str.empty) ys) (yi : IntsAre ys ((idxF fl (nN rws)).map fun i => (rawI rws).getD i 0))
    (q : ∀ z' g' h', Le g g' → Th C.w.params g' z' (.ref k) (kcI rws).nms (laidI (nN rws) fl (rawI rws) u) → Hp C.w.params g' V h' → Q (.ref z') h') : W C A (call (.ref 490) [.ref 495, .ref D0, .ref D1]) Q E h := by
  have ok := kcI_ok rws
  have nl := kcI_nl rws
  have hN := nN_eq rws
  have il := idx_len fl (nN rws)
  have sub : ∀ y ∈ ((idxF fl (nN rws)).map fun i => (kcI rws).nms.getD i Str.empty), y ∈ (kcI rws).nms := fun y hy => by
    obtain ⟨i, hi, rfl⟩ := List.mem_map.mp hy
    exact List.mem_of_getElem? (getD_str (by rw [nl]; exact (idxF_lt hi).1))
  have nd : ((idxF fl (nN rws)).map fun i => (kcI rws).nms.getD i Str.empty).Nodup := by
    have := ks_nd ok.nd1 (fl := fl)
    rw [nl] at this
    exact this
  have er := aRow_fl (rws := rws) (raw := rawI rws) (u := u) (fl := fl)
  rw [nl] at er
  refine W_call (called_ok (n := n + 4) (P := fun g' v => ∃ z', v = .ref z' ∧ Th C.w.params g' z' (.ref k) (kcI rws).nms (laidI (nN rws) fl (rawI rws) u)) (B := fun _ => False) H Wd S r (.inl s0) s1 nd (by rw [List.length_map]; omega) (by simp) (fun h' l => Kpr.fnT Wd l (by decide)) ?_ ?_ ?_)
  · intro A' p h' H' S' r'
    refine assoc_ok (n := n) ok H' Wd S' r' kd pz yi (by rw [s1.len (C := C)]) nd (by rw [List.length_map]; omega) (fun y hy => ok.s1 _ (sub y hy)) (fun m => law_self.2.1 (List.mem_of_mem_take (sub _ m))) ?_ ?_
    · intro _ z' g' h'' l t H''
      rw [er] at t
      exact ⟨g', l, ⟨z', rfl, t⟩, H''⟩
    · rintro ⟨y, hy, hy2⟩
      exact absurd (sub y hy) hy2
  · rintro _ g3 h3 l3 ⟨z', rfl, th⟩ H
    exact q z' g3 h3 l3 th H
  · rintro _ _ _ _ _ ⟨⟩
theorem segF1 {en : Env} {L rl tv ts sl k fa la ua va ra fla da ea x a1 : Addr} {ca : Nat → Addr} {v0 v2 v4 v5 v6 w12 w13 w14 w15 w16 w17 w18 w19 w20 c8 : Option Value} {rws fs ls : List Int} {t1 tm : Tok} (F : Fe en L lawN lwX (lwC ca)) (S : Sb A en L V) (r : Rm A (n + 8)) (Wd : Wld C g)
    (lc : LcF C.w.params g rws rl tv ts sl k fa la ua va fs ls) (lg : Lg g rws fs ra fla da ea) (thx : Th C.w.params g x (.ref k) (kcI rws).nms (fs.map (rd (mM rws)))) (sf : Srt rws fs)
    (H : Hp C.w.params g ((L, .frm lwX (lfD v0 v2 v4 v5 v6 rws t1 sl k fa la x a1 w12 w13 w14 w15 w16 w17 w18 w19 w20 (some (.ref da)) (some (.ref ea)) none none none none none none none)) :: celF ca rl tv ts ua va ra fla c8 rws tm V) h)
    (q : ∀ w g' h', Le g g' → Th C.w.params g' w (.ref k) (kcI rws).nms (laidI (nN rws) (flF rws) (rawI rws) (fs.map (rd (mM rws)))) → Hp C.w.params g' ((L, .frm lwX (lfD v0 v2 v4 v5 v6 rws t1 sl k fa la x a1 w12 w13 w14 w15 w16 w17 w18 w19 w20 (some (.ref da)) (some (.ref ea)) (some (.ref w)) none none none none none none)) :: celF ca rl tv ts ua va ra fla c8 rws tm V) h' → LB C A en R 38 h') : LB C A en R 35 h := by
  dsimp only [celF, lfD] at H
  obtain ⟨eN, n2, n4⟩ := nN_eq rws
  have nl := kcI_nl rws
  have sll := kcI_sl rws
  have ok := kcI_ok rws
  refine W_nxt 35 rfl ?_
  k_search "tt"
  refine W_newList H (by simp) ?_
  intro D0 h1 H
  replace H := H.swap
  obtain ⟨g1, l0, s0, H9⟩ := H.give
  clear H
  have H := H9
  clear H9
  have s0 : Lst g1 D0 [.ref x] := s0
  replace Wd := Wd.up l0
  replace lc := lc.up l0
  replace lg := lg.up l0
  replace thx := thx.up l0
  k_search "tt"
  refine W_DictComp (g0 := g1) (cl' := [(Str.ofString "raw", ca 7), (Str.ofString "names", ca 2), (Str.ofString "flags", ca 6)]) (cxs := [Str.ofString "i"]) (fun h le => Wd.ne1 le) F ⟨rfl, by kernel_rfl, rfl, by kernel_rfl, by kernel_rfl, by decide +kernel⟩ ?_ (fun _ => rfl)
  k_search "tt"
  obtain ⟨tv1, tT1, tS1⟩ := lc.lf.t
  obtain ⟨fv1, fL1, fI1⟩ := lg.f
  obtain ⟨rv1, rL1, rI1⟩ := lg.r
  have tvl1 : tv1.length = nN rws := by rw [tS1.1]; exact nl
  have fvl1 : fv1.length = nN rws := by rw [fI1.length]; exact flg_l
  have rvl1 : rv1.length = nN rws := by rw [rI1.length]; exact raw_l
  refine W_range1 H ?_
  intro rg gd1 h9 ld1 Rg9 H
  refine W_iter_rangeN (n := nN rws) r.hd Rg9 rfl (by omega) H ?_
  intro it S9 h9 IT H
  refine ⟨_, nN rws, _, _, gd1, fun i _ ks ys => ks = ((idxF (flF rws) i).map fun i => (kcI rws).nms.getD i Str.empty) ∧ IntsAre ys ((idxF (flF rws) i).map fun i => (rawI rws).getD i 0), ld1, IT _ _, by omega, H, ⟨rfl, .nil⟩, fun _ _ _ _ _ _ e => e, ?_, ?_⟩
  · rintro i g' ks ys Cf D cen cvs v h3 le hi2 ⟨rfl, ai⟩ ⟨ti, rfl⟩ F H
    obtain ⟨cv, rfl⟩ := one_of H
    have lx := ld1.trans le
    replace Wd := Wd.up lx
    dsimp only [List.cons_append] at H
    k_search "tt"
    obtain ⟨tf, ef⟩ := ints_at fI1 (j := i) (by rw [flg_l]; exact hi2)
    refine W_sub_listN (j := i) ((fL1.up lx).up H.le) rfl ef (by omega) ?_
    k_search "tt"
    refine W_truthy_int ?_
    refine Ite_b (fun e => ?_) (fun e => ?_)
    · k_search "tt"
      obtain ⟨tx, ex⟩ := tS1.2 i _ (getD_str (l := (kcI rws).nms) (by omega))
      refine W_sub_tupN (j := i) ((tT1.up lx).up H.le) rfl ex (by omega) ?_
      k_search "tt"
      obtain ⟨tr, er⟩ := ints_at rI1 (j := i) (by rw [raw_l]; exact hi2)
      refine W_sub_listN (j := i) ((rL1.up lx).up H.le) rfl er (by omega) ?_
      have ft : flF rws i = true := e
      refine ⟨_, tx, _, _, g', _, rfl, .new (idx_new ok.nd1 (by omega)), Le.refl _, ⟨?_, ?_⟩, H⟩
      · rw [idxF_succ, if_pos ft, List.map_append]; rfl
      · rw [idxF_succ, if_pos ft, List.map_append]; exact ints_snocT ai
    · have ft : ¬ flF rws i = true := by rw [show flF rws i = false from e]; decide
      refine ⟨g', _, Le.refl _, ⟨?_, ?_⟩, H⟩
      · rw [idxF_succ, if_neg ft, List.append_nil]
      · rw [idxF_succ, if_neg ft, List.append_nil]; exact ai
  rintro gb D1 ks ys1 lb ⟨rfl, ai1⟩
  intro h9 H
  replace H := H.swap
  obtain ⟨gc1, lc1, d1, H9⟩ := H.give
  clear H
  have H := H9
  clear H9
  have d1 : Sd C.w.params gc1 D1 ((idxF (flF rws) (nN rws)).map fun i => (kcI rws).nms.getD i Str.empty) ys1 := d1
  have l1 := ld1.trans (lb.trans lc1)
  replace Wd := Wd.up l1
  replace lc := lc.up l1
  replace lg := lg.up l1
  replace thx := thx.up l1
  k_search "tt"
  refine assocFW (n := n + 3) H Wd (by k_search "stk") r lc.kd thx (s0.up l1) d1 ai1 ?_
  intro w g2 h2 l2 thw H
  replace Wd := Wd.up l2
  replace lc := lc.up l2
  replace lg := lg.up l2
  replace thx := thx.up l2
  have lb := laid_b2 (fl := flF rws) sf
  have ll := laid_l (n := nN rws) (fl := flF rws) (a := rawI rws) (b := fs.map (rd (mM rws)))
  generalize hla : laidI (nN rws) (flF rws) (rawI rws) (fs.map (rd (mM rws))) = lai at *
  have dI : Il g2 da lai := by rw [← hla]; exact lg.d
  k_search "tt"
  refine W_nxt 36 rfl ?_
  k_search "tt"
  refine holdsW (n := n + 7) H Wd (by k_search "stk") r lc.lf thw dI ll (fun y hy => by have := lb y hy; omega) ?_
  intro g3 h3 l3 H
  replace Wd := Wd.up l3
  replace lc := lc.up l3
  replace thx := thx.up l3
  replace thw := thw.up l3
  replace dI := dI.up l3
  k_search "tt"
  refine passesW (n := n + 4) H Wd (by k_search "stk") r lc.lf lc.kd thw (fun y hy => by have := lb y hy; omega) ll ?_
  intro g4 h4 l4 H
  replace Wd := Wd.up l4
  replace lc := lc.up l4
  replace thx := thx.up l4
  replace thw := thw.up l4
  replace dI := dI.up l4
  k_search "tt"
  refine rightW (rws := rws) (n := n + 7) H Wd (by k_search "stk") r dI ll ?_
  intro g5 h5 l5 H
  replace Wd := Wd.up l5
  replace lc := lc.up l5
  replace thx := thx.up l5
  replace thw := thw.up l5
  replace dI := dI.up l5
  refine W_neb ?_
  rw [show (rightI lai != rightI lai) = false from by simp]
  k_search "tt"
  refine W_nxt 37 rfl ?_
  k_search "tt"
  refine eqW (n := n + 6) H Wd (by k_search "stk") r lc.kd thw thx ?_
  intro g6 h6 l6 H
  replace Wd := Wd.up l6
  replace lc := lc.up l6
  replace thw := thw.up l6
  replace dI := dI.up l6
  k_search "tt"
  obtain ⟨dv, dL, dI2⟩ := dI
  obtain ⟨uv, uL, uI⟩ := lc.u
  refine W_eqIL (by have := r.u; unfold cLine; omega) (dL.up H.le) dI2 (uL.up H.le) uI ?_
  refine W_neb ?_
  rw [show ∀ b : Bool, (b != b) = false from fun b => by cases b <;> rfl]
  k_search "tt"
  exact q w g6 _ (l0.trans (l1.trans (l2.trans (l3.trans (l4.trans (l5.trans l6)))))) thw H
end

end
section
set_option maxHeartbeats 4000000
section
variable {C : Cfg} {A : Around} {g h : Heap} {V : Led} {n : Nat} {R : Result → Heap → Prop}
theorem segF2 {en : Env} {L rl tv ts sl k fa la ua va ra fla da ea x a1 w : Addr} {ca : Nat → Addr} {v0 v2 v4 v5 v6 w12 w13 w14 w15 w16 w17 w18 w19 w20 c8 : Option Value} {rws fs ls : List Int} {t1 tm : Tok} (F : Fe en L lawN lwX (lwC ca)) (S : Sb A en L V) (r : Rm A (n + 8)) (Wd : Wld C g)
    (lc : LcF C.w.params g rws rl tv ts sl k fa la ua va fs ls) (lg : Lg g rws fs ra fla da ea) (thx : Th C.w.params g x (.ref k) (kcI rws).nms (fs.map (rd (mM rws)))) (thw : Th C.w.params g w (.ref k) (kcI rws).nms (laidI (nN rws) (flF rws) (rawI rws) (fs.map (rd (mM rws))))) (sf : Srt rws fs)
    (H : Hp C.w.params g ((L, .frm lwX (lfD v0 v2 v4 v5 v6 rws t1 sl k fa la x a1 w12 w13 w14 w15 w16 w17 w18 w19 w20 (some (.ref da)) (some (.ref ea)) (some (.ref w)) none none none none none none)) :: celF ca rl tv ts ua va ra fla c8 rws tm V) h)
    (q : ∀ w24 w25 g' h', Le g g' → Hp C.w.params g' ((L, .frm lwX (lfD v0 v2 v4 v5 v6 rws t1 sl k fa la x a1 w12 w13 w14 w15 w16 w17 w18 w19 w20 (some (.ref da)) (some (.ref ea)) (some (.ref w)) w24 w25 none none none none)) :: celF ca rl tv ts ua va ra fla c8 rws tm V) h' → LB C A en R 42 h') : LB C A en R 38 h := by
  dsimp only [celF, lfD] at H
  obtain ⟨eN, n2, n4⟩ := nN_eq rws
  have nl := kcI_nl rws
  have sll := kcI_sl rws
  have ok := kcI_ok rws
  refine W_nxt 38 rfl ?_
  k_search "tt"
  refine W_DictComp (g0 := g) (cl' := [(Str.ofString "short", ca 3), (Str.ofString "raw", ca 7), (Str.ofString "flags", ca 6)]) (cxs := [Str.ofString "i"]) (fun h le => Wd.ne1 le) F ⟨rfl, by kernel_rfl, rfl, by kernel_rfl, by kernel_rfl, by decide +kernel⟩ ?_ (fun _ => rfl)
  k_search "tt"
  obtain ⟨tv1, tT1, tS1⟩ := lc.lf.s
  obtain ⟨fv1, fL1, fI1⟩ := lg.f
  obtain ⟨rv1, rL1, rI1⟩ := lg.r
  have tvl1 : tv1.length = nN rws := by rw [tS1.1]; exact sll
  have fvl1 : fv1.length = nN rws := by rw [fI1.length]; exact flg_l
  have rvl1 : rv1.length = nN rws := by rw [rI1.length]; exact raw_l
  refine W_range1 H ?_
  intro rg gd1 h9 ld1 Rg9 H
  refine W_iter_rangeN (n := nN rws) r.hd Rg9 rfl (by omega) H ?_
  intro it S9 h9 IT H
  refine ⟨_, nN rws, _, _, gd1, fun i _ ks ys => ks = ((idxF (flF rws) i).map fun i => (kcI rws).shs.getD i Str.empty) ∧ IntsAre ys ((idxF (flF rws) i).map fun i => (rawI rws).getD i 0), ld1, IT _ _, by omega, H, ⟨rfl, .nil⟩, fun _ _ _ _ _ _ e => e, ?_, ?_⟩
  · rintro i g' ks ys Cf D cen cvs v h3 le hi2 ⟨rfl, ai⟩ ⟨ti, rfl⟩ F H
    obtain ⟨cv, rfl⟩ := one_of H
    have lx := ld1.trans le
    replace Wd := Wd.up lx
    dsimp only [List.cons_append] at H
    k_search "tt"
    obtain ⟨tf, ef⟩ := ints_at fI1 (j := i) (by rw [flg_l]; exact hi2)
    refine W_sub_listN (j := i) ((fL1.up lx).up H.le) rfl ef (by omega) ?_
    k_search "tt"
    refine W_truthy_int ?_
    refine Ite_b (fun e => ?_) (fun e => ?_)
    · k_search "tt"
      obtain ⟨tx, ex⟩ := tS1.2 i _ (getD_str (l := (kcI rws).shs) (by omega))
      refine W_sub_tupN (j := i) ((tT1.up lx).up H.le) rfl ex (by omega) ?_
      k_search "tt"
      obtain ⟨tr, er⟩ := ints_at rI1 (j := i) (by rw [raw_l]; exact hi2)
      refine W_sub_listN (j := i) ((rL1.up lx).up H.le) rfl er (by omega) ?_
      have ft : flF rws i = true := e
      refine ⟨_, tx, _, _, g', _, rfl, .new (idx_new ok.nd2 (by omega)), Le.refl _, ⟨?_, ?_⟩, H⟩
      · rw [idxF_succ, if_pos ft, List.map_append]; rfl
      · rw [idxF_succ, if_pos ft, List.map_append]; exact ints_snocT ai
    · have ft : ¬ flF rws i = true := by rw [show flF rws i = false from e]; decide
      refine ⟨g', _, Le.refl _, ⟨?_, ?_⟩, H⟩
      · rw [idxF_succ, if_neg ft, List.append_nil]
      · rw [idxF_succ, if_neg ft, List.append_nil]; exact ai
  rintro gb D1 ks ys1 lb ⟨rfl, ai1⟩
  intro h9 H
  replace H := H.swap
  obtain ⟨gc1, lc1, d1, H9⟩ := H.give
  clear H
  have H := H9
  clear H9
  have d1 : Sd C.w.params gc1 D1 ((idxF (flF rws) (nN rws)).map fun i => (kcI rws).shs.getD i Str.empty) ys1 := d1
  have l1 := ld1.trans (lb.trans lc1)
  replace Wd := Wd.up l1
  replace lc := lc.up l1
  replace lg := lg.up l1
  replace thx := thx.up l1
  replace thw := thw.up l1
  have lb2 := laid_b2 (fl := flF rws) sf
  have ll := laid_l (n := nN rws) (fl := flF rws) (a := rawI rws) (b := fs.map (rd (mM rws)))
  have er := eRow_fl (rws := rws) (raw := rawI rws) (u := fs.map (rd (mM rws))) (fl := flF rws)
  rw [sll] at er
  have eI := lg.e
  have il := idx_len (flF rws) (nN rws)
  have kn : ((idxF (flF rws) (nN rws)).map fun i => (kcI rws).shs.getD i Str.empty).Nodup := by
    have := ks_nd ok.nd2 (fl := flF rws)
    rw [sll] at this
    exact this
  have ksub : ∀ y ∈ ((idxF (flF rws) (nN rws)).map fun i => (kcI rws).shs.getD i Str.empty), y ∈ (kcI rws).shs := fun y hy => by
    obtain ⟨i, hi, rfl⟩ := List.mem_map.mp hy
    exact List.mem_of_getElem? (getD_str (by rw [sll]; exact (idxF_lt hi).1))
  have wb : ∀ y ∈ ((idxF (flF rws) (nN rws)).map fun i => (rawI rws).getD i 0), y.natAbs < 50 := fun y hy => by
    obtain ⟨i, hi, rfl⟩ := List.mem_map.mp hy
    have := raw_b _ (getD_mem (l := rawI rws) (i := i) (by rw [raw_l]; exact (idxF_lt hi).1))
    omega
  generalize hla : laidI (nN rws) (flF rws) (rawI rws) (fs.map (rd (mM rws))) = lai at *
  have dr := due_rdd (rws := rws) ll lb2
  k_search "tt"
  refine changedW (n := n + 1) H Wd (by k_search "stk") r lc.lf lc.kd thx sf.rdd.b d1 ai1 kn (by rw [List.length_map]; omega) ksub wb er dr.l ?_ ?_
  · intro e s g2 h2 l2 ths H
    replace Wd := Wd.up l2
    replace lc := lc.up l2
    replace thw := thw.up l2
    replace eI := eI.up l2
    k_search "tt"
    refine W_nxt 39 rfl ?_
    k_search "tt"
    refine W_Dict0 H Wd ?_
    intro D9 h9 H
    replace H := H.swap
    obtain ⟨g9, l9, s9, H9⟩ := H.give
    clear H
    have H := H9
    clear H9
    have s9 : Sd C.w.params g9 D9 [] [] := s9
    replace Wd := Wd.up l9
    replace lc := lc.up l9
    replace thw := thw.up l9
    replace eI := eI.up l9
    replace ths := ths.up l9
    k_search "tt"
    refine changedW (n := n + 1) H Wd (by k_search "stk") r lc.lf lc.kd thw (fun y hy => by have := lb2 y hy; omega) s9 .nil (by simp) (by simp) (by simp) (by simp) (eRow_nil ll) dr.l ?_ ?_
    · intro _ ar g3 h3 l3 tha H
      replace Wd := Wd.up l3
      replace lc := lc.up l3
      replace eI := eI.up l3
      replace ths := ths.up l3
      k_search "tt"
      refine W_nxt 40 rfl ?_
      k_search "tt"
      refine rightW (rws := rws) (n := n + 7) H Wd (by k_search "stk") r eI dr.l ?_
      intro g4 h4 l4 H
      replace Wd := Wd.up l4
      replace lc := lc.up l4
      replace eI := eI.up l4
      refine W_neb ?_
      rw [e]
      k_search "tt"
      refine rightW (rws := rws) (n := n + 7) H Wd (by k_search "stk") r eI dr.l ?_
      intro g5 h5 l5 H
      replace Wd := Wd.up l5
      replace lc := lc.up l5
      replace eI := eI.up l5
      refine W_neb ?_
      rw [e]
      k_search "tt"
      refine W_nxt 41 rfl ?_
      k_search "tt"
      replace ths := ths.up (l4.trans l5)
      replace tha := tha.up (l4.trans l5)
      refine holdsW (n := n + 7) H Wd (by k_search "stk") r lc.lf ths eI dr.l dr.b ?_
      intro g6 h6 l6 H
      replace Wd := Wd.up l6
      replace lc := lc.up l6
      replace eI := eI.up l6
      replace ths := ths.up l6
      replace tha := tha.up l6
      k_search "tt"
      refine holdsW (n := n + 7) H Wd (by k_search "stk") r lc.lf tha eI dr.l dr.b ?_
      intro g7 h7 l7 H
      replace Wd := Wd.up l7
      replace lc := lc.up l7
      replace ths := ths.up l7
      replace tha := tha.up l7
      k_search "tt"
      refine eqW (n := n + 6) H Wd (by k_search "stk") r lc.kd ths tha ?_
      intro g8 h8 l8 H
      rw [decide_eq_true rfl]
      k_search "tt"
      exact q _ _ g8 _ (l1.trans (l2.trans (l9.trans (l3.trans (l4.trans (l5.trans (l6.trans (l7.trans l8)))))))) H
    · intro e2
      rw [e] at e2
      cases e2
  · intro e g2 h2 l2 H
    replace Wd := Wd.up l2
    replace lc := lc.up l2
    replace thw := thw.up l2
    replace eI := eI.up l2
    k_search "tt"
    refine W_nxt 39 rfl ?_
    k_search "tt"
    refine W_Dict0 H Wd ?_
    intro D9 h9 H
    replace H := H.swap
    obtain ⟨g9, l9, s9, H9⟩ := H.give
    clear H
    have H := H9
    clear H9
    have s9 : Sd C.w.params g9 D9 [] [] := s9
    replace Wd := Wd.up l9
    replace lc := lc.up l9
    replace thw := thw.up l9
    replace eI := eI.up l9
    k_search "tt"
    refine changedW (n := n + 1) H Wd (by k_search "stk") r lc.lf lc.kd thw (fun y hy => by have := lb2 y hy; omega) s9 .nil (by simp) (by simp) (by simp) (by simp) (eRow_nil ll) dr.l ?_ ?_
    · intro e2
      rw [e] at e2
      cases e2
    · intro _ g3 h3 l3 H
      replace Wd := Wd.up l3
      replace lc := lc.up l3
      replace eI := eI.up l3
      k_search "tt"
      refine W_nxt 40 rfl ?_
      k_search "tt"
      refine rightW (rws := rws) (n := n + 7) H Wd (by k_search "stk") r eI dr.l ?_
      intro g4 h4 l4 H
      replace Wd := Wd.up l4
      replace lc := lc.up l4
      replace eI := eI.up l4
      refine W_neb ?_
      rw [e]
      k_search "tt"
      refine rightW (rws := rws) (n := n + 7) H Wd (by k_search "stk") r eI dr.l ?_
      intro g5 h5 l5 H
      replace Wd := Wd.up l5
      replace lc := lc.up l5
      replace eI := eI.up l5
      refine W_neb ?_
      rw [e]
      k_search "tt"
      refine W_nxt 41 rfl ?_
      k_search "tt"
      exact q _ _ g5 _ (l1.trans (l2.trans (l9.trans (l3.trans (l4.trans l5))))) H
end

end
section
set_option maxHeartbeats 4000000
section
variable {C : Cfg} {A : Around} {g h : Heap} {V : Led} {n : Nat} {R : Result → Heap → Prop}
theorem sub_te : isSubtype (.type "TypeError") (.type "TypeError") = pure true := by rw [isSubtype_type]; kernel_rfl
theorem sub_te_b : isSubtype (.type "TypeError") (.type "BaseException") = pure true := by rw [isSubtype_type]; kernel_rfl
theorem nt_te : isSubtype (.type ((Manifest.find? "TypeError").elim "type" fun x => x.metatype)) (.type "tuple") = pure false := by
  rw [show (Manifest.find? "TypeError").elim "type" (fun x => x.metatype) = "type" from by kernel_rfl, isSubtype_type]; kernel_rfl
theorem law_ns : ∀ i, i < 4 → ∀ j, j < 4 → lawShs.getD i Str.empty = lawNms.getD j Str.empty → i = j := by decide +kernel
theorem take_getD {l : List Str} {n i : Nat} (h : i < n) : (l.take n).getD i Str.empty = l.getD i Str.empty := by
  rw [List.getD_eq_getElem?_getD, List.getD_eq_getElem?_getD, List.getElem?_take, if_pos h]
theorem ns_eq {rws : List Int} {i j : Nat} (hi : i < nN rws) (hj : j < nN rws) (e : (kcI rws).shs.getD i Str.empty = (kcI rws).nms.getD j Str.empty) : i = j := by
  have := nN_eq rws
  have e : (lawShs.take (nN rws)).getD i Str.empty = (lawNms.take (nN rws)).getD j Str.empty := e
  rw [take_getD hi, take_getD hj] at e
  exact law_ns i (by omega) j (by omega) e
theorem mem_getD {l : List Str} {x : Str} (h : x ∈ l) : ∃ i, i < l.length ∧ l.getD i Str.empty = x := by
  obtain ⟨i, hi, e⟩ := List.getElem_of_mem h
  exact ⟨i, hi, by rw [List.getD_eq_getElem?_getD, List.getElem?_eq_getElem hi]; exact e⟩
theorem in_nms {rws : List Int} {j : Nat} (hj : j < nN rws) : (kcI rws).shs.getD j Str.empty ∈ (kcI rws).nms ↔ (kcI rws).shs.getD j Str.empty = (kcI rws).nms.getD j Str.empty := by
  have nl := kcI_nl rws
  constructor
  · intro m
    obtain ⟨i, hi, e⟩ := mem_getD m
    have := ns_eq hj (by omega) e.symm
    subst this
    exact e.symm
  · intro e
    rw [e]
    exact List.mem_of_getElem? (getD_str (by omega))
theorem in_shs {rws : List Int} {j : Nat} (hj : j < nN rws) : (kcI rws).nms.getD j Str.empty ∈ (kcI rws).shs ↔ (kcI rws).shs.getD j Str.empty = (kcI rws).nms.getD j Str.empty := by
  have sl := kcI_sl rws
  constructor
  · intro m
    obtain ⟨i, hi, e⟩ := mem_getD m
    have := ns_eq (by omega) hj e
    subst this
    exact e
  · intro e
    rw [← e]
    exact List.mem_of_getElem? (getD_str (by omega))
theorem eRow_one {rws u : List Int} {j : Nat} (hu : Rdd rws u) (hj : j < nN rws) : eRow (kcI rws) [(kcI rws).nms.getD j Str.empty] [u.getD j 0] u = u := by
  have ul := hu.l
  unfold eRow
  rw [kcI_nl]
  refine ext_getD (by simp [ul]) fun i hi => ?_
  have hi : i < nN rws := by simpa using hi
  refine getD_of ?_
  rw [List.getElem?_map, List.getElem?_range hi]
  simp only [Option.map_some]
  congr 1
  have hr := hu.r _ (getD_mem (l := u) (i := i) (by omega))
  split
  · rename_i m
    have e := ns_eq hi hj (List.mem_singleton.mp m)
    subst e
    rw [List.mem_singleton.mp m]
    show rd (mM rws) (valOf [_] [_] _) = _
    simp only [valOf, List.zip_cons_cons, List.zip_nil_right, List.lookup_cons, BEq.rfl, Option.getD_some]
    exact hr
  · exact hr
theorem segG0 {en : Env} {L rl tv ts sl k fa la ua va ra fla da ea x a1 : Addr} {ca : Nat → Addr} {v0 v2 v4 v5 v6 w12 w13 w14 w15 w16 w17 w18 w19 w20 w21 w22 w23 w24 w25 c8 : Option Value} {rws fs ls : List Int} {t1 tm : Tok} (F : Fe en L lawN lwX (lwC ca)) (S : Sb A en L V) (r : Rm A (n + 8)) (Wd : Wld C g) (h0 : 0 < rws.length) (h64 : rws.length < 64)
    (lc : LcF C.w.params g rws rl tv ts sl k fa la ua va fs ls) (lg : Lg g rws fs ra fla da ea) (thx : Th C.w.params g x (.ref k) (kcI rws).nms (fs.map (rd (mM rws)))) (sf : Srt rws fs)
    (H : Hp C.w.params g ((L, .frm lwX (lfD v0 v2 v4 v5 v6 rws t1 sl k fa la x a1 w12 w13 w14 w15 w16 w17 w18 w19 w20 w21 w22 w23 w24 w25 none none none none)) :: celF ca rl tv ts ua va ra fla c8 rws tm V) h)
    (q : ∀ w26 w27 w28 g' h', Le g g' → Hp C.w.params g' ((L, .frm lwX (lfD v0 v2 v4 v5 v6 rws t1 sl k fa la x a1 w12 w13 w14 w15 w16 w17 w18 w19 w20 w21 w22 w23 w24 w25 w26 w27 w28 none)) :: celF ca rl tv ts ua va ra fla c8 rws tm V) h' → LB C A en R 46 h') : LB C A en R 42 h := by
  dsimp only [celF, lfD] at H
  obtain ⟨eN, n2, n4⟩ := nN_eq rws
  have nl := kcI_nl rws
  have sll := kcI_sl rws
  have ok := kcI_ok rws
  obtain ⟨rv, p1, hi⟩ := lc.lf.r
  have dj := draw_range rws 26 (m := (nN rws : Int)) (by omega)
  refine W_nxt 42 rfl ?_
  k_search "tt"
  refine W_call (draw_ok (n := n + 7) H Wd (by k_search "stk") r p1 hi h0 h64 (by omega) (by omega) (by omega) ?_)
  intro tj h1 H
  k_search "tt"
  obtain ⟨j, ej⟩ : ∃ j : Nat, drawI rws 26 (nN rws) = (j : Int) := ⟨(drawI rws 26 (nN rws)).toNat, by omega⟩
  rw [ej] at H dj
  have hj : j < nN rws := by omega
  obtain ⟨nv, nT, nS⟩ := lc.lf.t
  obtain ⟨sv, sT, sS⟩ := lc.lf.s
  obtain ⟨uv, uL, uI⟩ := lc.u
  obtain ⟨rw9, rL, rI⟩ := lg.r
  have ul : (fs.map (rd (mM rws))).length = nN rws := sf.rdd.l
  have nvz : nv.length = nN rws := by rw [nS.1]; exact nl
  have svz : sv.length = nN rws := by rw [sS.1]; exact sll
  have uvz : uv.length = nN rws := by rw [uI.length]; exact ul
  have rvz : rw9.length = nN rws := by rw [rI.length]; exact raw_l
  obtain ⟨tn, en9⟩ := nS.2 j _ (getD_str (l := (kcI rws).nms) (by omega))
  obtain ⟨tsj, es9⟩ := sS.2 j _ (getD_str (l := (kcI rws).shs) (by omega))
  obtain ⟨tu, eu⟩ := ints_at uI (j := j) (by omega)
  obtain ⟨tr, er⟩ := ints_at rI (j := j) (by rw [raw_l]; exact hj)
  have smem : (kcI rws).shs.getD j Str.empty ∈ (kcI rws).shs := List.mem_of_getElem? (getD_str (by omega))
  have nmem : (kcI rws).nms.getD j Str.empty ∈ (kcI rws).nms := List.mem_of_getElem? (getD_str (by omega))
  have im := in_nms (rws := rws) hj
  have is := in_shs (rws := rws) hj
  have e1 := eRow_one sf.rdd hj
  have ub : ∀ w ∈ fs.map (rd (mM rws)), w.natAbs < 900 := fun w hw => by have := sf.rdd.b w hw; omega
  have uj := sf.rdd.b _ (getD_mem (l := fs.map (rd (mM rws))) (i := j) (by omega))
  have pr := passes_right (rws := rws) ul
  rw [sf.right] at pr
  generalize hsj : (kcI rws).shs.getD j Str.empty = sj at *
  generalize hnj : (kcI rws).nms.getD j Str.empty = nj at *
  generalize hus : fs.map (rd (mM rws)) = us at *
  have Wd0 := Wd
  refine W_nxt 43 rfl (W_cut (fun h' => ∃ g' v, Le g g' ∧ (v == Value.none) = (sj != nj) ∧ Hp C.w.params g' ((L, .frm lwX (lfD v0 v2 v4 v5 v6 rws t1 sl k fa la x a1 w12 w13 w14 w15 w16 w17 w18 w19 w20 w21 w22 w23 w24 w25 (some (.int (j : Int) tj)) (some v) none none)) :: celF ca rl tv ts ua va ra fla c8 rws tm V) h') (W_TryO (L := L) ?_) ?_)
  · k_search "tt"
    refine W_newList H (by simp) ?_
    intro D0 h2 H
    replace H := H.swap
    obtain ⟨g1, l1, s1, H9⟩ := H.give
    clear H
    have H := H9
    clear H9
    have s1 : Lst g1 D0 [.ref x] := s1
    replace Wd := Wd.up l1
    replace lc := lc.up l1
    replace thx := thx.up l1
    k_search "tt"
    refine W_Dict1 H Wd ?_
    intro D1 h3 H
    k_search "tt"
    refine W_sub_tupN (j := j) ((sT.up l1).up H.le) rfl es9 (by omega) ?_
    k_search "tt"
    refine W_sub_listN (j := j) ((rL.up l1).up H.le) rfl er (by omega) ?_
    refine ⟨_, tsj, _, _, _, rfl, H, fun h4 H => ?_⟩
    obtain ⟨g2, l2, s2, H9⟩ := H.give
    clear H
    have H := H9
    clear H9
    have s2 : Sd C.w.params g2 D1 [sj] [.int ((rawI rws).getD j 0) tr] := s2
    replace Wd := Wd.up l2
    replace lc := lc.up l2
    replace thx := thx.up l2
    k_search "tt"
    refine W_call (called_ok (n := n + 4) (P := fun g' v => sj ∈ (kcI rws).nms ∧ ∃ z', v = .ref z') (B := fun cls => sj ∉ (kcI rws).nms ∧ cls = .ref 42) H Wd (by k_search "stk") (r.le (by omega)) (.inl (s1.up l2)) s2 (by simp) (by simp) (by simp) (fun h' l => Kpr.fnT Wd l (by decide)) ?_ ?_ ?_)
    · intro A' p h' H' S' r'
      refine assoc_ok (n := n) (ws := [(rawI rws).getD j 0]) ok H' Wd S' r' lc.kd thx (.cons _ _ .nil) rfl (by simp) (by simp) (fun y hy => by rw [List.mem_singleton.mp hy]; exact (ok.s2 _ smem).1) (fun m => ?_) ?_ ?_
      · rw [← List.mem_singleton.mp m] at smem
        exact law_self.2.2.1 (List.mem_of_mem_take smem)
      · intro hin z' g' h'' l t H''
        exact ⟨g', l, ⟨hin sj (by simp), z', rfl⟩, H''⟩
      · rintro ⟨y, hy, hy2⟩ e g' h'' l X
        rw [List.mem_singleton.mp hy] at hy2
        exact ⟨e, _, g', rfl, l, ⟨hy2, rfl⟩, X⟩
    · rintro _ g3 h5 l3 ⟨hin, z', rfl⟩ H
      k_search "tt"
      refine ⟨rfl, g3, _, l1.trans (l2.trans l3), ?_, H⟩
      rw [im.mp hin]
      simp
    · rintro e cls g3 h5 l3 ⟨hin, rfl⟩ X
      replace Wd := Wd.up l3
      have sub : ∀ {ff : List (Option Value)} (p : Addr × Sp), p ∈ V → p ∈ (L, .frm lwX ff) :: celF ca rl tv ts ua va ra fla c8 rws tm V := fun p9 hp9 => by
        repeat (first | exact hp9 | apply List.mem_cons_of_mem)
      refine ⟨e, _, g3, _, rfl, Wd, X, .inr (.inl rfl), Sb.sf S (.head _) sub, fun h1 X => ?_⟩
      have H := X.H
      k_search "tt"
      refine ⟨rfl, _, g3, _, Wd, X, fun h3 X => ?_⟩
      have H := X.H
      k_search "tt"
      refine ⟨rfl, g3, _, l1.trans (l2.trans l3), ?_, H⟩
      have : sj ≠ nj := fun e => hin (im.mpr e)
      simp [this]
  rintro h2 ⟨g1, v1, l1, hv1, H⟩
  replace Wd := Wd.up l1
  replace lc := lc.up l1
  replace thx := thx.up l1
  refine W_nxt 44 rfl (W_cut (fun h' => ∃ g' v, Le g1 g' ∧ (v == Value.none) = (sj != nj) ∧ Hp C.w.params g' ((L, .frm lwX (lfD v0 v2 v4 v5 v6 rws t1 sl k fa la x a1 w12 w13 w14 w15 w16 w17 w18 w19 w20 w21 w22 w23 w24 w25 (some (.int (j : Int) tj)) (some v1) (some v) none)) :: celF ca rl tv ts ua va ra fla c8 rws tm V) h') (W_Try (L := L) sub_te_b nt_te ?_) ?_)
  · k_search "tt"
    refine W_newList H (by simp) ?_
    intro D0 h2 H
    replace H := H.swap
    obtain ⟨g2, l2, s2, H9⟩ := H.give
    clear H
    have H := H9
    clear H9
    have s2 : Lst g2 D0 [.ref x] := s2
    replace Wd := Wd.up l2
    replace lc := lc.up l2
    replace thx := thx.up l2
    have l12 := l1.trans l2
    k_search "tt"
    refine W_Dict1 H Wd ?_
    intro D1 h3 H
    k_search "tt"
    refine W_sub_tupN (j := j) ((nT.up l12).up H.le) rfl en9 (by omega) ?_
    k_search "tt"
    refine W_sub_listN (j := j) ((uL.up l12).up H.le) rfl eu (by omega) ?_
    refine ⟨_, tn, _, _, _, rfl, H, fun h4 H => ?_⟩
    obtain ⟨g3, l3, s3, H9⟩ := H.give
    clear H
    have H := H9
    clear H9
    have s3 : Sd C.w.params g3 D1 [nj] [.int (us.getD j 0) tu] := s3
    replace Wd := Wd.up l3
    replace lc := lc.up l3
    replace thx := thx.up l3
    k_search "tt"
    refine W_call (called_ok (n := n + 5) (P := fun g' v => nj ∈ (kcI rws).shs ∧ ∃ z', v = .ref z') (B := fun cls => nj ∉ (kcI rws).shs ∧ cls = .type "TypeError") H Wd (by k_search "stk") (r.le (by omega)) (.inl (s2.up l3)) s3 (by simp) (by simp) (by simp) (fun h' l => Kpr.fnT Wd l (by decide)) ?_ ?_ ?_)
    · intro A' p h' H' S' r'
      refine evolve_ok (n := n) (ws := [us.getD j 0]) ok H' Wd S' r' lc.kd ((nT.up l12).up l3) nS thx (.cons _ _ .nil) rfl (by simp) (by simp) (fun y hy => by rw [List.mem_singleton.mp hy]; exact ok.s1 _ nmem) (fun w hw => by rw [List.mem_singleton.mp hw]; omega) ub (fun m => ?_) (fun m => law_self.1 (List.mem_of_mem_take m)) ?_ ?_ ?_
      · rw [← List.mem_singleton.mp m] at nmem
        exact law_self.2.2.2 (List.mem_of_mem_take nmem)
      · intro hin _ z' g' h'' l t H''
        exact ⟨g', l, ⟨hin nj (by simp), z', rfl⟩, H''⟩
      · intro _ hp
        rw [e1, pr] at hp
        cases hp
      · rintro ⟨y, hy, hy2⟩ e g' h'' l X
        rw [List.mem_singleton.mp hy] at hy2
        exact ⟨e, _, g', rfl, l, ⟨hy2, rfl⟩, X⟩
    · rintro _ g4 h5 l4 ⟨hin, z', rfl⟩ H
      k_search "tt"
      refine ⟨rfl, g4, _, l2.trans (l3.trans l4), ?_, H⟩
      rw [is.mp hin]
      simp
    · rintro e cls g4 h5 l4 ⟨hin, rfl⟩ X
      replace Wd := Wd.up l4
      have sub : ∀ {ff : List (Option Value)} (p : Addr × Sp), p ∈ V → p ∈ (L, .frm lwX ff) :: celF ca rl tv ts ua va ra fla c8 rws tm V := fun p9 hp9 => by
        repeat (first | exact hp9 | apply List.mem_cons_of_mem)
      refine ⟨e, "TypeError", _, g4, _, rfl, sub_te, X, .inr (.inl rfl), Sb.sf S (.head _) sub, fun h1 X => ?_⟩
      have H := X.H
      k_search "tt"
      refine ⟨rfl, _, g4, _, X, fun h3 X => ?_⟩
      have H := X.H
      k_search "tt"
      refine ⟨rfl, g4, _, l2.trans (l3.trans l4), ?_, H⟩
      have : sj ≠ nj := fun e => hin (is.mpr e)
      simp [this]
  rintro h3 ⟨g2, v2', l2, hv2, H⟩
  replace Wd := Wd.up l2
  have l12 := l1.trans l2
  refine W_nxt 45 rfl ?_
  k_search "tt"
  rw [hv1]
  refine W_sub_tupN (j := j) ((sT.up l12).up H.le) rfl es9 (by omega) ?_
  k_search "tt"
  refine W_sub_tupN (j := j) ((nT.up l12).up H.le) rfl en9 (by omega) ?_
  k_search "tt"
  refine W_neb ?_
  rw [show ∀ b : Bool, (b != b) = false from fun b => by cases b <;> rfl]
  k_search "tt"
  rw [hv2]
  refine W_sub_tupN (j := j) ((sT.up l12).up H.le) rfl es9 (by omega) ?_
  k_search "tt"
  refine W_sub_tupN (j := j) ((nT.up l12).up H.le) rfl en9 (by omega) ?_
  k_search "tt"
  refine W_neb ?_
  rw [show ∀ b : Bool, (b != b) = false from fun b => by cases b <;> rfl]
  k_search "tt"
  exact q _ _ _ g2 _ l12 H
end

end
section
set_option maxHeartbeats 4000000
section
variable {C : Cfg} {A : Around} {g h : Heap} {V : Led} {n : Nat} {R : Result → Heap → Prop}
theorem segG1 {en : Env} {L rl tv ts sl k fa la ua va ra fla x a1 : Addr} {ca : Nat → Addr} {v0 v2 v4 v5 v6 w12 w13 w14 w15 w16 w17 w18 w19 w20 w21 w22 w23 w24 w25 w26 w27 w28 c8 : Option Value} {rws fs ls : List Int} {t1 tm : Tok} (F : Fe en L lawN lwX (lwC ca)) (S : Sb A en L V) (r : Rm A (n + 8)) (Wd : Wld C g)
    (lc : LcF C.w.params g rws rl tv ts sl k fa la ua va fs ls) (thx : Th C.w.params g x (.ref k) (kcI rws).nms (fs.map (rd (mM rws)))) (tha : Th C.w.params g a1 (.ref k) (kcI rws).nms (ls.map (rd (mM rws)))) (sf : Srt rws fs) (sls : Srt rws ls)
    (H : Hp C.w.params g ((L, .frm lwX (lfD v0 v2 v4 v5 v6 rws t1 sl k fa la x a1 w12 w13 w14 w15 w16 w17 w18 w19 w20 w21 w22 w23 w24 w25 w26 w27 w28 none)) :: celF ca rl tv ts ua va ra fla c8 rws tm V) h)
    (q : ∀ g' h', Le g g' → Hp C.w.params g' V h' → R (.ok (.ret (.bool true))) h') : LB C A en R 46 h := by
  dsimp only [celF, lfD] at H
  obtain ⟨eN, n2, n4⟩ := nN_eq rws
  have ok := kcI_ok rws
  have ul : (fs.map (rd (mM rws))).length = nN rws := sf.rdd.l
  have e0 : eRow (kcI rws) [] [] (fs.map (rd (mM rws))) = fs.map (rd (mM rws)) := (eRow_nil ul).trans sf.rdd.map
  have pr := passes_right (rws := rws) ul
  rw [sf.right] at pr
  obtain ⟨nv, nT, nS⟩ := lc.lf.t
  refine W_nxt 46 rfl ?_
  k_search "tt"
  refine W_call (evolve_ok (n := n + 3) (ks := []) (vs := []) (ws := []) ok H Wd (by k_search "stk") r lc.kd nT nS thx .nil rfl (by simp) (by simp) (by simp) (by simp) (fun w hw => by have := sf.rdd.b w hw; omega) (by simp) (fun m => law_self.1 (List.mem_of_mem_take m)) ?_ ?_ ?_)
  · intro _ _ sm g1 h1 l1 ths H
    rw [e0] at ths
    replace Wd := Wd.up l1
    replace lc := lc.up l1
    replace thx := thx.up l1
    replace tha := tha.up l1
    k_search "tt"
    refine W_nxt 47 rfl ?_
    k_search "tt"
    refine holdsW (n := n + 7) H Wd (by k_search "stk") r lc.lf ths lc.u sf.rdd.l sf.rdd.b ?_
    intro g2 h2 l2 H
    replace Wd := Wd.up l2
    replace lc := lc.up l2
    replace thx := thx.up l2
    replace tha := tha.up l2
    replace ths := ths.up l2
    k_search "tt"
    refine eqW (n := n + 6) H Wd (by k_search "stk") r lc.kd ths thx ?_
    intro g3 h3 l3 H
    replace Wd := Wd.up l3
    replace lc := lc.up l3
    replace thx := thx.up l3
    replace tha := tha.up l3
    rw [decide_eq_true rfl]
    k_search "tt"
    refine W_nxt 48 rfl ?_
    k_search "tt"
    refine W_and2 ?_
    k_search "tt"
    refine holdsW (n := n + 7) H Wd (by k_search "stk") r lc.lf thx lc.u sf.rdd.l sf.rdd.b ?_
    intro g4 h4 l4 H
    replace Wd := Wd.up l4
    replace lc := lc.up l4
    replace tha := tha.up l4
    k_search "tt"
    refine holdsW (n := n + 7) H Wd (by k_search "stk") r lc.lf tha lc.v sls.rdd.l sls.rdd.b ?_
    intro g5 h5 l5 H
    exact q g5 _ (l1.trans (l2.trans (l3.trans (l4.trans l5)))) H.drop.drop.drop.drop.drop.drop.drop.drop.drop.drop
  · intro _ hp
    rw [e0, pr] at hp
    cases hp
  · rintro ⟨y, hy, _⟩
    cases hy
theorem rows_len {ss : List Int} (h : ss.length ≤ 63) : 0 < (rowsI ss).length ∧ (rowsI ss).length < 64 := by
  unfold rowsI
  split
  · exact ⟨by simp, by simp⟩
  · rename_i hn
    refine ⟨?_, by omega⟩
    cases ss with
    | nil => exact absurd rfl hn
    | cons a b => simp
theorem law_all {en : Env} {L sa : Addr} {ca : Nat → Addr} {svals : List Value} {ss : List Int} (F : Fe en L lawN lwX (lwC ca)) (Fq : en.qual = Str.ofString "law.<locals>.") (Fc : en.code = .ref 609) (S : Sb A en L V) (r : Rm A 8) (Wd : Wld C g) (p1 : g.IsList sa svals.toArray) (hi : IntsAre svals ss) (hz : ss.length ≤ 63)
    (m1 : (569, .tab lcQ) ∈ V) (m2 : (576, .tab lrQ) ∈ V) (m3 : (276, .tab deQ) ∈ V) (m4 : (497, .tab ppQ) ∈ V) (m5 : (607, .tab lamQ) ∈ V)
    (H : Hp C.w.params g ((L, .frm lwX [some (.ref sa), none, none, none, none, none, none, none, none, none, none, none, none, none, none, none, none, none, none, none, none, none, none, none, none, none, none, none, none, none]) :: (lwL ca none none none none none none none none none ++ V)) h)
    (q : ∀ g' h', Le g g' → Hp C.w.params g' V h' → R (.ok (.ret (.bool true))) h') : LB C A en R 0 h := by
  obtain ⟨h0, h64⟩ := rows_len hz
  refine segA0 (n := 6) F S r Wd p1 hi hz H ?_
  intro rl rv g1 h1 l1 L1 I1 H
  replace Wd := Wd.up l1
  refine segA1 (n := 6) F S r Wd L1 I1 h0 h64 H ?_
  intro tm t1 t2 tv ts sl td g2 h2 l2 lf H
  replace Wd := Wd.up l2
  refine segB (n := 2) F S r Wd lf m1 m2 m3 H ?_
  intro vi vc cas g3 h3 l3 tj H
  replace Wd := Wd.up l3
  replace lf := lf.up l3
  refine segC0 (n := 0) F S r Wd lf h0 h64 m3 tj H ?_
  intro v5 k fa la fs ls g4 h4 l4 lf kd fI lI sf sls H
  replace Wd := Wd.up l4
  refine segC1 (n := 7) F S r Wd lf kd fI lI sf sls H ?_
  intro ua va g5 h5 l5 lc H
  replace Wd := Wd.up l5
  refine segC2 (n := 0) F S r Wd lc sf sls H ?_
  intro x a1 g6 h6 l6 lc thx tha H
  replace Wd := Wd.up l6
  refine segD0 (n := 6) F S r Wd m4 lc thx tha sf sls H ?_
  intro pa st da db g7 h7 l7 lc thx tha ps di oi H
  replace Wd := Wd.up l7
  refine segD1 (n := 0) F S r Wd lc thx tha ps sf sls di oi H ?_
  intro vi2 w14 w15 w16 g8 h8 l8 lc thx tha ps H
  replace Wd := Wd.up l8
  refine segE0 (n := 6) F S r Wd h0 h64 lc sf H ?_
  intro ka ks nd nv g9 h9 l9 kI kl nI H
  replace Wd := Wd.up l9
  replace lc := lc.up l9
  replace ps := ps.up l9
  replace thx := thx.up l9
  replace tha := tha.up l9
  refine segE1 (n := 0) F Fq Fc S r Wd m5 lc ps thx sf sls kI kl nI H ?_
  intro vi3 ww wt z row nv' g10 h10 l10 thz nI' rr H
  replace Wd := Wd.up l10
  replace lc := lc.up l10
  replace thx := thx.up l10
  replace tha := tha.up l10
  refine segE2 (n := 0) F S r Wd lc thz nI' rr H ?_
  intro w20 g11 h11 l11 H
  replace Wd := Wd.up l11
  replace lc := lc.up l11
  replace thx := thx.up l11
  replace tha := tha.up l11
  refine segF0 (n := 0) F S r Wd h0 h64 lc sf H ?_
  intro ra fla da2 ea g12 h12 l12 lg H
  replace Wd := Wd.up l12
  replace lc := lc.up l12
  replace thx := thx.up l12
  replace tha := tha.up l12
  refine segF1 (n := 0) F S r Wd lc lg thx sf H ?_
  intro w g13 h13 l13 thw H
  replace Wd := Wd.up l13
  replace lc := lc.up l13
  replace lg := lg.up l13
  replace thx := thx.up l13
  replace tha := tha.up l13
  refine segF2 (n := 0) F S r Wd lc lg thx thw sf H ?_
  intro w24 w25 g14 h14 l14 H
  replace Wd := Wd.up l14
  replace lc := lc.up l14
  replace lg := lg.up l14
  replace thx := thx.up l14
  replace tha := tha.up l14
  refine segG0 (n := 0) F S r Wd h0 h64 lc lg thx sf H ?_
  intro w26 w27 w28 g15 h15 l15 H
  replace Wd := Wd.up l15
  replace lc := lc.up l15
  replace thx := thx.up l15
  replace tha := tha.up l15
  refine segG1 (n := 0) F S r Wd lc thx tha sf sls H ?_
  intro g16 h16 l16 H
  exact q g16 h16 (l1.trans (l2.trans (l3.trans (l4.trans (l5.trans (l6.trans (l7.trans (l8.trans (l9.trans (l10.trans (l11.trans (l12.trans (l13.trans (l14.trans (l15.trans l16))))))))))))))) H
end

end
section
set_option maxHeartbeats 4000000
section
variable {C : Cfg} {A : Around} {g h : Heap} {V : Led} {n : Nat} {R : Result → Heap → Prop}
abbrev tabL : List (Addr × Addr) := [(580, 576), (573, 569), (501, 497), (482, 478), (280, 276), (609, 607)]
abbrev ledL : Led := [(576, .tab lrQ), (569, .tab lcQ), (497, .tab ppQ), (478, .tab fun _ => Str.empty), (276, .tab deQ), (607, .tab lamQ)]
theorem wld_of {p : Program} {loose : List Str} {mean : ExcName → Option Value} {mg mb : Str → Option Value} {h : Heap} {C : Cfg} (hT : TabsAt tabL h) (X : (hd.heap_39 C.w.params).In h) (T : Top p loose mean mg mb h) : Wld C (ghostOf h tabL) := by
  have T' := ghost_top hT T
  have c := ghost_code hT
  obtain ⟨c1, c2, c3, c4, c5, c6, _⟩ := c
  obtain ⟨bm, ob, b1, b2, b3, b4, b5, b6⟩ := T'.bmain
  refine ⟨ghost_K hT X (by kernel_rfl), ⟨mg, mb, T'.g, T'.b, T'.nolimit, T'.builtins⟩, ⟨mg, T'.g, bm, ob, b1, b2, b3, b4, b5, b6⟩, fun q hq => ?_⟩
  simp only [codesT, List.mem_cons, List.not_mem_nil, or_false] at hq
  rcases hq with rfl | rfl | rfl | rfl | rfl
  · exact c2
  · exact c1
  · exact c3
  · exact c5
  · exact c6
theorem hp_of {h : Heap} {C : Cfg} (hT : TabsAt tabL h) : Hp C.w.params (ghostOf h tabL) ledL h := by
  have at' : ∀ q ∈ tabL, h.get? q.2 = some (tabObj #[]) := fun q hq => (hT q hq).2
  have none' : ∀ q ∈ tabL, (ghostOf h tabL).get? q.2 = none := fun q hq => hideAll_none _ (List.mem_map_of_mem (f := (·.2)) hq)
  have one : ∀ q : Addr, ∀ f, h.get? q = some (tabObj #[]) → Sat C.w.params (ghostOf h tabL) h q (.tab f) := fun q f e => ⟨#[], e, by simp [TriplesOk], fun pos c z => by simp [codeAmong] at z⟩
  refine ⟨fun b o e => of_hideAll _ e, fun p hp => ?_, fun p hp => ?_, by decide⟩
  · simp only [ledL, List.mem_cons, List.not_mem_nil, or_false] at hp
    rcases hp with rfl | rfl | rfl | rfl | rfl | rfl
    · exact one _ _ (at' (580, 576) (by simp))
    · exact one _ _ (at' (573, 569) (by simp))
    · exact one _ _ (at' (501, 497) (by simp))
    · exact one _ _ (at' (482, 478) (by simp))
    · exact one _ _ (at' (280, 276) (by simp))
    · exact one _ _ (at' (609, 607) (by simp))
  · simp only [ledL, List.mem_cons, List.not_mem_nil, or_false] at hp
    rcases hp with rfl | rfl | rfl | rfl | rfl | rfl
    · exact none' (580, 576) (by simp)
    · exact none' (573, 569) (by simp)
    · exact none' (501, 497) (by simp)
    · exact none' (482, 478) (by simp)
    · exact none' (280, 276) (by simp)
    · exact none' (609, 607) (by simp)
theorem grown_of {g' h' : Heap} {P : Params} (H : Hp P g' ledL h') : GrownAll tabL h' := by
  have one : ∀ {q : Addr} {f}, (q, Sp.tab f) ∈ ledL → GrownAt q h' := fun {q f} m => by
    obtain ⟨ps, e, _⟩ := H.at m
    exact ⟨ps, e⟩
  exact ⟨one (f := lrQ) (by simp [ledL]), one (f := lcQ) (by simp [ledL]), one (f := ppQ) (by simp [ledL]), one (f := fun _ => Str.empty) (by simp [ledL]), one (f := deQ) (by simp [ledL]), one (f := lamQ) (by simp [ledL]), trivial⟩
theorem rec_ghost {h : Heap} {cd : Value} {x : Str} (hT : TabsAt tabL h) (r : h.CodeRec cd x) : (ghostOf h tabL).CodeRec cd x := by
  obtain ⟨c, o, vs, t, e, g, d, v⟩ := r
  refine ⟨c, o, vs, t, e, ghost_get hT g (fun z => ?_), d, v⟩
  rw [z] at d
  cases d
  simp at v
end

end
section
set_option maxHeartbeats 4000000
section
variable {C : Cfg} {A : Around} {g h : Heap} {V : Led} {n : Nat} {R : Result → Heap → Prop}
def recOf {q : Program} {loose : List Str} {XP : (Str → Option Value) → Heap → Prop} {YP : World → Heap → Prop} {r : RowW} {d : DefRec} {kwd : List (Str × PySem.Expr)} {run : Value → List Value → Sem Value} {P : Prop} (_ : WalkO q loose XP YP r d kwd run → P) : DefRec := d
theorem law_entry {p : Program} {loose : List Str} {mean : ExcName → Option Value} {mg mb : Str → Option Value} {h : Heap} {C : Cfg} {fa la : Addr} {o : Obj} {pm doc : Value} {vals : List Value} {ss : List Int} (hT : TabsAt tabL h) (X : (hd.heap_39 C.w.params).In h) (T : Top p loose mean mg mb h)
    (ho : h.get? fa = some o) (hdd : o.data = .func { docDef (recOf hd).name (recOf hd).params (recOf hd).body (recOf hd).scope pm (.ref 609) doc with defaults := .none, kwdefaults := .none }) (hcd : h.CodeRec (.ref 609) (recOf hd).name)
    (hL : h.IsList la vals.toArray) (hI : IntsAre vals ss) (hz : ss.length ≤ 63) :
    CW C callerA (.call (.ref fa) ⟨[.ref la], []⟩) (fun r h' => r = .ok (.ret (.bool true)) ∧ ∃ g', Le (ghostOf h tabL) g' ∧ Hp C.w.params g' ledL h') h := by
  have Wd := wld_of (C := C) hT X T
  have H := hp_of (C := C) hT
  have ho' := ghost_get hT ho (fun q => by rw [q] at hdd; cases hdd)
  have hcd' := rec_ghost hT hcd
  have hL' := ghost_list hT hL
  refine CW_fnK (xs := lwX) (cn := [Str.ofString "rows", Str.ofString "m", Str.ofString "names", Str.ofString "short", Str.ofString "u", Str.ofString "v", Str.ofString "flags", Str.ofString "raw", Str.ofString "keys"]) (binds := [(Str.ofString "script", .ref la)]) (vs := [some (.ref la), none, none, none, none, none, none, none, none, none, none, none, none, none, none, none, none, none, none, none, none, none, none, none, none, none, none, none, none, none]) (n := 8) (ccl := lwC) (cled := fun ca => lwL ca none none none none none none none none none) (ns := lawN) (body := lawB.drop 0) H Wd ⟨[], rfl, fun _ h => nomatch h⟩ ⟨by decide, by decide, rfl, rfl⟩ ho' hdd hcd' rfl (Looks.of_pure (by kernel_rfl)) rfl ⟨⟨rfl, rfl⟩, rfl⟩ ⟨⟨rfl, rfl⟩, rfl⟩ (by kernel_rfl) (by decide +kernel) (by kernel_rfl) (by kernel_rfl) (by kernel_rfl) (by decide +kernel) (by kernel_rfl) (fun _ => rfl) (fun _ => by kernel_rfl) ?_
  intro L ca en A h1 H F Fq Fs S r
  refine law_all F (Fq.2.1.trans (by kernel_rfl)) Fq.2.2 S r Wd hL' hI hz (by simp [ledL]) (by simp [ledL]) (by simp [ledL]) (by simp [ledL]) (by simp [ledL]) H ?_
  intro g' h' l H
  exact ⟨rfl, g', l, H⟩
end

end
end Pre
end Mine
set_option maxHeartbeats 8000000 in
theorem PySem.Challenge.cw_at6004_01_holds : PySem.Challenge.rw_at6004_01.Holds := by
  refine hd ?_
  k_fill
  intro w s₀ s₁ mg mb G Y fa o pm cd doc dV kV ho hdd hcd hD hmg hg args vals as hpre hlay hrd hwl hlo
  have KX := km_in_of Y
  km_tabs Y
  have X := (Ground.X G).1
  have V := (Ground.X G).2
  refine Ground.open G ?_
  intro T B D TE TW
  try (refine guard_noD D (by decide +kernel) ?_; clear D)
  km_lay T hmg ho hdd cd
  wrow_args hpre hlay hrd hwl hlo
  clear X V G Y hmg TE TW B
  rename_i ss b1 b2 b3 b4 b5 b6 b7 la vals2 b8 hL b9 b10 b11 hI b12 hc b13
  clear b1 b2 b3 b4 b5 b9 b10 b11 b12 b13
  refine enter_call ?_
  refine kn_post hT9 (fun _ _ => rfl) ?_
  rcases hD.pos with ⟨_, hdv⟩ | ⟨hne, _⟩
  case inr => exact absurd rfl hne
  rcases hD.kw with ⟨_, hkv⟩ | ⟨hne, _⟩
  case inr => exact absurd rfl hne
  clear hD
  subst hdv
  subst hkv
  have cw := Mine.law_entry (C := ⟨PySem.Challenge.rw_at6004_01.row.prog, w, s₁.gens, s₁.drawn, s₁.os⟩) hT9 KX T ho hdd hcd hL hI (by omega)
  clear hdd hcd ho
  refine codeAny_mono (cw s₁.toks) fun r s' z => ?_
  obtain ⟨h', k', rfl, rfl, g', l, H'⟩ := z
  exact ⟨⟨.inl ⟨.bool true, .bool true, [], rfl, fun _ => rfl, .bool true, (by kernel_rfl), fun _ => ⟨.nil, fun _ h => nomatch h⟩⟩, fun b o e => H'.le _ _ (l _ _ e), rfl, hg⟩, Mine.grown_of H'⟩

