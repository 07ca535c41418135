import PyProof.Rows.All
import Wide.All
import OpenK.AllK
import Wide.FinOn
import PySem.Challenge.RW_tl0026_01
open PySem PySem.W PyProof.Rows
set_option Elab.async false

section
open PySem PySem.W PyProof.Rows
namespace Mine
section
local macro_rules
  | `(tactic| o_head $H) => `(tactic| (have hook := $H; clear hook; assumption))
set_option maxRecDepth 100000 in
set_option maxHeartbeats 8000000 in
theorem pre (x : OpenRow.Holds (OpenLaw.row PySem.Challenge.rw_tl0026_01)) : OpenRow.Holds (OpenLaw.row PySem.Challenge.rw_tl0026_01) := by
  w_on
  k_head
end
end Mine
end

section
open PySem PySem.W PyProof.Rows
set_option maxRecDepth 100000
set_option maxHeartbeats 8000000
namespace Mine
/-- all but the modules' names -/
def kept (s : Stmt) : Bool := match s with
  | .Assign .. => false
  | _ => true
noncomputable def seen : Program := { PySem.Challenge.pw_tl0026_01 with main := { PySem.Challenge.pw_tl0026_01.main with body := PySem.Challenge.pw_tl0026_01.main.body.filter kept } }
noncomputable abbrev Kf : Params → Frag := pre.heap_1
def ads : List Addr := [2, 3, 15, 17, 18, 20, 21, 22, 24, 25, 27, 28, 29, 31, 32, 34, 35, 46, 48, 49, 51, 52, 53, 55, 56, 58, 59, 60, 62, 63,   65, 66, 67, 69, 70, 72, 73, 74, 76, 77, 79, 80, 81, 83, 84, 86, 87, 88, 90, 91, 93, 94, 95, 96, 97, 98, 99, 102, 104,   105, 107, 108, 109, 111, 112, 114, 115, 116, 118, 119, 121, 122, 123, 125, 126, 128, 129, 130, 132, 133, 135, 136,   137, 140, 141, 142, 145, 146, 147, 150, 151, 152, 155, 156, 157, 160, 161, 162, 165, 166]
theorem ads_eq : ∀ P, ads = (Kf P).map (·.1) := fun P => by kernel_rfl
noncomputable abbrev hook : Hook := kHook Kf ads ads_eq
noncomputable abbrev looks (s : Shared) : Bool := xlAt seen [] s && recOk (RowW.records (OpenRow.toRowW (OpenLaw.row PySem.Challenge.rw_tl0026_01))) s
abbrev Ran (w : World) : Prop := (openEnds treeTable PySem.Challenge.pw_tl0026_01 w 1998).map (fun s => (openSeen seen [Str.ofString "Whitespace"] (importedModules PySem.Challenge.pw_tl0026_01.main.body) looks true s, Hook.obs hook s)) = some (openGood seen [Str.ofString "Whitespace"], Hook.val hook w)
theorem ranF : ∀ w : World, Ran (w.withFollow "special-get-raises" false) := fun w => by kernel_rfl
theorem ranT : ∀ w : World, Ran (w.withFollow "special-get-raises" true) := fun w => by kernel_rfl
theorem left : LeftO PySem.Challenge.pw_tl0026_01 seen [Str.ofString "Whitespace"] looks (Hook.obs hook) (Hook.val hook) 1998 := byRow2 "special-get-raises" ranF ranT
end Mine
end

section
open PySem PySem.Spec PySem.Calls PySem.W PyProof.Rows
set_option maxRecDepth 100000
set_option linter.all false
namespace Mine

abbrev prog : Program := PySem.Challenge.rw_tl0026_01.row.prog

/-- plain data -/
inductive D where
  | none | bool (b : Bool) | int (i : Int) | flt (x : UInt64) | str (x : PySem.Str)
  | list (l : List D) | tup (l : List D) | dict (l : List (PySem.Str × PySem.Str)) | obj (C : Nat) (l : List (PySem.Str × D)) | range (a b : Int) | val (v : Value)

abbrev Vars := List (PySem.Str × D)

def Kp (W : Addr → Prop) (h h' : Heap) : Prop := ∀ b o, ¬ W b → h.get? b = some o → h'.get? b = some o
def nil : Addr → Prop := fun _ => False

theorem Kp.refl (W) (h : Heap) : Kp W h h := fun _ _ _ e => e
theorem Kp.trans {W} {h h' h'' : Heap} (a : Kp W h h') (b : Kp W h' h'') : Kp W h h'' := fun x o n e => b x o n (a x o n e)
theorem Kp.mono {W W' : Addr → Prop} {h h' : Heap} (a : Kp W h h') (hs : ∀ x, W x → W' x) : Kp W' h h' := fun x o n e => a x o (fun q => n (hs x q)) e

/-- nothing else is named -/
def Only (m : PySem.Str → Option Value) (l : List PySem.Str) : Prop := ∀ k, k ∉ l → m k = none
/-- the namespace of an object of a class -/
def InstNs (h : Heap) (x C : Addr) (m : PySem.Str → Option Value) (dx : Addr) : Prop := h.get? x = some (instObj C dx) ∧ ∃ es n, h.get? dx = some (dictOf es n) ∧ (∀ k, (es.find? fun e => e.key.isStr k).map (·.val) = m k) ∧ es.any (·.refKey) = false ∧ es.length ≤ 50

mutual
def Rep (w : World) (Z : Addr → Prop) (h : Heap) : Value → D → Prop
  | v, .none => v = .none
  | v, .bool b => v = .bool b
  | v, .int i => ∃ t, v = .int i t
  | v, .flt x => ∃ t, v = .float x t
  | v, .str x => ∃ t, v = .str x t
  | v, .list l => ∃ a vs, v = .ref a ∧ ¬ Z a ∧ h.PlainList a (List.toArray vs) ∧ RepL w Z h vs l
  | v, .tup l => ∃ a vs, v = .ref a ∧ ¬ Z a ∧ IsTup h a (List.toArray vs) ∧ RepL w Z h vs l
  | v, .dict l => ∃ a f, v = .ref a ∧ ¬ Z a ∧ (a == sysModules) = false ∧ h.MapOf (strKind prog w) a f ∧ ∀ k, match l.lookup k with | some x => ∃ t, f k = some (.str x t) | none => f k = none
  | v, .range a b => ∃ r t u k, v = .ref r ∧ ¬ Z r ∧ IsRange h r a b 1 t u k
  | v, .val u => v = u
  | v, .obj C l => ∃ x dx m, v = .ref x ∧ ¬ Z x ∧ ¬ Z dx ∧ InstNs h x C m dx ∧ RepF w Z h m l ∧ Only m (l.map (·.1))
def RepL (w : World) (Z : Addr → Prop) (h : Heap) : List Value → List D → Prop
  | [], [] => True
  | v :: vs, d :: ds => Rep w Z h v d ∧ RepL w Z h vs ds
  | [], _ :: _ => False
  | _ :: _, [] => False
def RepF (w : World) (Z : Addr → Prop) (h : Heap) (m : PySem.Str → Option Value) : List (PySem.Str × D) → Prop
  | [] => True
  | (x, d) :: r => (∃ v, m x = some v ∧ Rep w Z h v d) ∧ RepF w Z h m r
end

theorem _root_.PySem.Heap.PlainList.kp {W : Addr → Prop} {h h' : Heap} {a} {l} (x : h.PlainList a l) (k : Kp W h h') (n : ¬ W a) : h'.PlainList a l := let ⟨i, e⟩ := x; ⟨i, k _ _ n e⟩
theorem isTup_kp {W : Addr → Prop} {h h' : Heap} {a} {l} (x : IsTup h a l) (k : Kp W h h') (n : ¬ W a) : IsTup h' a l := let ⟨o, e, r⟩ := x; ⟨o, k _ _ n e, r⟩

mutual
theorem Rep.kp {w : World} {Z W : Addr → Prop} {h h' : Heap} (k : Kp W h h') (hs : ∀ x, W x → Z x) : ∀ (v : Value) (d : D), Rep w Z h v d → Rep w Z h' v d
  | v, .none, r => by simpa only [Rep] using r
  | v, .bool b, r => by simpa only [Rep] using r
  | v, .val b, r => by simpa only [Rep] using r
  | v, .int i, r => by simpa only [Rep] using r
  | v, .flt i, r => by simpa only [Rep] using r
  | v, .str i, r => by simpa only [Rep] using r
  | v, .list l, r => by
    rw [Rep] at r ⊢
    obtain ⟨a, vs, e, n, p, q⟩ := r
    exact ⟨a, vs, e, n, p.kp k fun z => n (hs _ z), RepL.kp k hs vs l q⟩
  | v, .tup l, r => by
    rw [Rep] at r ⊢
    obtain ⟨a, vs, e, n, p, q⟩ := r
    exact ⟨a, vs, e, n, isTup_kp p k fun z => n (hs _ z), RepL.kp k hs vs l q⟩
  | v, .dict l, r => by
    rw [Rep] at r ⊢
    obtain ⟨a, f, e, n, s, ⟨o, es, ep, ho, p⟩, q⟩ := r
    exact ⟨a, f, e, n, s, ⟨o, es, ep, k _ _ (fun z => n (hs _ z)) ho, p⟩, q⟩
  | v, .range a b, r => by
    rw [Rep] at r ⊢
    obtain ⟨x, t, u, j, e, n, p⟩ := r
    exact ⟨x, t, u, j, e, n, k _ _ (fun z => n (hs _ z)) p⟩
  | v, .obj C l, r => by
    rw [Rep] at r ⊢
    obtain ⟨x, dx, m, e, n, n', ⟨p, es, i, p', p''⟩, q, on⟩ := r
    exact ⟨x, dx, m, e, n, n', ⟨k _ _ (fun z => n (hs _ z)) p, es, i, k _ _ (fun z => n' (hs _ z)) p', p''⟩, RepF.kp k hs m l q, on⟩
theorem RepL.kp {w : World} {Z W : Addr → Prop} {h h' : Heap} (k : Kp W h h') (hs : ∀ x, W x → Z x) : ∀ (vs : List Value) (ds : List D), RepL w Z h vs ds → RepL w Z h' vs ds
  | [], [], r => by simpa only [RepL] using r
  | v :: vs, d :: ds, r => by
    rw [RepL] at r ⊢
    exact ⟨Rep.kp k hs v d r.1, RepL.kp k hs vs ds r.2⟩
  | [], _ :: _, r => by rw [RepL] at r; exact r.elim
  | _ :: _, [], r => by rw [RepL] at r; exact r.elim
theorem RepF.kp {w : World} {Z W : Addr → Prop} {h h' : Heap} (k : Kp W h h') (hs : ∀ x, W x → Z x) (m : PySem.Str → Option Value) : ∀ (ds : List (PySem.Str × D)), RepF w Z h m ds → RepF w Z h' m ds
  | [], r => by simpa only [RepF] using r
  | (x, d) :: ds, r => by
    rw [RepF] at r ⊢
    obtain ⟨⟨v, e, q⟩, r⟩ := r
    exact ⟨⟨v, e, Rep.kp k hs v d q⟩, RepF.kp k hs m ds r⟩
end

mutual
theorem Rep.zz {w : World} {Z Z' : Addr → Prop} {h : Heap} (hs : ∀ x o, h.get? x = some o → Z' x → Z x) : ∀ (v : Value) (d : D), Rep w Z h v d → Rep w Z' h v d
  | v, .none, r => by simpa only [Rep] using r
  | v, .bool b, r => by simpa only [Rep] using r
  | v, .val b, r => by simpa only [Rep] using r
  | v, .int i, r => by simpa only [Rep] using r
  | v, .flt i, r => by simpa only [Rep] using r
  | v, .str i, r => by simpa only [Rep] using r
  | v, .list l, r => by
    rw [Rep] at r ⊢
    obtain ⟨a, vs, e, n, p, q⟩ := r
    exact ⟨a, vs, e, fun z => n (let ⟨_, e⟩ := p; hs _ _ e z), p, RepL.zz hs vs l q⟩
  | v, .tup l, r => by
    rw [Rep] at r ⊢
    obtain ⟨a, vs, e, n, p, q⟩ := r
    exact ⟨a, vs, e, fun z => n (let ⟨_, e, _⟩ := p; hs _ _ e z), p, RepL.zz hs vs l q⟩
  | v, .dict l, r => by
    rw [Rep] at r ⊢
    obtain ⟨a, f, e, n, s, ⟨o, es, ep, ho, p⟩, q⟩ := r
    exact ⟨a, f, e, fun z => n (hs _ _ ho z), s, ⟨o, es, ep, ho, p⟩, q⟩
  | v, .range a b, r => by
    rw [Rep] at r ⊢
    obtain ⟨x, t, u, j, e, n, p⟩ := r
    exact ⟨x, t, u, j, e, fun z => n (hs _ _ p z), p⟩
  | v, .obj C l, r => by
    rw [Rep] at r ⊢
    obtain ⟨x, dx, m, e, n, n', ⟨p, es, i, p', p''⟩, q, on⟩ := r
    exact ⟨x, dx, m, e, fun z => n (hs _ _ p z), fun z => n' (hs _ _ p' z), ⟨p, es, i, p', p''⟩, RepF.zz hs m l q, on⟩
theorem RepL.zz {w : World} {Z Z' : Addr → Prop} {h : Heap} (hs : ∀ x o, h.get? x = some o → Z' x → Z x) : ∀ (vs : List Value) (ds : List D), RepL w Z h vs ds → RepL w Z' h vs ds
  | [], [], r => by simpa only [RepL] using r
  | v :: vs, d :: ds, r => by
    rw [RepL] at r ⊢
    exact ⟨Rep.zz hs v d r.1, RepL.zz hs vs ds r.2⟩
  | [], _ :: _, r => by rw [RepL] at r; exact r.elim
  | _ :: _, [], r => by rw [RepL] at r; exact r.elim
theorem RepF.zz {w : World} {Z Z' : Addr → Prop} {h : Heap} (hs : ∀ x o, h.get? x = some o → Z' x → Z x) (m : PySem.Str → Option Value) : ∀ (ds : List (PySem.Str × D)), RepF w Z h m ds → RepF w Z' h m ds
  | [], r => by simpa only [RepF] using r
  | (x, d) :: ds, r => by
    rw [RepF] at r ⊢
    obtain ⟨⟨v, e, q⟩, r⟩ := r
    exact ⟨⟨v, e, Rep.zz hs v d q⟩, RepF.zz hs m ds r⟩
end

theorem RepL.length {w : World} {Z : Addr → Prop} {h : Heap} : ∀ (vs : List Value) (ds : List D), RepL w Z h vs ds → vs.length = ds.length
  | [], [], _ => rfl
  | v :: vs, d :: ds, r => by
    rw [RepL] at r
    rw [List.length_cons, List.length_cons, RepL.length vs ds r.2]
  | [], _ :: _, r => by rw [RepL] at r; exact r.elim
  | _ :: _, [], r => by rw [RepL] at r; exact r.elim

theorem RepL.get {w : World} {Z : Addr → Prop} {h : Heap} : ∀ (vs : List Value) (ds : List D) (i : Nat) (v : Value), RepL w Z h vs ds → vs[i]? = some v → ∃ d, ds[i]? = some d ∧ Rep w Z h v d
  | [], [], i, v, _, e => by simp at e
  | u :: vs, d :: ds, 0, v, r, e => by
    rw [RepL] at r
    simp at e
    subst e
    exact ⟨d, rfl, r.1⟩
  | u :: vs, d :: ds, i + 1, v, r, e => by
    rw [RepL] at r
    simp at e
    simpa using RepL.get vs ds i v r.2 e
  | [], _ :: _, _, _, r, _ => by rw [RepL] at r; exact r.elim
  | _ :: _, [], _, _, r, _ => by rw [RepL] at r; exact r.elim
theorem RepL.get' {w : World} {Z : Addr → Prop} {h : Heap} {vs : List Value} {ds : List D} {i : Nat} {d : D} (r : RepL w Z h vs ds) (e : ds[i]? = some d) : ∃ v, vs[i]? = some v ∧ Rep w Z h v d := by
  have hl := RepL.length vs ds r
  have hi : i < vs.length := by
    rw [hl]
    exact (List.getElem?_eq_some_iff.mp e).1
  obtain ⟨d', e', r'⟩ := RepL.get vs ds i vs[i] r (by simp [hi])
  rw [e] at e'
  cases e'
  exact ⟨_, by simp [hi], r'⟩
theorem RepL.append {w : World} {Z : Addr → Prop} {h : Heap} : ∀ (vs : List Value) (ds : List D) (us : List Value) (es : List D), RepL w Z h vs ds → RepL w Z h us es → RepL w Z h (vs ++ us) (ds ++ es)
  | [], [], _, _, _, q => q
  | v :: vs, d :: ds, us, es, r, q => by
    rw [RepL] at r
    rw [List.cons_append, List.cons_append, RepL]
    exact ⟨r.1, RepL.append vs ds us es r.2 q⟩
  | [], _ :: _, _, _, r, _ => by rw [RepL] at r; exact r.elim
  | _ :: _, [], _, _, r, _ => by rw [RepL] at r; exact r.elim
theorem RepL.snoc {w : World} {Z : Addr → Prop} {h : Heap} {vs : List Value} {ds : List D} {v : Value} {d : D} (r : RepL w Z h vs ds) (q : Rep w Z h v d) : RepL w Z h (vs ++ [v]) (ds ++ [d]) :=
  RepL.append vs ds [v] [d] r (by simp only [RepL, and_true]; exact q)

/-- what stands of the module, in every heap of the call -/
structure Base (w : World) (mg mb : PySem.Str → Option Value) (h : Heap) : Prop where
  K : (Kf w.params).In h
  g : h.Ns mainGlobals mg
  b : h.Ns builtinsNs mb
  nolimit : h.NoLimit
  builtins : ∀ x : PySem.Str, x ≠ "__name__" → mb x = bootBuiltins x
theorem Base.keeps {w : World} {mg mb} {h h' : Heap} (B : Base w mg mb h) (k : ∀ b o, h.get? b = some o → h'.get? b = some o) : Base w mg mb h' :=
  ⟨B.K.keeps k, B.g.keeps k, B.b.keeps k, B.nolimit.keeps k, B.builtins⟩

/-- a variable's value -/
def Look (env : Env) (h : Heap) (x : PySem.Str) (v : Value) : Prop :=
  (env.kindOf x = some .local ∧ ∃ m, h.Ns env.locals m ∧ m x = some v) ∨ (∃ c, (env.kindOf x = some .cell ∨ env.kindOf x = some .free) ∧ env.cells.lookup x = some c ∧ h.IsCell c (some v))
theorem Look.keeps {env : Env} {h h' : Heap} {x v} (l : Look env h x v) (k : ∀ b o, h.get? b = some o → h'.get? b = some o) : Look env h' x v := by
  rcases l with ⟨a, m, b, c⟩ | ⟨c, a, b, d⟩
  · exact .inl ⟨a, m, b.keeps k, c⟩
  · exact .inr ⟨c, a, b, d.keeps k⟩

structure St (w : World) (mg mb : PySem.Str → Option Value) (Z : Addr → Prop) (env : Env) (m : Vars) (h : Heap) : Prop where
  base : Base w mg mb h
  zin : ∀ a, Z a → ∃ o, h.get? a = some o
  vars : ∀ x d, m.lookup x = some d → ∃ v, Look env h x v ∧ Rep w Z h v d
theorem Kp.of {h h' : Heap} (k : ∀ b o, h.get? b = some o → h'.get? b = some o) : Kp nil h h' := fun b o _ e => k b o e
theorem Kp.keeps {h h' : Heap} (k : Kp nil h h') : ∀ b o, h.get? b = some o → h'.get? b = some o := fun b o e => k b o (fun z => z) e
theorem Rep.keeps {w : World} {Z : Addr → Prop} {h h' : Heap} {v d} (r : Rep w Z h v d) (k : ∀ b o, h.get? b = some o → h'.get? b = some o) : Rep w Z h' v d := Rep.kp (Kp.of k) (fun _ z => z.elim) v d r
theorem RepL.keeps {w : World} {Z : Addr → Prop} {h h' : Heap} {v d} (r : RepL w Z h v d) (k : ∀ b o, h.get? b = some o → h'.get? b = some o) : RepL w Z h' v d := RepL.kp (Kp.of k) (fun _ z => z.elim) v d r
theorem St.keeps {w mg mb Z env m} {h h' : Heap} (S : St w mg mb Z env m h) (k : ∀ b o, h.get? b = some o → h'.get? b = some o) : St w mg mb Z env m h' :=
  ⟨S.base.keeps k, fun a z => let ⟨o, e⟩ := S.zin a z; ⟨o, k _ _ e⟩, fun x d e => let ⟨v, l, r⟩ := S.vars x d e; ⟨v, l.keeps k, r.keeps k⟩⟩
theorem St.fresh {w mg mb Z env m} {h : Heap} (S : St w mg mb Z env m h) : ¬ Z h.objs.size := fun z => let ⟨_, e⟩ := S.zin _ z; Nat.lt_irrefl _ (Heap.lt_size e)
structure Ks (s s' : Shared) : Prop where
  same : ∃ h' tk, s' = { s with heap := h', toks := tk }
  heap : ∀ b o, s.heap.get? b = some o → s'.heap.get? b = some o
  tok : 1 ≤ s'.toks
theorem Ks.rfl' (s : Shared) (T : 1 ≤ s.toks) : Ks s s := ⟨⟨s.heap, s.toks, by cases s; rfl⟩, fun _ _ e => e, T⟩
theorem Ks.tk (s : Shared) (t : Nat) (h : 1 ≤ t) : Ks s { s with toks := t } := ⟨⟨s.heap, t, rfl⟩, fun _ _ e => e, h⟩
theorem Ks.trans' {s s' s'' : Shared} (a : Ks s s') (b : Ks s' s'') : Ks s s'' := by
  obtain ⟨⟨h, t, rfl⟩, p, _⟩ := a
  obtain ⟨⟨h', t', rfl⟩, q, r⟩ := b
  exact ⟨⟨h', t', rfl⟩, fun x o e => q x o (p x o e), r⟩
theorem Ks.of {s : Shared} {h' : Heap} {tk : Nat} (T : 1 ≤ tk) (k : ∀ b o, s.heap.get? b = some o → h'.get? b = some o) : Ks s { s with heap := h', toks := tk } := ⟨⟨h', tk, rfl⟩, k, T⟩
theorem Ks.keeps {s s' : Shared} (k : Ks s s') : Keeps s s' := let ⟨h', tk, e⟩ := k.same; ⟨h', tk, e, by have := k.heap; subst e; exact this⟩
theorem Ks.push (s : Shared) (o : Obj) (T : 1 ≤ s.toks) : Ks s { s with heap := s.heap.push o } := ⟨⟨_, s.toks, rfl⟩, fun _ _ e => Heap.get?_push_of_some _ e, T⟩
/-- behind a run the tokens have grown -/
theorem tokd {M : Model} {A : Around} {α : Type} {t : Sem α} {Q : α → Shared → Prop} {E : Value → Shared → Prop} {s : Shared} (T : 1 ≤ s.toks) (h : wpAny M A t (fun v s' => 1 ≤ s'.toks → Q v s') E s) : wpAny M A t Q E s :=
  wpAny_mono (wpAny_toks_of T h) (fun _ _ h => h.2 h.1) fun _ _ h => h.2

/-- room for calls: handled none, depth, units -/
structure Room (A : Around) (n : Nat) : Prop where
  handled : A.handled = none
  depth : A.depth + n < recursionLimit
  units : A.units + 16 * n < cLine
theorem Room.of_le {A : Around} {n m : Nat} (r : Room A n) (h : m ≤ n) : Room A m := ⟨r.handled, by have := r.depth; omega, by have := r.units; omega⟩

section
variable (w : World) (mg mb : PySem.Str → Option Value)
structure Ev (A : Around) (env : Env) (m : Vars) (e : Expr) (d : D) : Prop where
  run : ∀ (Z : Addr → Prop) (s : Shared) (Q : Value → Shared → Prop) (E : Value → Shared → Prop), 1 ≤ s.toks → St w mg mb Z env m s.heap →
    (∀ v s', Ks s s' → Rep w Z s'.heap v d → Q v s') → wpAny (model prog w) A (eval e env) Q E s
structure EvT (A : Around) (env : Env) (m : Vars) (e : Expr) (b : Bool) : Prop where
  run : ∀ (Z : Addr → Prop) (s : Shared) (Q : Bool → Shared → Prop) (E : Value → Shared → Prop), 1 ≤ s.toks → St w mg mb Z env m s.heap →
    (∀ s', Ks s s' → Q b s') → wpAny (model prog w) A (isTrue e env (eval e env)) Q E s
/-- an operation of two values -/
structure Op2 (A : Around) (f : Value → Value → Sem Value) (a b d : D) : Prop where
  run : ∀ (Z : Addr → Prop) (s : Shared) (u v : Value) (Q : Value → Shared → Prop) (E : Value → Shared → Prop), 1 ≤ s.toks → Base w mg mb s.heap → (∀ a, Z a → ∃ o, s.heap.get? a = some o) → Rep w Z s.heap u a → Rep w Z s.heap v b →
    (∀ v s', Ks s s' → Rep w Z s'.heap v d → Q v s') → wpAny (model prog w) A (f u v) Q E s
/-- an operation of a list of values -/
structure OpL (A : Around) (f : List Value → Sem Value) (as : List D) (d : D) : Prop where
  run : ∀ (Z : Addr → Prop) (s : Shared) (vs : List Value) (Q : Value → Shared → Prop) (E : Value → Shared → Prop), 1 ≤ s.toks → Base w mg mb s.heap → (∀ a, Z a → ∃ o, s.heap.get? a = some o) → RepL w Z s.heap vs as →
    (∀ v s', Ks s s' → Rep w Z s'.heap v d → Q v s') → wpAny (model prog w) A (f vs) Q E s
end

section
variable {w : World} {mg mb : PySem.Str → Option Value} {A : Around} {env : Env} {m : Vars}

theorem Ev.binop {op l r pos a b d} (hl : Ev w mg mb A env m l a) (hr : Ev w mg mb A env m r b) (ho : Op2 w mg mb A (binaryOp op) a b d) : Ev w mg mb A env m (.BinOp l op r pos) d := by
  refine ⟨?_⟩; intro Z s Q E T S hQ
  refine wpAny_BinOp (hl.run Z s _ E T S fun v s₁ k₁ r₁ => hr.run Z s₁ _ E k₁.tok (S.keeps k₁.heap) fun u s₂ k₂ r₂ => ?_)
  exact ho.run Z s₂ v u Q E k₂.tok (S.base.keeps (k₁.trans' k₂).heap) (fun a z => let ⟨o, e⟩ := S.zin a z; ⟨o, (k₁.trans' k₂).heap _ _ e⟩) (r₁.keeps k₂.heap) r₂ fun v s' k r => hQ v s' ((k₁.trans' k₂).trans' k) r

theorem Ev.cmp1 {op l r pos a b d} (hl : Ev w mg mb A env m l a) (hr : Ev w mg mb A env m r b) (ho : Op2 w mg mb A (compareOp op) a b d)
    (hm : behindInMarks op r = false := by with_unfolding_all rfl) : Ev w mg mb A env m (.Compare l [op] [r] pos) d := by
  refine ⟨?_⟩; intro Z s Q E T S hQ
  refine wpAny_Compare1 (hl.run Z s _ E T S fun v s₁ k₁ r₁ => hr.run Z s₁ _ E k₁.tok (S.keeps k₁.heap) fun u s₂ k₂ r₂ => ?_) hm
  exact ho.run Z s₂ v u Q E k₂.tok (S.base.keeps (k₁.trans' k₂).heap) (fun a z => let ⟨o, e⟩ := S.zin a z; ⟨o, (k₁.trans' k₂).heap _ _ e⟩) (r₁.keeps k₂.heap) r₂ fun v s' k r => hQ v s' ((k₁.trans' k₂).trans' k) r

theorem Ev.int {i k pos} : Ev w mg mb A env m (.Constant (.int i) k pos) (.int i) := .mk fun Z s Q E T S hQ =>
  wpAny_Constant_int (hQ _ _ (Ks.tk s _ (Nat.le_add_left _ _)) (by rw [Rep]; exact ⟨_, rfl⟩))
theorem Ev.str {i k pos} : Ev w mg mb A env m (.Constant (.str i) k pos) (.str i) := .mk fun Z s Q E T S hQ =>
  wpAny_Constant_str (hQ _ _ (Ks.tk s _ (Nat.le_add_left _ _)) (by rw [Rep]; exact ⟨_, rfl⟩))
theorem Ev.flt {i k pos} : Ev w mg mb A env m (.Constant (.float i) k pos) (.flt i) := .mk fun Z s Q E T S hQ =>
  PySem.wpAny_Constant_float (hQ _ _ (Ks.tk s _ (Nat.le_add_left _ _)) (by rw [Rep]; exact ⟨_, rfl⟩))
theorem Ev.bool {i k pos} : Ev w mg mb A env m (.Constant (.bool i) k pos) (.bool i) := .mk fun Z s Q E T S hQ =>
  wpAny_Constant_bool (hQ _ _ (Ks.rfl' s T) (by rw [Rep]))
theorem Ev.cnone {k pos} : Ev w mg mb A env m (.Constant .none k pos) .none := .mk fun Z s Q E T S hQ =>
  wpAny_Constant_none (hQ _ _ (Ks.rfl' s T) (by rw [Rep]))

theorem Ev.name {x pos d} (hx : m.lookup x = some d) (hk : env.scope.kind = .function := by rfl) (hd : (x == ("__debug__" : PySem.Str)) = false := by decide) (hn : (x == ("__classdict__" : PySem.Str)) = false := by decide) : Ev w mg mb A env m (.Name x pos) d := by
  refine ⟨?_⟩; intro Z s Q E T S hQ
  obtain ⟨v, l, r⟩ := S.vars x d hx
  refine wpAny_Name ?_ hd
  rcases l with ⟨a, mm, b, c⟩ | ⟨c, a | a, b, e⟩
  · exact wpAny_loadName_local hk a b c (hQ _ _ (Ks.rfl' s T) r)
  · exact wpAny_loadName_cell hk a b e (hQ _ _ (Ks.rfl' s T) r)
  · exact wpAny_loadName_free hk a b e (hQ _ _ (Ks.rfl' s T) r) hn

theorem truthy_bool_rep {Z} {s : Shared} {v} {b : Bool} {Q : Bool → Shared → Prop} {E} (r : Rep w Z s.heap v (.bool b)) (hQ : Q b s) : wpAny (model prog w) A (truthy v) Q E s := by
  rw [Rep] at r
  subst r
  exact wpAny_truthy_bool hQ

theorem EvT.cmp1 {op l r pos a b c} (hl : Ev w mg mb A env m l a) (hr : Ev w mg mb A env m r b) (ho : Op2 w mg mb A (compareOp op) a b (.bool c))
    (hm : behindInMarks op r = false := by with_unfolding_all rfl) : EvT w mg mb A env m (.Compare l [op] [r] pos) c := by
  refine ⟨?_⟩; intro Z s Q E T S hQ
  refine wpAny_isTrue_Compare1 (hl.run Z s _ E T S fun v s₁ k₁ r₁ => hr.run Z s₁ _ E k₁.tok (S.keeps k₁.heap) fun u s₂ k₂ r₂ => ?_) hm
  exact ho.run Z s₂ v u _ E k₂.tok (S.base.keeps (k₁.trans' k₂).heap) (fun a z => let ⟨o, e⟩ := S.zin a z; ⟨o, (k₁.trans' k₂).heap _ _ e⟩) (r₁.keeps k₂.heap) r₂ fun v s' k r => truthy_bool_rep r (hQ s' ((k₁.trans' k₂).trans' k))

theorem EvT.not {x pos b} (h : EvT w mg mb A env m x b) : EvT w mg mb A env m (.UnaryOp .Not x pos) (!b) := .mk fun Z s Q E T S hQ =>
  wpAny_isTrue_Not (h.run Z s _ E T S fun s' k => hQ s' k)

structure AllT (w : World) (mg mb : PySem.Str → Option Value) (A : Around) (env : Env) (m : Vars) (op : BoolOp) (es : List Expr) (b : Bool) : Prop where
  run : ∀ (Z : Addr → Prop) (s : Shared) (Q : Bool → Shared → Prop) (E : Value → Shared → Prop), 1 ≤ s.toks → St w mg mb Z env m s.heap →
    (∀ s', Ks s s' → Q b s') → wpAny (model prog w) A (allTrue op es env) Q E s
theorem AllT.and_nil : AllT w mg mb A env m .And [] true := .mk fun Z s Q E T S hQ => wpAny_allTrue_And_nil (hQ s (Ks.rfl' s T))
theorem AllT.or_nil : AllT w mg mb A env m .Or [] false := .mk fun Z s Q E T S hQ => wpAny_allTrue_Or_nil (hQ s (Ks.rfl' s T))
theorem AllT.and_cons {x r b c} (h : EvT w mg mb A env m x b) (h' : b = true → AllT w mg mb A env m .And r c) : AllT w mg mb A env m .And (x :: r) (b && c) := .mk fun Z s Q E T S hQ =>
  wpAny_allTrue_And_cons (h.run Z s _ E T S fun s' k => by
    cases b with
    | false => exact hQ s' k
    | true => exact (h' rfl).run Z s' Q E k.tok (S.keeps k.heap) fun s'' k' => hQ s'' (k.trans' k'))
theorem AllT.or_cons {x r b c} (h : EvT w mg mb A env m x b) (h' : b = false → AllT w mg mb A env m .Or r c) : AllT w mg mb A env m .Or (x :: r) (b || c) := .mk fun Z s Q E T S hQ =>
  wpAny_allTrue_Or_cons (h.run Z s _ E T S fun s' k => by
    cases b with
    | true => exact hQ s' k
    | false => exact (h' rfl).run Z s' Q E k.tok (S.keeps k.heap) fun s'' k' => hQ s'' (k.trans' k'))
theorem EvT.boolop {op es pos b} (h : AllT w mg mb A env m op es b) : EvT w mg mb A env m (.BoolOp op es pos) b := .mk fun Z s Q E T S hQ => wpAny_isTrue_BoolOp (h.run Z s Q E T S hQ)

/-- the test of any other expression that gives a bool -/
theorem EvT.value {e b} (h : Ev w mg mb A env m e (.bool b)) (he : ∀ whole, isTrue e env whole = (do let v ← whole; standAt e.pos; holding [v] (truthy v)) := by intro _; rfl) : EvT w mg mb A env m e b := .mk fun Z s Q E T S hQ =>
  wpAny_isTrue_value (h.run Z s _ E T S fun v s' k r => truthy_bool_rep r (hQ s' k)) (he _)

theorem Ev.ifexp {t b o pos c d} (ht : EvT w mg mb A env m t c) (h1 : c = true → Ev w mg mb A env m b d) (h2 : c = false → Ev w mg mb A env m o d) : Ev w mg mb A env m (.IfExp t b o pos) d := .mk fun Z s Q E T S hQ =>
  wpAny_IfExp (ht.run Z s _ E T S fun s' k => by
    cases c with
    | true => exact (h1 rfl).run Z s' Q E k.tok (S.keeps k.heap) fun v s'' k' => hQ v s'' (k.trans' k')
    | false => exact (h2 rfl).run Z s' Q E k.tok (S.keeps k.heap) fun v s'' k' => hQ v s'' (k.trans' k'))

theorem Ev.and2 {x y pos b d} (h : Ev w mg mb A env m x (.bool b)) (h1 : b = true → Ev w mg mb A env m y d) (h2 : b = false → d = .bool false) : Ev w mg mb A env m (.BoolOp .And [x, y] pos) d := .mk fun Z s Q E T S hQ =>
  wpAny_And2 (h.run Z s _ E T S fun v s' k r => truthy_bool_rep r (by
    cases b with
    | true => exact (h1 rfl).run Z s' Q E k.tok (S.keeps k.heap) fun v s'' k' => hQ v s'' (k.trans' k')
    | false => exact hQ v s' k (by rw [h2 rfl]; exact r)))
end
end Mine
end

section
open PySem PySem.Spec PySem.Calls PySem.W PyProof.Rows
set_option maxRecDepth 100000
set_option linter.all false
namespace Mine
section
variable {w : World} {mg mb : PySem.Str → Option Value} {A : Around}

theorem rint {Z h i t} : Rep w Z h (.int i t) (.int i) := by rw [Rep]; exact ⟨_, rfl⟩
theorem rflt {Z h i t} : Rep w Z h (.float i t) (.flt i) := by rw [Rep]; exact ⟨_, rfl⟩
theorem rstr {Z h i t} : Rep w Z h (.str i t) (.str i) := by rw [Rep]; exact ⟨_, rfl⟩
theorem rbool {Z h i} : Rep w Z h (.bool i) (.bool i) := by rw [Rep]
theorem rnone {Z h} : Rep w Z h .none .none := by rw [Rep]

theorem Rep_int {Z h v i} : Rep w Z h v (.int i) ↔ ∃ t, v = .int i t := by rw [Rep]
theorem Rep_flt {Z h v i} : Rep w Z h v (.flt i) ↔ ∃ t, v = .float i t := by rw [Rep]
theorem Rep_str {Z h v i} : Rep w Z h v (.str i) ↔ ∃ t, v = .str i t := by rw [Rep]
theorem Rep_bool {Z h v i} : Rep w Z h v (.bool i) ↔ v = .bool i := by rw [Rep]
theorem Rep_none {Z h v} : Rep w Z h v .none ↔ v = .none := by rw [Rep]
theorem Rep_list {Z h v l} : Rep w Z h v (.list l) ↔ ∃ a vs, v = .ref a ∧ ¬ Z a ∧ h.PlainList a (List.toArray vs) ∧ RepL w Z h vs l := by rw [Rep]
theorem Rep_tup {Z h v l} : Rep w Z h v (.tup l) ↔ ∃ a vs, v = .ref a ∧ ¬ Z a ∧ IsTup h a (List.toArray vs) ∧ RepL w Z h vs l := by rw [Rep]
theorem Rep_dict {Z h v l} : Rep w Z h v (.dict l) ↔ ∃ a f, v = .ref a ∧ ¬ Z a ∧ (a == sysModules) = false ∧ h.MapOf (strKind prog w) a f ∧ ∀ k, match l.lookup k with | some x => ∃ t, f k = some (.str x t) | none => f k = none := by rw [Rep] <;> exact Iff.rfl
abbrev Cont (w : World) (Z : Addr → Prop) (s : Shared) (Q : Value → Shared → Prop) (d : D) : Prop := ∀ v s', Ks s s' → Rep w Z s'.heap v d → Q v s'
theorem op_ii {f} {a b : Int} {d} (h : ∀ Z (s : Shared) Q E t t', 1 ≤ s.toks → Cont w Z s Q d → wpAny (model prog w) A (f (.int a t) (.int b t')) Q E s) : Op2 w mg mb A f (.int a) (.int b) d := by
  refine ⟨?_⟩; intro Z s u v Q E T B zi ru rv hQ; obtain ⟨t, rfl⟩ := Rep_int.1 ru; obtain ⟨t', rfl⟩ := Rep_int.1 rv; exact h Z s Q E t t' T hQ
theorem op_ff {f} {a b : UInt64} {d} (h : ∀ Z (s : Shared) Q E t t', 1 ≤ s.toks → Cont w Z s Q d → wpAny (model prog w) A (f (.float a t) (.float b t')) Q E s) : Op2 w mg mb A f (.flt a) (.flt b) d := by
  refine ⟨?_⟩; intro Z s u v Q E T B zi ru rv hQ; obtain ⟨t, rfl⟩ := Rep_flt.1 ru; obtain ⟨t', rfl⟩ := Rep_flt.1 rv; exact h Z s Q E t t' T hQ
theorem op_fi {f} {a : UInt64} {b : Int} {d} (h : ∀ Z (s : Shared) Q E t t', 1 ≤ s.toks → Cont w Z s Q d → wpAny (model prog w) A (f (.float a t) (.int b t')) Q E s) : Op2 w mg mb A f (.flt a) (.int b) d := by
  refine ⟨?_⟩; intro Z s u v Q E T B zi ru rv hQ; obtain ⟨t, rfl⟩ := Rep_flt.1 ru; obtain ⟨t', rfl⟩ := Rep_int.1 rv; exact h Z s Q E t t' T hQ
theorem op_ss {f} {a b : PySem.Str} {d} (h : ∀ Z (s : Shared) Q E t t', 1 ≤ s.toks → Cont w Z s Q d → wpAny (model prog w) A (f (.str a t) (.str b t')) Q E s) : Op2 w mg mb A f (.str a) (.str b) d := by
  refine ⟨?_⟩; intro Z s u v Q E T B zi ru rv hQ; obtain ⟨t, rfl⟩ := Rep_str.1 ru; obtain ⟨t', rfl⟩ := Rep_str.1 rv; exact h Z s Q E t t' T hQ
theorem op_si {f} {a : PySem.Str} {b : Int} {d} (h : ∀ Z (s : Shared) Q E t t', 1 ≤ s.toks → Cont w Z s Q d → wpAny (model prog w) A (f (.str a t) (.int b t')) Q E s) : Op2 w mg mb A f (.str a) (.int b) d := by
  refine ⟨?_⟩; intro Z s u v Q E T B zi ru rv hQ; obtain ⟨t, rfl⟩ := Rep_str.1 ru; obtain ⟨t', rfl⟩ := Rep_int.1 rv; exact h Z s Q E t t' T hQ

theorem Op2.iadd {a b} : Op2 w mg mb A (binaryOp .Add) (.int a) (.int b) (.int (a + b)) := by
  exact op_ii fun Z s Q E t t' T hQ => PyProof.Rows.add_int (hQ _ _ (Ks.tk s _ (Nat.le_add_left _ _)) rint)
theorem Op2.isub {a b} : Op2 w mg mb A (binaryOp .Sub) (.int a) (.int b) (.int (a - b)) := by
  exact op_ii fun Z s Q E t t' T hQ => PyProof.Rows.sub_int (hQ _ _ (Ks.tk s _ (Nat.le_add_left _ _)) rint)
theorem Op2.imul {a b : Int} (h : Builtin.Int.intBits a ≤ 64) : Op2 w mg mb A (binaryOp .Mult) (.int a) (.int b) (.int (a * b)) := by
  exact op_ii fun Z s Q E t t' T hQ => PyProof.Rows.mul_int (hQ _ _ (Ks.tk s _ (Nat.le_add_left _ _)) rint) (IntMulOk.of_left h)
theorem Op2.imulr {a b : Int} (h : Builtin.Int.intBits b ≤ 64) : Op2 w mg mb A (binaryOp .Mult) (.int a) (.int b) (.int (a * b)) := by
  exact op_ii fun Z s Q E t t' T hQ => PyProof.Rows.mul_int (hQ _ _ (Ks.tk s _ (Nat.le_add_left _ _)) rint) (IntMulOk.of_right h)
theorem Op2.ifloordiv {a b : Int} (h : b ≠ 0) (hb : b.natAbs.log2 < 9000) : Op2 w mg mb A (binaryOp .FloorDiv) (.int a) (.int b) (.int (a.fdiv b)) := by
  exact op_ii fun Z s Q E t t' T hQ => PyProof.Rows.floordiv_int h (hQ _ _ (Ks.tk s _ (Nat.le_add_left _ _)) rint) (.inl (PyProof.noPylong_of_log2 hb))
theorem Op2.imod {a b : Int} (h : b ≠ 0) : Op2 w mg mb A (binaryOp .Mod) (.int a) (.int b) (.int (a.fmod b)) := by
  exact op_ii fun Z s Q E t t' T hQ => PyProof.Rows.mod_int' h (hQ _ _ (Ks.tk s _ (Nat.le_add_left _ _)) rint)
theorem Op2.ipow {a n : Int} (h : 0 ≤ n) (h' : n ≤ 1000000) (ha : a.natAbs < 2 ^ 64) : Op2 w mg mb A (binaryOp .Pow) (.int a) (.int n) (.int (a ^ n.toNat)) := by
  exact op_ii fun Z s Q E t t' T hQ => pow_int_small h h' ha (hQ _ _ (Ks.tk s _ (Nat.le_add_left _ _)) rint)
theorem Op2.idiv {a b : Int} (hA : A.handled = none) (ha : a.natAbs < 2 ^ 1023) (hb : b ≠ 0) : Op2 w mg mb A (binaryOp .Div) (.int a) (.int b) (.flt (Float64.ofFrac (decide (a < 0) != decide (b < 0)) a.natAbs b.natAbs)) := by
  exact op_ii fun Z s Q E t t' T hQ => PySem.Flt.div_ii_fits hA ha (fun e => absurd e hb) (fun _ _ => hQ _ _ (Ks.tk s _ (Nat.le_add_left _ _)) rflt)
theorem Op2.ilt {a b} : Op2 w mg mb A (compareOp .Lt) (.int a) (.int b) (.bool (decide (a < b))) := by
  exact op_ii fun Z s Q E t t' T hQ => PyProof.Rows.lt_int (hQ _ _ (Ks.rfl' s T) rbool)
theorem Op2.ile {a b} : Op2 w mg mb A (compareOp .LtE) (.int a) (.int b) (.bool (decide (a ≤ b))) := by
  exact op_ii fun Z s Q E t t' T hQ => PyProof.Rows.le_int (hQ _ _ (Ks.rfl' s T) rbool)
theorem Op2.igt {a b} : Op2 w mg mb A (compareOp .Gt) (.int a) (.int b) (.bool (decide (b < a))) := by
  exact op_ii fun Z s Q E t t' T hQ => PyProof.Rows.gt_int (hQ _ _ (Ks.rfl' s T) rbool)
theorem Op2.ige {a b} : Op2 w mg mb A (compareOp .GtE) (.int a) (.int b) (.bool (decide (b ≤ a))) := by
  exact op_ii fun Z s Q E t t' T hQ => PyProof.Rows.ge_int (hQ _ _ (Ks.rfl' s T) rbool)
theorem Op2.ieq {a b} : Op2 w mg mb A (compareOp .Eq) (.int a) (.int b) (.bool (a == b)) := by
  exact op_ii fun Z s Q E t t' T hQ => PyProof.Rows.eq_int (hQ _ _ (Ks.rfl' s T) rbool)
theorem Op2.ine {a b} : Op2 w mg mb A (compareOp .NotEq) (.int a) (.int b) (.bool (a != b)) := by
  exact op_ii fun Z s Q E t t' T hQ => PyProof.Rows.ne_int (hQ _ _ (Ks.rfl' s T) rbool)
theorem Op2.isNone {a} : Op2 w mg mb A (compareOp .Is) (.int a) .none (.bool false) := by
  refine ⟨?_⟩; intro Z s u v Q E T B zi ru rv hQ; obtain ⟨t, rfl⟩ := Rep_int.1 ru; obtain rfl := Rep_none.1 rv
  exact is_int_none (hQ _ _ (Ks.rfl' s T) rbool)

theorem Op2.fadd {a b} : Op2 w mg mb A (binaryOp .Add) (.flt a) (.flt b) (.flt (Float64.add a b)) := by
  exact op_ff fun Z s Q E t t' T hQ => add_float (hQ _ _ (Ks.tk s _ (Nat.le_add_left _ _)) rflt)
theorem Op2.fsub {a b} : Op2 w mg mb A (binaryOp .Sub) (.flt a) (.flt b) (.flt (Float64.sub a b)) := by
  exact op_ff fun Z s Q E t t' T hQ => sub_float (hQ _ _ (Ks.tk s _ (Nat.le_add_left _ _)) rflt)
theorem Op2.fmul {a b} : Op2 w mg mb A (binaryOp .Mult) (.flt a) (.flt b) (.flt (Float64.mul a b)) := by
  exact op_ff fun Z s Q E t t' T hQ => mul_float (hQ _ _ (Ks.tk s _ (Nat.le_add_left _ _)) rflt)
theorem Op2.fdiv {a b} (hA : A.handled = none) (hb : Float64.isZero b = false) : Op2 w mg mb A (binaryOp .Div) (.flt a) (.flt b) (.flt (Float64.div a b)) := by
  exact op_ff fun Z s Q E t t' T hQ => truediv_float_or hA (fun e => by rw [hb] at e; cases e) (fun _ => hQ _ _ (Ks.tk s _ (Nat.le_add_left _ _)) rflt)
theorem Op2.fmod {a b} (hA : A.handled = none) (hb : Float64.isZero b = false) : Op2 w mg mb A (binaryOp .Mod) (.flt a) (.flt b) (.flt (Float64.divmod a b).2) := by
  exact op_ff fun Z s Q E t t' T hQ => PySem.Flt.mod_ff hA (fun e => by rw [hb] at e; cases e) (fun _ => hQ _ _ (Ks.tk s _ (Nat.le_add_left _ _)) rflt)
theorem Op2.fimul {a} {n : Int} (h : n.natAbs < 2 ^ 1023) : Op2 w mg mb A (binaryOp .Mult) (.flt a) (.int n) (.flt (Float64.mul a (Float64.ofInt n))) := by
  exact op_fi fun Z s Q E t t' T hQ => mul_fi_fits h (hQ _ _ (Ks.tk s _ (Nat.le_add_left _ _)) rflt)
theorem Op2.fisub {a} {n : Int} (h : n.natAbs < 2 ^ 1023) : Op2 w mg mb A (binaryOp .Sub) (.flt a) (.int n) (.flt (Float64.sub a (Float64.ofInt n))) := by
  exact op_fi fun Z s Q E t t' T hQ => sub_fi_fits h (hQ _ _ (Ks.tk s _ (Nat.le_add_left _ _)) rflt)
theorem Op2.feq {a b} : Op2 w mg mb A (compareOp .Eq) (.flt a) (.flt b) (.bool (Float64.cmp a b == some .eq)) := by
  exact op_ff fun Z s Q E t t' T hQ => AutoFloatOps.eq_0 (hQ _ _ (Ks.rfl' s T) rbool)
theorem Op2.fne {a b} : Op2 w mg mb A (compareOp .NotEq) (.flt a) (.flt b) (.bool (!(Float64.cmp a b == some .eq))) := by
  exact op_ff fun Z s Q E t t' T hQ => AutoFloatOps.ne_0 (hQ _ _ (Ks.rfl' s T) rbool)
theorem Op2.fle {a b} : Op2 w mg mb A (compareOp .LtE) (.flt a) (.flt b) (.bool (Float64.cmp a b == some .lt || Float64.cmp a b == some .eq)) := by
  exact op_ff fun Z s Q E t t' T hQ => AutoFloatOps.le_0 (hQ _ _ (Ks.rfl' s T) rbool)
theorem Op2.filt {a} {n : Int} : Op2 w mg mb A (compareOp .Lt) (.flt a) (.int n) (.bool (Float64.cmpInt a n == some .lt)) := by
  exact op_fi fun Z s Q E t t' T hQ => lt_fi (hQ _ _ (Ks.rfl' s T) rbool)

theorem Op2.seq {a b} : Op2 w mg mb A (compareOp .Eq) (.str a) (.str b) (.bool (a == b)) := by
  exact op_ss fun Z s Q E t t' T hQ => PyProof.Rows.eq_str (hQ _ _ (Ks.rfl' s T) rbool)
theorem Op2.sne {a b} : Op2 w mg mb A (compareOp .NotEq) (.str a) (.str b) (.bool (a != b)) := by
  exact op_ss fun Z s Q E t t' T hQ => PyProof.Rows.ne_str (hQ _ _ (Ks.rfl' s T) rbool)
theorem Op2.sin {a b : PySem.Str} : Op2 w mg mb A (compareOp .In) (.str b) (.str a) (.bool !(Builtin.Str.occurrences a b 0 a.length 1).isEmpty) := by
  exact op_ss fun Z s Q E t t' T hQ => PyProof.Rows.in_str (hQ _ _ (Ks.rfl' s T) rbool)
theorem Op2.din {x : PySem.Str} {l} : Op2 w mg mb A (compareOp .In) (.str x) (.dict l) (.bool (l.lookup x).isSome) := by
  refine ⟨?_⟩; intro Z s u v Q E T B zi ru rv hQ; obtain ⟨t, rfl⟩ := Rep_str.1 ru; obtain ⟨a, f, rfl, n, sm, M, hf⟩ := Rep_dict.1 rv
  refine wpAny_in_of (strKind_is prog w x t) sm M ?_
  have := hf x
  cases e : l.lookup x with
  | none => rw [e] at this hQ; rw [this]; exact hQ _ _ (Ks.tk s _ (Nat.le_add_left _ _)) rbool
  | some y => rw [e] at this hQ; obtain ⟨t', e'⟩ := this; rw [e']; exact hQ _ _ (Ks.tk s _ (Nat.le_add_left _ _)) rbool
end
end Mine
end

section
open PySem PySem.Spec PySem.Calls PySem.W PyProof.Rows
set_option maxRecDepth 100000
set_option linter.all false
namespace Mine

/-- the addresses that a frame writes -/
def Own (env : Env) : Addr → Prop := fun a => a = env.locals ∨ ∃ x, env.cells.lookup x = some a

structure Mv (W : Addr → Prop) (s s' : Shared) : Prop where
  same : ∃ h' tk, s' = { s with heap := h', toks := tk }
  heap : Kp W s.heap s'.heap
  tok : 1 ≤ s'.toks
theorem Mv.refl (W) (s : Shared) (T : 1 ≤ s.toks) : Mv W s s := ⟨⟨s.heap, s.toks, by cases s; rfl⟩, Kp.refl _ _, T⟩
theorem Mv.trans {W} {s s' s'' : Shared} (a : Mv W s s') (b : Mv W s' s'') : Mv W s s'' := by
  obtain ⟨⟨h, t, rfl⟩, p, _⟩ := a
  obtain ⟨⟨h', t', rfl⟩, q, r⟩ := b
  exact ⟨⟨h', t', rfl⟩, p.trans q, r⟩
theorem Ks.mv {W} {s s' : Shared} (k : Ks s s') : Mv W s s' := ⟨k.same, fun b o _ e => k.heap b o e, k.tok⟩
theorem Mv.mono {W W' : Addr → Prop} {s s' : Shared} (a : Mv W s s') (h : ∀ x, W x → W' x) : Mv W' s s' := ⟨a.same, a.heap.mono h, a.tok⟩

structure Fs (w : World) (mg mb : PySem.Str → Option Value) (h₀ : Heap) (Z : Addr → Prop) (env : Env) (m : Vars) (h : Heap) : Prop where
  base₀ : Base w mg mb h₀
  keep : ∀ b o, h₀.get? b = some o → h.get? b = some o
  zin : ∀ a, Z a → ∃ o, h.get? a = some o
  vars : ∀ x d, m.lookup x = some d → ∃ v, Look env h x v ∧ Rep w Z h v d
  own : ∀ a, Own env a → Z a ∧ h₀.get? a = none
  ns : ∃ mm, h.Ns env.locals mm
  cell : ∀ x c, env.cells.lookup x = some c → ∃ v, h.IsCell c v
  apart : ∀ x y c, env.cells.lookup x = some c → env.cells.lookup y = some c → x = y

section
variable {w : World} {mg mb : PySem.Str → Option Value}
theorem Fs.base {h₀ Z env m h} (F : Fs w mg mb h₀ Z env m h) : Base w mg mb h := F.base₀.keeps F.keep
theorem Fs.st {h₀ Z env m h} (F : Fs w mg mb h₀ Z env m h) : St w mg mb Z env m h := ⟨F.base, F.zin, F.vars⟩
theorem Fs.keeps {h₀ Z env m} {h h' : Heap} (F : Fs w mg mb h₀ Z env m h) (k : ∀ b o, h.get? b = some o → h'.get? b = some o) : Fs w mg mb h₀ Z env m h' where
  base₀ := F.base₀
  keep := fun b o e => k _ _ (F.keep b o e)
  zin := (F.st.keeps k).zin
  vars := (F.st.keeps k).vars
  own := F.own
  ns := let ⟨mm, n⟩ := F.ns; ⟨mm, n.keeps k⟩
  cell := fun x c e => let ⟨v, q⟩ := F.cell x c e; ⟨v, q.keeps k⟩
  apart := F.apart
theorem Fs.weaken {h₀ Z env m m'} {h : Heap} (F : Fs w mg mb h₀ Z env m h) (hm : ∀ x d, m'.lookup x = some d → m.lookup x = some d) : Fs w mg mb h₀ Z env m' h :=
  { F with vars := fun x d e => F.vars x d (hm x d e) }
theorem St.weaken {Z env m m'} {h : Heap} (F : St w mg mb Z env m h) (hm : ∀ x d, m'.lookup x = some d → m.lookup x = some d) : St w mg mb Z env m' h :=
  { F with vars := fun x d e => F.vars x d (hm x d e) }

/-- what a change of one own address leaves -/
theorem cell_ne_ns {h : Heap} {c L : Addr} {v m} (a : h.IsCell c v) (b : h.Ns L m) : c ≠ L := by
  rintro rfl
  obtain ⟨o, e, d⟩ := a
  obtain ⟨o', es, ep, e', d', _⟩ := b
  rw [e] at e'
  cases e'
  rw [d] at d'
  cases d'
theorem lookup_cons_ne {α} {x y : PySem.Str} {d : α} {m : List (PySem.Str × α)} (h : x ≠ y) : List.lookup x ((y, d) :: m) = m.lookup x := by
  rw [List.lookup_cons]
  have : (x == y) = false := by simpa using h
  rw [this]
theorem lookup_cons_eq {α} {x : PySem.Str} {d : α} {m : List (PySem.Str × α)} : List.lookup x ((x, d) :: m) = some d := by
  rw [List.lookup_cons]; simp

theorem Fs.store {h₀ Z env m} {s : Shared} {A : Around} {x : PySem.Str} {v : Value} {d : D} {Q : Unit → Shared → Prop} {E} (T : 1 ≤ s.toks) (F : Fs w mg mb h₀ Z env m s.heap)
    (r : Rep w Z s.heap v d) (hx : env.kindOf x = some .local ∨ (env.kindOf x = some .cell ∧ (env.cells.lookup x).isSome = true)) (hk : env.scope.kind = .function)
    (hQ : ∀ s', Mv (Own env) s s' → Fs w mg mb h₀ Z env ((x, d) :: m) s'.heap → Q () s') : wpAny (model prog w) A (storeName env x v) Q E s := by
  rcases hx with hx | ⟨hx, hc⟩
  · obtain ⟨mm, ns⟩ := F.ns
    refine wpAny_storeName_local hx ns (fun h' hn hs => ?_) (by rw [hk]; rfl)
    have kp : Kp (Own env) s.heap h' := fun b o n e => hs.extBut b o (fun q => n (.inl q)) e
    refine hQ _ ⟨⟨h', _, rfl⟩, kp, Nat.le_add_left _ _⟩ ?_
    refine ⟨F.base₀, fun b o e => kp _ _ (fun z => ?_) (F.keep b o e), fun a z => ?_, fun y e hy => ?_, F.own, ⟨_, hn⟩, fun y c hc => ?_, F.apart⟩
    · have := (F.own b z).2; rw [this] at e; cases e
    · by_cases ha : a = env.locals
      · subst ha; obtain ⟨o, _, _, e, _⟩ := hn; exact ⟨o, e⟩
      · obtain ⟨o, e⟩ := F.zin a z; exact ⟨o, hs.extBut a o ha e⟩
    · by_cases hxy : y = x
      · subst hxy
        rw [lookup_cons_eq] at hy; cases hy
        exact ⟨v, .inl ⟨hx, _, hn, by simp⟩, Rep.kp kp (fun a z => (F.own a z).1) _ _ r⟩
      · rw [lookup_cons_ne hxy] at hy
        obtain ⟨u, l, q⟩ := F.vars y e hy
        refine ⟨u, ?_, Rep.kp kp (fun a z => (F.own a z).1) u e q⟩
        rcases l with ⟨a, m', b, c⟩ | ⟨c, a, b, l⟩
        · refine .inl ⟨a, _, hn, ?_⟩
          obtain ⟨o, es, ep, h1, h2, h3, h4⟩ := b
          obtain ⟨o', es', ep', h1', h2', h3', h4'⟩ := ns
          rw [h1] at h1'; cases h1'
          rw [h2] at h2'; cases h2'
          show (if y = x then _ else mm y) = _
          rw [if_neg hxy, ← h4', h4, c]
        · exact .inr ⟨c, a, b, l.sameBut hs (cell_ne_ns l ns)⟩
    · obtain ⟨u, l⟩ := F.cell y c hc
      exact ⟨u, l.sameBut hs (cell_ne_ns l ns)⟩
  · obtain ⟨c, hc⟩ := Option.isSome_iff_exists.mp hc
    obtain ⟨v₀, cv⟩ := F.cell x c hc
    obtain ⟨mm, ns⟩ := F.ns
    refine wpAny_storeName_cell hk hx hc cv fun h' hn hs => ?_
    have kp : Kp (Own env) s.heap h' := fun b o n e => hs.extBut b o (fun q => n (.inr ⟨x, by rw [q, hc]⟩)) e
    have hLc : env.locals ≠ c := (cell_ne_ns cv ns).symm
    refine hQ _ ⟨⟨h', s.toks, rfl⟩, kp, T⟩ ?_
    refine ⟨F.base₀, fun b o e => kp _ _ (fun z => ?_) (F.keep b o e), fun a z => ?_, fun y e hy => ?_, F.own, ⟨_, ns.sameBut hs hLc⟩, fun y c' hc' => ?_, F.apart⟩
    · have := (F.own b z).2; rw [this] at e; cases e
    · by_cases ha : a = c
      · subst ha; obtain ⟨o, e, _⟩ := hn; exact ⟨o, e⟩
      · obtain ⟨o, e⟩ := F.zin a z; exact ⟨o, hs.extBut a o ha e⟩
    · by_cases hxy : y = x
      · subst hxy
        rw [lookup_cons_eq] at hy; cases hy
        exact ⟨v, .inr ⟨c, .inl hx, hc, hn⟩, Rep.kp kp (fun a z => (F.own a z).1) _ _ r⟩
      · rw [lookup_cons_ne hxy] at hy
        obtain ⟨u, l, q⟩ := F.vars y e hy
        refine ⟨u, ?_, Rep.kp kp (fun a z => (F.own a z).1) u e q⟩
        rcases l with ⟨a, m', b, l⟩ | ⟨c', a, b, l⟩
        · exact .inl ⟨a, _, b.sameBut hs hLc, l⟩
        · exact .inr ⟨c', a, b, l.sameBut hs fun q => hxy (F.apart y x c (by rw [b, q]) hc)⟩
    · by_cases q : c' = c
      · subst q; exact ⟨_, hn⟩
      · obtain ⟨u, l⟩ := F.cell y c' hc'
        exact ⟨u, l.sameBut hs q⟩
end

inductive Out where
  | next (m : Vars) | ret (d : D) | brk (m : Vars) | cont (m : Vars)

section
variable (w : World) (mg mb : PySem.Str → Option Value)
def Post (h₀ : Heap) (Z : Addr → Prop) (env : Env) : Out → Flow → Shared → Prop
  | .next m, f, s => f = .next ∧ Fs w mg mb h₀ Z env m s.heap
  | .brk m, f, s => f = .brk ∧ Fs w mg mb h₀ Z env m s.heap
  | .cont m, f, s => f = .cont ∧ Fs w mg mb h₀ Z env m s.heap
  | .ret d, f, s => ∃ v, f = .ret v ∧ Rep w Z s.heap v d ∧ ∃ m, Fs w mg mb h₀ Z env m s.heap
structure ExS (A : Around) (env : Env) (m : Vars) (st : Stmt) (o : Out) : Prop where
  run : ∀ (h₀ : Heap) (Z : Addr → Prop) (s : Shared) (Q : Flow → Shared → Prop) (E : Value → Shared → Prop), 1 ≤ s.toks → Fs w mg mb h₀ Z env m s.heap →
    (∀ f s', Mv (Own env) s s' → Post w mg mb h₀ Z env o f s' → Q f s') → wpAny (model prog w) A (exec st env) Q E s
structure Ex (A : Around) (env : Env) (m : Vars) (ss : List Stmt) (o : Out) : Prop where
  run : ∀ (h₀ : Heap) (Z : Addr → Prop) (s : Shared) (Q : Flow → Shared → Prop) (E : Value → Shared → Prop), 1 ≤ s.toks → Fs w mg mb h₀ Z env m s.heap →
    (∀ f s', Mv (Own env) s s' → Post w mg mb h₀ Z env o f s' → Q f s') → wpAny (model prog w) A (execs ss env) Q E s
end

section
variable {w : World} {mg mb : PySem.Str → Option Value} {A : Around} {env : Env} {m : Vars}
theorem Ex.nil : Ex w mg mb A env m [] (.next m) := .mk fun h₀ Z s Q E T F hQ => wpAny_execs_nil (hQ _ _ (Mv.refl _ _ T) ⟨rfl, F⟩)
theorem Ex.cons {st ss m' o} (h : ExS w mg mb A env m st (.next m')) (h' : Ex w mg mb A env m' ss o) : Ex w mg mb A env m (st :: ss) o := .mk fun h₀ Z s Q E T F hQ =>
  wpAny_execs_cons (h.run h₀ Z s _ E T F fun f s' k p => by
    obtain ⟨rfl, F'⟩ := p
    exact h'.run h₀ Z s' _ E k.tok F' fun f s'' k' p' => hQ f s'' (k.trans k') p')
theorem Ex.leave {st ss o} (h : ExS w mg mb A env m st o) (ho : ∀ m', o ≠ .next m') : Ex w mg mb A env m (st :: ss) o := .mk fun h₀ Z s Q E T F hQ =>
  wpAny_execs_cons (h.run h₀ Z s _ E T F fun f s' k p => by
    cases o with
    | next m' => exact absurd rfl (ho m')
    | ret d => obtain ⟨v, rfl, r⟩ := p; exact hQ _ s' k ⟨v, rfl, r⟩
    | brk m' => obtain ⟨rfl, r⟩ := p; exact hQ _ s' k ⟨rfl, r⟩
    | cont m' => obtain ⟨rfl, r⟩ := p; exact hQ _ s' k ⟨rfl, r⟩)
theorem Ex.ret {st ss d} (h : ExS w mg mb A env m st (.ret d)) : Ex w mg mb A env m (st :: ss) (.ret d) := Ex.leave h fun _ e => by cases e
theorem Ex.weaken {ss m' o} (h : Ex w mg mb A env m' ss o) (hm : ∀ x d, m'.lookup x = some d → m.lookup x = some d) : Ex w mg mb A env m ss o := .mk fun h₀ Z s Q E T F hQ =>
  h.run h₀ Z s Q E T (F.weaken hm) hQ
end
end Mine
end

section
open PySem PySem.Spec PySem.Calls PySem.W PyProof.Rows
set_option maxRecDepth 100000
set_option linter.all false
namespace Mine
section
variable {w : World} {mg mb : PySem.Str → Option Value} {A : Around} {env : Env} {m : Vars}

/-- the arguments of a call, the items of a display -/
structure EvL (w : World) (mg mb : PySem.Str → Option Value) (A : Around) (env : Env) (m : Vars) (es : List Expr) (ds : List D) : Prop where
  run : ∀ (pos : Pos) (Z : Addr → Prop) (s : Shared) (Q : List Value → Shared → Prop) (E : Value → Shared → Prop), 1 ≤ s.toks → St w mg mb Z env m s.heap →
    (∀ vs s', Ks s s' → RepL w Z s'.heap vs ds → Q vs s') → wpAny (model prog w) A (spliced (backTo pos (starEach es env))) Q E s
theorem EvL.nil : EvL w mg mb A env m [] [] := .mk fun pos Z s Q E T S hQ => wpAny_items_nil (hQ _ _ (Ks.rfl' s T) (by rw [RepL]; trivial))
theorem EvL.cons {e es d ds} (h : Ev w mg mb A env m e d) (h' : EvL w mg mb A env m es ds) (he : starEach (e :: es) env = (false, eval e env) :: starEach es env := by rfl) : EvL w mg mb A env m (e :: es) (d :: ds) :=
  .mk fun pos Z s Q E T S hQ => wpAny_items_cons (h.run Z s _ E T S fun v s₁ k r => h'.run pos Z s₁ _ E k.tok (S.keeps k.heap) fun vs s₂ k₂ r₂ => hQ _ s₂ (k.trans' k₂) (by rw [RepL]; exact ⟨r.keeps k₂.heap, r₂⟩)) he

theorem rlist_new {Z : Addr → Prop} {h : Heap} {vs ds} (hz : ¬ Z h.objs.size) (r : RepL w Z h vs ds) : Rep w Z (h.push { cls := .type "list", data := .seq vs.toArray }) (.ref h.objs.size) (.list ds) :=
  Rep_list.2 ⟨_, vs, rfl, hz, ⟨_, Heap.get?_push_size _ rfl⟩, r.keeps fun _ _ e => Heap.get?_push_of_some _ e⟩
theorem rtup_new {Z : Addr → Prop} {h : Heap} {vs ds} (hz : ¬ Z h.objs.size) (r : RepL w Z h vs ds) : Rep w Z (h.push { cls := .type "tuple", data := .seq vs.toArray }) (.ref h.objs.size) (.tup ds) :=
  Rep_tup.2 ⟨_, vs, rfl, hz, ⟨_, Heap.get?_push_size _ rfl, rfl, _, rfl⟩, r.keeps fun _ _ e => Heap.get?_push_of_some _ e⟩

theorem Ev.list {es ds pos} (h : EvL w mg mb A env m es ds) (hl : ds.length ≤ sizeLine := by rw [sizeLine_eq]; decide) : Ev w mg mb A env m (.List es pos) (.list ds) := .mk fun Z s Q E T S hQ =>
  wpAny_List (h.run pos Z s _ E T S fun vs s' k r => ⟨by rw [RepL.length vs ds r]; exact hl, hQ _ _ (k.trans' (Ks.push _ _ k.tok)) (rlist_new (S.keeps k.heap).fresh r)⟩)
theorem Ev.tup {es ds k pos} (h : EvL w mg mb A env m es ds) (hl : ds.length ≤ sizeLine := by rw [sizeLine_eq]; decide) : Ev w mg mb A env m (.Tuple es k pos) (.tup ds) := .mk fun Z s Q E T S hQ =>
  wpAny_Tuple (h.run pos Z s _ E T S fun vs s' k r => ⟨by rw [RepL.length vs ds r]; exact hl, hQ _ _ (k.trans' (Ks.push _ _ k.tok)) (rtup_new (S.keeps k.heap).fresh r)⟩)

/-- what a global name holds -/
def Gl (x : PySem.Str) (v : Value) : Prop := ∀ P : Params, nsIn (Kf P) mainGlobals x = some (some v) ∨ (nsIn (Kf P) mainGlobals x = some none ∧ bootBuiltins x = some v ∧ x ≠ "__name__")

theorem name_global {x v pos} {s : Shared} {Q E} (g : Gl x v) (B : Base w mg mb s.heap) (h : Q v s) (hk : env.scope.kind = .function) (hx : env.kindOf x = some .globalImplicit) (hg : env.globals = mainGlobals) (hb : env.builtins = builtinsNs)
    (hd : (x == ("__debug__" : PySem.Str)) = false := by decide) : wpAny (model prog w) A (eval (.Name x pos) env) Q E s := by
  refine Name_function_global hk hx ?_ hd
  rcases g w.params with e | ⟨e, e', n⟩
  · exact loadGlobal_global (by rw [hg]; exact B.g) (mg_of B.K B.g e) h
  · exact loadGlobal_builtin (by rw [hg]; exact B.g) (mg_none_of B.K B.g e) (by rw [hb]; exact B.b) ((B.builtins x n).trans e') h

/-- static facts of a frame's environment -/
structure EOk (env : Env) : Prop where
  kind : env.scope.kind = .function
  globals : env.globals = mainGlobals
  builtins : env.builtins = builtinsNs

theorem Ev.callB {x id np e es pos ds d} (g : Gl x (.builtin id)) (eo : EOk env) (hx : env.kindOf x = some .globalImplicit) (ha : EvL w mg mb A env m (e :: es) ds) (ho : OpL w mg mb A (fun vs => call (.builtin id) vs) ds d)
    (he : starEach (e :: es) env = (false, eval e env) :: starEach es env := by rfl) (hplain : (backTo pos (starEach es env)).any (·.1) = false := by rfl)
    (hd : (x == ("__debug__" : PySem.Str)) = false := by decide) : Ev w mg mb A env m (.Call (.Name x np) (e :: es) [] pos) d := .mk fun Z s Q E T S hQ =>
  wpAny_Call_ofName (name_global g S.base (callWith_builtin1 (ha.run pos Z s _ E T S fun vs s' k r => ho.run Z s' vs Q E k.tok (S.base.keeps k.heap) (S.keeps k.heap).zin r fun v s'' k' r' => hQ v s'' (k.trans' k') r') he hplain) eo.kind hx eo.globals eo.builtins hd)
theorem Ev.callT {x T np e es pos ds d} (g : Gl x (.type T)) (eo : EOk env) (hx : env.kindOf x = some .globalImplicit) (ha : EvL w mg mb A env m (e :: es) ds) (ho : OpL w mg mb A (fun vs => call (.type T) vs) ds d)
    (he : starEach (e :: es) env = (false, eval e env) :: starEach es env := by rfl) (hplain : (backTo pos (starEach es env)).any (·.1) = false := by rfl)
    (hd : (x == ("__debug__" : PySem.Str)) = false := by decide) : Ev w mg mb A env m (.Call (.Name x np) (e :: es) [] pos) d := .mk fun Z s Q E T S hQ =>
  wpAny_Call_ofName (name_global g S.base (PyProof.Rows.callWith_type1 (ha.run pos Z s _ E T S fun vs s' k r => ho.run Z s' vs Q E k.tok (S.base.keeps k.heap) (S.keeps k.heap).zin r fun v s'' k' r' => hQ v s'' (k.trans' k') r') he hplain) eo.kind hx eo.globals eo.builtins hd)

/-- a def of the text: where it stands -/
structure IsDef (f : Addr) (name : PySem.Str) (params : Arguments) (body : List Stmt) (scope : Scope) : Prop where
  ex : ∀ P : Params, ∃ oc od doc pm an cdv ct osl, (Kf P).lookup f = some ⟨oc, od, .func (fnOf name name params body scope .none .none doc pm an cdv ct), osl⟩ ∧ codeIn (Kf P) cdv name = true

theorem Ev.callF {x f np e es pos ds d name params body scope} (g : Gl x (.ref f)) (df : IsDef f name params body scope) (eo : EOk env) (hx : env.kindOf x = some .globalImplicit) (ha : EvL w mg mb A env m (e :: es) ds) (ho : OpL w mg mb A (fun vs => call (.ref f) vs) ds d)
    (he : starEach (e :: es) env = (false, eval e env) :: starEach es env := by rfl)
    (hd : (x == ("__debug__" : PySem.Str)) = false := by decide) : Ev w mg mb A env m (.Call (.Name x np) (e :: es) [] pos) d := by
  refine ⟨?_⟩; intro Z s Q E T S hQ
  refine wpAny_Call_ofName (name_global g S.base ?_ eo.kind hx eo.globals eo.builtins hd)
  obtain ⟨oc, od, doc, pm, an, cdv, ct, osl, e, hc⟩ := df.ex w.params
  refine callWith_def (o := ⟨oc, od, .func (fnOf name name params body scope .none .none doc pm an cdv ct), osl⟩) rfl ?_ he
  exact ha.run pos Z s _ E T S fun vs s' k r => ⟨S.base.K.keeps k.heap _ _ e, ho.run Z s' vs Q E k.tok (S.base.keeps k.heap) (S.keeps k.heap).zin r fun v s'' k' r' => hQ v s'' (k.trans' k') r'⟩
theorem Ev.callF0 {x f np pos d name params body scope} (g : Gl x (.ref f)) (df : IsDef f name params body scope) (eo : EOk env) (hx : env.kindOf x = some .globalImplicit) (ho : OpL w mg mb A (fun vs => call (.ref f) vs) [] d)
    (hd : (x == ("__debug__" : PySem.Str)) = false := by decide) : Ev w mg mb A env m (.Call (.Name x np) [] [] pos) d := by
  refine ⟨?_⟩; intro Z s Q E T S hQ
  refine wpAny_Call_ofName (name_global g S.base ?_ eo.kind hx eo.globals eo.builtins hd)
  obtain ⟨oc, od, doc, pm, an, cdv, ct, osl, e, hc⟩ := df.ex w.params
  refine callWith_function (o := ⟨oc, od, .func (fnOf name name params body scope .none .none doc pm an cdv ct), osl⟩) (fd := fnOf name name params body scope .none .none doc pm an cdv ct) (PySem.evalArgs_none ⟨⟨S.base.K _ _ e, rfl⟩, ?_⟩)
  exact ho.run Z s [] Q E T S.base S.zin (by rw [RepL]; trivial) hQ

theorem lookup_of_mem {α} : ∀ {l : List (PySem.Str × α)} {x : PySem.Str} {d : α}, (l.map (·.1)).Nodup → (x, d) ∈ l → l.lookup x = some d
  | (y, e) :: l, x, d, n, h => by
    rw [List.map_cons, List.nodup_cons] at n
    rcases List.mem_cons.mp h with e' | h2
    · cases e'; exact lookup_cons_eq
    · have : x ≠ y := by
        rintro rfl
        have := List.mem_map_of_mem (f := fun p : PySem.Str × α => p.1) h2
        exact n.1 this
      rw [lookup_cons_ne this]
      exact lookup_of_mem n.2 h2
theorem zip_lookup {Z : Addr → Prop} {h : Heap} : ∀ {ps : List PySem.Str} {vs : List Value} {ds : List D} {x : PySem.Str} {d : D}, RepL w Z h vs ds → (ps.zip ds).lookup x = some d → ∃ v, (x, v) ∈ ps.zip vs ∧ Rep w Z h v d
  | [], _, _, _, _, _, e => by simp at e
  | p :: ps, [], [], _, _, _, e => by simp at e
  | p :: ps, [], _ :: _, _, _, r, e => by rw [RepL] at r; exact r.elim
  | p :: ps, _ :: _, [], _, _, r, e => by rw [RepL] at r; exact r.elim
  | p :: ps, v :: vs, d' :: ds, x, d, r, e => by
    rw [RepL] at r
    rw [List.zip_cons_cons] at e ⊢
    by_cases hx : x = p
    · subst hx
      rw [lookup_cons_eq] at e
      cases e
      exact ⟨v, .head _, r.1⟩
    · rw [lookup_cons_ne hx] at e
      obtain ⟨u, q, q'⟩ := zip_lookup r.2 e
      exact ⟨u, .tail _ q, q'⟩

theorem Contract.plain {f name params body scope n} {ps : List PySem.Str} {ds : List D} {d : D} (df : IsDef f name params body scope) (hnd : ps.Nodup) (hlen : ps.length = ds.length)
    (hbind : ∀ doc pm an cdv ct vs, vs.length = ds.length → bindArgs (fnOf name name params body scope .none .none doc pm an cdv ct) ⟨vs, []⟩ = pure (ps.zip vs))
    (hcell : ∀ x ∈ scope.names, x.2 ≠ .cell) (hloc : ∀ x ∈ ps, scope.names.lookup x = some .local) (hco : scope.isCoroutine = false) (hgen : scope.isGenerator = false) (hk : scope.kind = .function)
    (hbody : ∀ A' L cdv, Room A' n → Ex w mg mb A' (envOf name scope L f cdv) (ps.zip ds) body (.ret d)) (hA : Room A (n + 1)) : OpL w mg mb A (fun vs => call (.ref f) vs) ds d := by
  refine ⟨?_⟩; intro Z s vs Q E T B zi r hQ
  obtain ⟨oc, od, doc, pm, an, cdv, ct, osl, e, hc⟩ := df.ex w.params
  have hl := RepL.length vs ds r
  refine wpAny_call ?_
  refine codeAny_call_def (fd := fnOf name name params body scope .none .none doc pm an cdv ct) (body := body) (binds := ps.zip vs) (by have := hA.depth; omega) (B.K _ _ e) rfl B.nolimit (codeRec_of B.K hc) rfl (BindsTo.of_eq (hbind _ _ _ _ _ vs hl)) hcell
    (fun x hx => hloc _ (List.of_mem_zip hx).1) (fun h₁ hns hk₁ => ?_) hco hgen hk
  have TT : 1 ≤ s.toks + (ps.zip vs).length := Nat.le_add_right_of_le T
  have hroom : Room (A.deeper (envOf name scope s.heap.objs.size f cdv)) n := ⟨hA.handled, by have := hA.depth; show A.depth + 1 + n < _; omega, by have := hA.units; show A.units + 3 + 16 * n < _; omega⟩
  have fresh : s.heap.get? s.heap.objs.size = none := by
    cases q : s.heap.get? s.heap.objs.size with
    | none => rfl
    | some o => exact absurd (Heap.lt_size q) (Nat.lt_irrefl _)
  have F : Fs w mg mb s.heap (fun a => Z a ∨ a = s.heap.objs.size) (envOf name scope s.heap.objs.size f cdv) (ps.zip ds) h₁ := by
    refine ⟨B, hk₁, fun a z => ?_, fun x d' hx => ?_, fun a z => ?_, ⟨_, hns⟩, fun x c hx => (by cases hx), fun x y c hx => (by cases hx)⟩
    · rcases z with z | rfl
      · obtain ⟨o, q⟩ := zi a z; exact ⟨o, hk₁ _ _ q⟩
      · obtain ⟨o, _, _, q, _⟩ := hns; exact ⟨o, q⟩
    · obtain ⟨v, hv, rv⟩ := zip_lookup r hx
      refine ⟨v, .inl ⟨hloc _ (List.of_mem_zip hv).1, _, hns, ?_⟩, ?_⟩
      · have n' : ((ps.zip vs).map (·.1)).Nodup := by rw [List.map_fst_zip (by omega)]; exact hnd
        refine lookup_of_mem (l := (ps.zip vs).reverse) ?_ (List.mem_reverse.mpr hv)
        rw [List.map_reverse]; exact (List.pairwise_reverse.mpr (n'.imp fun h => h.symm))
      · refine Rep.keeps (Rep.zz (fun x o q z => ?_) _ _ rv) hk₁
        rcases z with z | rfl
        · exact z
        · rw [fresh] at q; cases q
    · rcases z with rfl | ⟨x, hx⟩
      · exact ⟨.inr rfl, fresh⟩
      · cases hx
  refine wpAny_mono ((hbody _ _ _ hroom).run s.heap _ _ _ (fun _ _ => False) TT F fun fl s' k p => ?_) (fun _ _ q => q) (fun _ _ q => q.elim)
  obtain ⟨v, rfl, rv, m', F'⟩ := p
  obtain ⟨⟨h', tk, rfl⟩, _, kt⟩ := k
  exact hQ v _ (Ks.of kt F'.keep) (Rep.zz (fun _ _ _ z => .inl z) _ _ rv)

theorem bindL_not {kindOf : PySem.Str → Option NameKind} : ∀ (binds : List (PySem.Str × Value)) (m : PySem.Str → Option Value) (x : PySem.Str), x ∉ binds.map (·.1) → bindL kindOf binds m x = m x
  | [], _, _, _ => rfl
  | (y, u) :: r, m, x, h => by
    rw [List.map_cons, List.mem_cons, not_or] at h
    unfold bindL
    rw [bindL_not r _ x h.2]
    split
    · exact if_neg h.1
    · rfl
theorem bindC_not {kindOf : PySem.Str → Option NameKind} : ∀ (binds : List (PySem.Str × Value)) (m : PySem.Str → Option Value) (x : PySem.Str), x ∉ binds.map (·.1) → bindC kindOf binds m x = m x
  | [], _, _, _ => rfl
  | (y, u) :: r, m, x, h => by
    rw [List.map_cons, List.mem_cons, not_or] at h
    unfold bindC
    rw [bindC_not r _ x h.2]
    split
    · rfl
    · exact if_neg h.1
theorem bindL_mem {kindOf : PySem.Str → Option NameKind} : ∀ (binds : List (PySem.Str × Value)) (m : PySem.Str → Option Value) (x : PySem.Str) (v : Value), (binds.map (·.1)).Nodup → (x, v) ∈ binds → kindOf x = some .local → bindL kindOf binds m x = some v
  | (y, u) :: r, m, x, v, n, h, hk => by
    rw [List.map_cons, List.nodup_cons] at n
    unfold bindL
    rcases List.mem_cons.mp h with e | h2
    · obtain ⟨rfl, rfl⟩ := Prod.mk.inj e
      rw [bindL_not r _ x n.1, if_pos hk]; exact if_pos rfl
    · exact bindL_mem r _ x v n.2 h2 hk
theorem bindC_mem {kindOf : PySem.Str → Option NameKind} : ∀ (binds : List (PySem.Str × Value)) (m : PySem.Str → Option Value) (x : PySem.Str) (v : Value), (binds.map (·.1)).Nodup → (x, v) ∈ binds → kindOf x ≠ some .local → bindC kindOf binds m x = some v
  | (y, u) :: r, m, x, v, n, h, hk => by
    rw [List.map_cons, List.nodup_cons] at n
    unfold bindC
    rcases List.mem_cons.mp h with e | h2
    · obtain ⟨rfl, rfl⟩ := Prod.mk.inj e
      rw [bindC_not r _ x n.1, if_neg hk]; exact if_pos rfl
    · exact bindC_mem r _ x v n.2 h2 hk

theorem Contract.cells {f name params body scope n} {ps : List PySem.Str} {ds : List D} {d : D} (df : IsDef f name params body scope) (hnd : ps.Nodup) (hlen : ps.length = ds.length)
    (hbind : ∀ doc pm an cdv ct vs, vs.length = ds.length → bindArgs (fnOf name name params body scope .none .none doc pm an cdv ct) ⟨vs, []⟩ = pure (ps.zip vs))
    (hkind : (ps.all fun y => scope.names.lookup y == some .local || scope.names.lookup y == some .cell) = true) (hco : scope.isCoroutine = false) (hgen : scope.isGenerator = false) (hk : scope.kind = .function)
    (hnc : ((cellsFrom 0 scope.names []).map (·.1)).Nodup)
    (hbody : ∀ A' L cdv, Room A' n → Ex w mg mb A' (envOfC name scope L f cdv) (ps.zip ds) body (.ret d)) (hA : Room A (n + 1)) : OpL w mg mb A (fun vs => call (.ref f) vs) ds d := by
  refine ⟨?_⟩; intro Z s vs Q E T B zi r hQ
  obtain ⟨oc, od, doc, pm, an, cdv, ct, osl, e, hc⟩ := df.ex w.params
  have hl := RepL.length vs ds r
  refine wpAny_call ?_
  have hks : ((ps.zip vs).all fun y => scope.names.lookup y.1 == some .local || scope.names.lookup y.1 == some .cell) = true := by
    rw [List.all_eq_true] at hkind ⊢
    exact fun y hy => hkind _ (List.of_mem_zip hy).1
  have n' : ((ps.zip vs).map (·.1)).Nodup := by rw [List.map_fst_zip (by omega)]; exact hnd
  refine codeAny_call_function (fd := fnOf name name params body scope .none .none doc pm an cdv ct) (body := body) (by have := hA.depth; omega) (B.K _ _ e) rfl hco hgen rfl (codeRec_of B.K hc) ((BindsTo.of_eq (hbind _ _ _ _ _ vs hl)) _ _ _ _ ?_)
  refine tokd T (wpAny_newFunctionEnv_cells hk (kindsX hks _) fun env he s₁ x TT => ?_)
  subst he
  refine ⟨B.nolimit.keeps x.toInCall.keep, codeAny_func ?_⟩
  obtain ⟨h₁, tk, rfl, hk₁⟩ := x.done
  have hroom : Room (A.deeper (envOfC name scope s.heap.objs.size f cdv)) n := ⟨hA.handled, by have := hA.depth; show A.depth + 1 + n < _; omega, by have := hA.units; show A.units + 3 + 16 * n < _; omega⟩
  have fresh : ∀ a, s.heap.objs.size ≤ a → s.heap.get? a = none := fun a ha => by
    cases q : s.heap.get? a with
    | none => rfl
    | some o => exact absurd (Heap.lt_size q) (Nat.not_lt.mpr ha)
  have F : Fs w mg mb s.heap (fun a => Z a ∨ Own (envOfC name scope s.heap.objs.size f cdv) a) (envOfC name scope s.heap.objs.size f cdv) (ps.zip ds) h₁ := by
    have ownfresh : ∀ a, Own (envOfC name scope s.heap.objs.size f cdv) a → s.heap.objs.size ≤ a := by
      rintro a (rfl | ⟨y, hy⟩)
      · exact Nat.le_refl _
      · exact Nat.le_of_lt (x.above y a (PySem.mem_of_lookup hy))
    refine ⟨B, hk₁, fun a z => ?_, fun y d' hx => ?_, fun a z => ⟨.inr z, fresh a (ownfresh a z)⟩, ⟨_, x.toInCall.ns⟩, fun y c hy => ⟨_, x.cell y c hy⟩, fun y z c hy hz => name_of_addr x.apart (PySem.mem_of_lookup hy) (PySem.mem_of_lookup hz)⟩
    · rcases z with z | rfl | ⟨y, hy⟩
      · obtain ⟨o, q⟩ := zi a z; exact ⟨o, hk₁ _ _ q⟩
      · obtain ⟨o, _, _, q, _⟩ := x.toInCall.ns; exact ⟨o, q⟩
      · obtain ⟨o, q, _⟩ := x.cell y a hy; exact ⟨o, q⟩
    · obtain ⟨v, hv, rv⟩ := zip_lookup r hx
      refine ⟨v, ?_, ?_⟩
      · rcases kindsX hks (s.heap.objs.size + 1) _ hv with hl' | ⟨hl', hc'⟩
        · exact .inl ⟨hl', _, x.toInCall.ns, bindL_mem _ _ _ _ n' hv hl'⟩
        · obtain ⟨c, hc'⟩ := Option.isSome_iff_exists.mp hc'
          refine .inr ⟨c, .inl hl', hc', ?_⟩
          have := x.cell y c hc'
          rw [bindC_mem _ _ _ _ n' hv (fun q => by have q' : List.lookup y scope.names = _ := q; rw [q'] at hl'; cases hl')] at this
          exact this
      · refine Rep.keeps (Rep.zz (fun x o q z => ?_) _ _ rv) hk₁
        rcases z with z | z
        · exact z
        · rw [fresh _ (ownfresh _ z)] at q; cases q
  refine wpAny_mono ((hbody _ _ _ hroom).run s.heap _ _ _ (fun _ _ => False) TT F fun fl s' k p => ?_) (fun _ _ q => q) (fun _ _ q => q.elim)
  obtain ⟨v, rfl, rv, m', F'⟩ := p
  obtain ⟨⟨h', tk', rfl⟩, _, kt⟩ := k
  exact hQ v _ (Ks.of kt F'.keep) (Rep.zz (fun _ _ _ z => .inl z) _ _ rv)
end
end Mine
end

section
open PySem PySem.Spec PySem.Calls PySem.W PyProof.Rows
set_option maxRecDepth 100000
set_option linter.all false
namespace Mine
section
variable {w : World} {mg mb : PySem.Str → Option Value} {A : Around} {env : Env} {m : Vars}

theorem ExS.assign {x value pos pos' d} (h : Ev w mg mb A env m value d) (hx : env.kindOf x = some .local ∨ (env.kindOf x = some .cell ∧ (env.cells.lookup x).isSome = true)) (hk : env.scope.kind = .function := by rfl)
    (hs : swapsWith value (some (.Name x pos')) pos.line env = pure false := by rfl) : ExS w mg mb A env m (.Assign [.Name x pos'] value pos) (.next ((x, d) :: m)) := .mk fun h₀ Z s Q E T F hQ =>
  wpAny_Assign_Name (h.run Z s _ E T F.st fun v s' k r => (F.keeps k.heap).store k.tok r hx hk fun s'' k' F' => hQ _ s'' (k.mv.trans k') ⟨rfl, F'⟩) hs
theorem ExS.ret {e pos d} (h : Ev w mg mb A env m e d) : ExS w mg mb A env m (.Return (some e) pos) (.ret d) := .mk fun h₀ Z s Q E T F hQ =>
  wpAny_Return_some (h.run Z s _ E T F.st fun v s' k r => hQ _ s' k.mv ⟨v, rfl, r, m, F.keeps k.heap⟩)
theorem ExS.ifs {t b o pos c out} (ht : EvT w mg mb A env m t c) (h1 : c = true → Ex w mg mb A env m b out) (h2 : c = false → Ex w mg mb A env m o out) : ExS w mg mb A env m (.If t b o pos) out := .mk fun h₀ Z s Q E T F hQ =>
  wpAny_If (ht.run Z s _ E T F.st fun s' k => by
    cases c with
    | true => exact (h1 rfl).run h₀ Z s' Q E k.tok (F.keeps k.heap) fun f s'' k' => hQ f s'' (k.mv.trans k')
    | false => exact (h2 rfl).run h₀ Z s' Q E k.tok (F.keeps k.heap) fun f s'' k' => hQ f s'' (k.mv.trans k'))

theorem Post.weaken {h₀ Z m' m'' f} {s : Shared} (p : Post w mg mb h₀ Z env (.next m') f s) (hm : ∀ x d, m''.lookup x = some d → m'.lookup x = some d) : Post w mg mb h₀ Z env (.next m'') f s := ⟨p.1, p.2.weaken hm⟩
theorem Ex.post {ss m' m''} (h : Ex w mg mb A env m ss (.next m')) (hm : ∀ x d, m''.lookup x = some d → m'.lookup x = some d) : Ex w mg mb A env m ss (.next m'') := .mk fun h₀ Z s Q E T F hQ =>
  h.run h₀ Z s Q E T F fun f s' k p => hQ f s' k (Post.weaken p hm)
theorem ExS.post {ss m' m''} (h : ExS w mg mb A env m ss (.next m')) (hm : ∀ x d, m''.lookup x = some d → m'.lookup x = some d) : ExS w mg mb A env m ss (.next m'') := .mk fun h₀ Z s Q E T F hQ =>
  h.run h₀ Z s Q E T F fun f s' k p => hQ f s' k (Post.weaken p hm)

/-- names stored one behind the other -/
def stores (m : Vars) : List PySem.Str → List D → Vars
  | x :: xs, d :: ds => stores ((x, d) :: m) xs ds
  | _, _ => m
theorem store_names {h₀ Z} : ∀ (xs : List PySem.Str) (ts : List (Value → Sem Unit)) (vs : List Value) (ds : List D) (m : Vars) (s : Shared) (Q : Unit → Shared → Prop) (E : Value → Shared → Prop), 1 ≤ s.toks → Fs w mg mb h₀ Z env m s.heap → RepL w Z s.heap vs ds → xs.length = vs.length →
    (∀ (i : Nat) (x : PySem.Str) (t : Value → Sem Unit), xs[i]? = some x → ts[i]? = some t → ∀ (v : Value) (s : Shared) (Q : Unit → Shared → Prop), wpAny (model prog w) A (storeName env x v) Q E s → wpAny (model prog w) A (t v) Q E s) → ts.length = xs.length →
    (∀ x ∈ xs, env.kindOf x = some .local ∨ (env.kindOf x = some .cell ∧ (env.cells.lookup x).isSome = true)) → env.scope.kind = .function →
    (∀ s', Mv (Own env) s s' → Fs w mg mb h₀ Z env (stores m xs ds) s'.heap → Q () s') → wpAny (model prog w) A (assignInOrder ts vs) Q E s
  | [], [], vs, ds, m, s, Q, E, T, F, r, hl, ht, hl', hx, hk, hQ => by
    cases vs with
    | cons v vs => cases hl
    | nil => exact wpAny_pure (hQ s (Mv.refl _ _ T) (by cases ds <;> exact F))
  | x :: xs, t :: ts, v :: vs, d :: ds, m, s, Q, E, T, F, r, hl, ht, hl', hx, hk, hQ => by
    rw [RepL] at r
    refine wpAny_assignInOrder_more (ht 0 x t rfl rfl v s _ (F.store T r.1 (hx x (.head _)) hk fun s' k F' => ?_))
    refine store_names xs ts vs ds _ s' Q E k.tok F' (RepL.kp k.heap (fun a z => (F.own a z).1) _ _ r.2) (by simpa using hl) (fun i x t h1 h2 => ht (i + 1) x t (by simpa using h1) (by simpa using h2)) (by simpa using hl') (fun y hy => hx y (.tail _ hy)) hk fun s'' k' F'' => hQ s'' (k.trans k') F''
  | [], _ :: _, _, _, _, _, _, _, _, _, _, _, _, hl', _, _, _ => by cases hl'
  | _ :: _, [], _, _, _, _, _, _, _, _, _, _, _, hl', _, _, _ => by cases hl'
  | _ :: _, _ :: _, [], _, _, _, _, _, _, _, _, hl, _, _, _, _, _ => by cases hl
  | _ :: _, _ :: _, _ :: _, [], _, _, _, _, _, _, r, _, _, _, _, _, _ => by rw [RepL] at r; exact r.elim

theorem isTuple_of {h : Heap} {a} {l} (x : IsTup h a l) : h.IsTuple a l := x

/-- a, b = value that gives a tuple (the stores in the written order) -/
theorem ExS.assignTup {elts : List Expr} {xs : List PySem.Str} {k tpos value pos ds} (h : Ev w mg mb A env m value (.tup ds)) (hA : A.handled = none) (hxl : xs.length = ds.length)
    (he : ∃ ps : List Pos, ps.length = xs.length ∧ elts = (xs.zip ps).map fun p => Expr.Name p.1 p.2)
    (hx : ∀ x ∈ xs, env.kindOf x = some .local ∨ (env.kindOf x = some .cell ∧ (env.cells.lookup x).isSome = true)) (hk : env.scope.kind = .function := by rfl)
    (hs : swapsWithSole [.Tuple elts k tpos] value pos.line env = pure false := by rfl) (hw : swappedStores [.Tuple elts k tpos] value env = pure none := by rfl) :
    ExS w mg mb A env m (.Assign [.Tuple elts k tpos] value pos) (.next (stores m xs ds)) := by
  refine ⟨?_⟩; intro h₀ Z s Q E T F hQ
  refine Assign_Tuple (h.run Z s _ E T F.st fun v s₁ k₁ r => ?_) hs hw
  obtain ⟨a, vs, rfl, nz, it, rl⟩ := Rep_tup.1 r
  have hvl := RepL.length vs ds rl
  obtain ⟨ps, hpl, rfl⟩ := he
  have key : ∀ (l : List (PySem.Str × Pos)), assignEach (l.map fun p => Expr.Name p.1 p.2) env = l.map fun p => (false, PySem.assign (Expr.Name p.1 p.2) env) := by
    intro l
    induction l with
    | nil => rfl
    | cons p l ih => rw [List.map_cons, List.map_cons, ← ih]; rfl
  have hzl : (xs.zip ps).length = xs.length := by rw [List.length_zip]; omega
  refine wpAny_assign_Tuple hA (isTuple_of it) (by rw [key, List.length_map, hzl, List.size_toArray]; omega) ?_ fun h' ke => ?_
  · rw [key]
    rw [List.findIdx?_eq_none_iff]
    intro p hp
    obtain ⟨q, _, rfl⟩ := List.mem_map.mp hp
    rfl
  · have kk : ∀ b o, s₁.heap.get? b = some o → h'.get? b = some o := fun b o e => ke b o (Nat.ne_of_lt (Heap.lt_size e)) e
    refine store_names xs _ vs ds m _ _ E k₁.tok ((F.keeps k₁.heap).keeps kk) (rl.keeps kk) (by omega) (fun i x t h1 h2 v s Q hh => ?_) (by rw [key, List.length_map, List.length_map, hzl]) hx hk fun s' k' F' => ?_
    · rw [key, List.map_map, List.getElem?_map] at h2
      have hi : i < xs.length := (List.getElem?_eq_some_iff.mp h1).1
      have : (xs.zip ps)[i]? = some (x, ps[i]'(by omega)) := by
        rw [List.getElem?_zip_eq_some]
        exact ⟨h1, by simp⟩
      rw [this] at h2
      cases h2
      exact wpAny_assign_Name hh
    · have k2 : Ks s₁ { s₁ with heap := h' } := ⟨⟨h', s₁.toks, rfl⟩, kk, k₁.tok⟩
      exact hQ _ s' ((k₁.mv.trans k2.mv).trans k') ⟨rfl, F'⟩

/-- a, b = (u, v) of two or three locals: the last is stored first -/
theorem ExS.assignSwap {elts : List Expr} {xs : List PySem.Str} {k tpos value pos ds} (h : Ev w mg mb A env m value (.tup ds)) (hA : A.handled = none) (hxl : xs.length = ds.length)
    (hx : ∀ x ∈ xs, env.kindOf x = some .local ∨ (env.kindOf x = some .cell ∧ (env.cells.lookup x).isSome = true)) (hk : env.scope.kind = .function := by rfl)
    (hs : swapsWithSole [.Tuple elts k tpos] value pos.line env = pure false := by rfl) (hw : swappedStores [.Tuple elts k tpos] value env = pure (some xs) := by rfl) :
    ExS w mg mb A env m (.Assign [.Tuple elts k tpos] value pos) (.next (stores m xs.reverse ds.reverse)) := by
  refine ⟨?_⟩; intro h₀ Z s Q E T F hQ
  refine Assign_Tuple_swapped (h.run Z s _ E T F.st fun v s₁ k₁ r => ?_) hs hw
  obtain ⟨a, vs, rfl, nz, it, rl⟩ := Rep_tup.1 r
  have hvl := RepL.length vs ds rl
  have e : xs.length = (vs.toArray).size := by rw [List.size_toArray]; omega
  rw [e]
  refine wpAny_unpackItems_tuple hA (isTuple_of it) fun h' ke => ?_
  have kk : ∀ b o, s₁.heap.get? b = some o → h'.get? b = some o := fun b o e => ke b o (Nat.ne_of_lt (Heap.lt_size e)) e
  have rev : ∀ (vs : List Value) (ds : List D), RepL w Z h' vs ds → RepL w Z h' vs.reverse ds.reverse := by
    intro vs
    induction vs with
    | nil => intro ds r; cases ds with
      | nil => exact r
      | cons d ds => rw [RepL] at r; exact r.elim
    | cons v vs ih => intro ds r; cases ds with
      | nil => rw [RepL] at r; exact r.elim
      | cons d ds =>
        rw [RepL] at r
        rw [List.reverse_cons, List.reverse_cons]
        exact (ih ds r.2).snoc r.1
  refine store_names xs.reverse _ _ ds.reverse m _ _ E k₁.tok ((F.keeps k₁.heap).keeps kk) (rev vs ds (rl.keeps kk)) (by simp; omega) (fun i x t h1 h2 v s Q hh => ?_) (by rw [List.length_map]) (fun x hx' => hx x (List.mem_reverse.mp hx')) hk fun s' k' F' => ?_
  · rw [List.getElem?_map, h1] at h2
    cases h2
    exact wpAny_bindName hh
  · have k2 : Ks s₁ { s₁ with heap := h' } := ⟨⟨h', s₁.toks, rfl⟩, kk, k₁.tok⟩
    exact hQ _ s' ((k₁.mv.trans k2.mv).trans k') ⟨rfl, F'⟩

/-- x = y = value -/
theorem ExS.assign3 {x y z value pos p1 p2 p3 d} (h : Ev w mg mb A env m value d)
    (hx : env.kindOf x = some .local ∨ (env.kindOf x = some .cell ∧ (env.cells.lookup x).isSome = true)) (hy : env.kindOf y = some .local ∨ (env.kindOf y = some .cell ∧ (env.cells.lookup y).isSome = true)) (hz : env.kindOf z = some .local ∨ (env.kindOf z = some .cell ∧ (env.cells.lookup z).isSome = true)) (hk : env.scope.kind = .function := by rfl)
    (hs : swapsWithSole [.Name x p1, .Name y p2, .Name z p3] value pos.line env = pure false := by rfl) (hw : swappedStores [.Name x p1, .Name y p2, .Name z p3] value env = pure none := by rfl) :
    ExS w mg mb A env m (.Assign [.Name x p1, .Name y p2, .Name z p3] value pos) (.next ((z, d) :: (y, d) :: (x, d) :: m)) := by
  refine ⟨?_⟩; intro h₀ Z s Q E T F hQ
  refine wpAny_Assign_stores (h.run Z s _ E T F.st fun v s₁ k₁ r => ?_) hs hw
  show wpAny _ A (assignAll v [PySem.assign (.Name x p1) env, PySem.assign (.Name y p2) env, PySem.assign (.Name z p3) env]) _ _ _
  show wpAny _ A (do holding [v] (PySem.assign (.Name x p1) env v); assignAll v [PySem.assign (.Name y p2) env, PySem.assign (.Name z p3) env]) _ _ _
  refine wpAny_bind (wpAny_holding (wpAny_assign_Name ((F.keeps k₁.heap).store k₁.tok r hx hk fun s₂ k₂ F₂ => ?_)))
  have r₂ := Rep.kp k₂.heap (fun a z => (F.own a z).1) _ _ r
  show wpAny _ A (do holding [v] (PySem.assign (.Name y p2) env v); assignAll v [PySem.assign (.Name z p3) env]) _ _ _
  refine wpAny_bind (wpAny_holding (wpAny_assign_Name (F₂.store k₂.tok r₂ hy hk fun s₃ k₃ F₃ => ?_)))
  have r₃ := Rep.kp k₃.heap (fun a z => (F.own a z).1) _ _ r₂
  show wpAny _ A (PySem.assign (.Name z p3) env v) _ _ _
  exact wpAny_assign_Name (F₃.store k₃.tok r₃ hz hk fun s₄ k₄ F₄ => hQ _ s₄ (((k₁.mv.trans k₂).trans k₃).trans k₄) ⟨rfl, F₄⟩)
end
end Mine
end

section
open PySem PySem.Spec PySem.Calls PySem.W PyProof.Rows
set_option maxRecDepth 100000
set_option linter.all false
namespace Mine
section
variable {w : World} {mg mb : PySem.Str → Option Value} {A : Around} {env : Env} {m : Vars}

structure Src (w : World) (A : Around) (Z : Addr → Prop) (ds : List D) (s s₂ : Shared) (I : Addr) (fp wr : List Addr) (P : Nat → Value → Prop) (K : Nat → Heap → Prop) : Prop where
  walks : Walks prog w A I fp wr ds.length P K
  st : K 0 s₂.heap
  lt : ∀ b ∈ fp, b < s₂.heap.objs.size
  new : ∀ b ∈ wr, s.heap.get? b = none
  alive : ∀ i h, K i h → ∀ b ∈ wr, ∃ o, h.get? b = some o
  rest : ∀ b ∈ fp, b ∉ wr → ¬ Z b ∧ ∃ o, s.heap.get? b = some o
  item : ∀ i v d, ds[i]? = some d → P i v → Rep w Z s.heap v d

/-- a datum that is iterated -/
structure Iter (w : World) (A : Around) (d : D) (ds : List D) : Prop where
  run : ∀ (Z : Addr → Prop) (s : Shared) (v : Value) (Q E : Value → Shared → Prop), 1 ≤ s.toks → Rep w Z s.heap v d → (∀ I fp wr P K s₂, Ks s s₂ → Src w A Z ds s s₂ I fp wr P K → Q (.ref I) s₂) → wpAny (model prog w) A (pyIter v) Q E s

theorem fresh_none (h : Heap) (a : Addr) (ha : h.objs.size ≤ a) : h.get? a = none := by
  cases q : h.get? a with
  | none => rfl
  | some o => exact absurd (Heap.lt_size q) (Nat.not_lt.mpr ha)

theorem Iter.list {ds} (hA : A.handled = none) : Iter w A (.list ds) ds := by
  refine ⟨?_⟩; intro Z s v Q E T r hQ
  obtain ⟨a, vs, rfl, nz, pl, rl⟩ := Rep_list.1 r
  obtain ⟨o, ho, hc, n, hd⟩ := pl.isList
  have hax : a < s.heap.objs.size := Heap.lt_size ho
  have hl := RepL.length vs ds rl
  refine wpAny_pyIter_list pl.isList (hQ s.heap.objs.size [s.heap.objs.size, a] [s.heap.objs.size] (fun i v => vs.toArray[i]? = some v) (fun i h => h.IsListIter s.heap.objs.size a i ∧ h.IsList a vs.toArray) _ (Ks.push _ _ T) ⟨?_, ⟨⟨_, Heap.get?_push_size _ rfl, rfl, rfl⟩, pl.isList.push _⟩, ?_, ?_, ?_, ?_, ?_⟩)
  · have := Walks.list (prog := prog) (w := w) hA s.heap.objs.size a (Nat.ne_of_lt hax) vs.toArray
    have e : vs.toArray.size = ds.length := hl
    exact e ▸ this
  · intro b hb
    rw [show ({ s with heap := s.heap.push { cls := .type "list_iterator", data := .fields #[.ref a, .int 0 0] } } : Shared).heap.objs.size = s.heap.objs.size + 1 from Heap.size_push ..]
    rcases List.mem_cons.mp hb with rfl | hb
    · exact Nat.lt_succ_self _
    · rw [List.mem_singleton] at hb; subst hb; exact Nat.lt_succ_of_lt hax
  · intro b hb; rw [List.mem_singleton] at hb; subst hb; exact fresh_none _ _ (Nat.le_refl _)
  · rintro i h ⟨⟨o, e, _⟩, _⟩ b hb; rw [List.mem_singleton] at hb; subst hb; exact ⟨o, e⟩
  · intro b hb hb'
    rcases List.mem_cons.mp hb with rfl | hb
    · exact absurd (List.mem_singleton.mpr rfl) hb'
    · rw [List.mem_singleton] at hb; subst hb; exact ⟨nz, o, ho⟩
  · intro i v d hd hv
    obtain ⟨d', hd', r'⟩ := RepL.get vs ds i v rl (by simpa using hv)
    rw [hd] at hd'; cases hd'; exact r'

theorem Iter.tup {ds} (hA : A.handled = none) : Iter w A (.tup ds) ds := by
  refine ⟨?_⟩; intro Z s v Q E T r hQ
  obtain ⟨a, vs, rfl, nz, pl, rl⟩ := Rep_tup.1 r
  obtain ⟨o, ho, hc, n, hd⟩ := id pl
  have hax : a < s.heap.objs.size := Heap.lt_size ho
  have hl := RepL.length vs ds rl
  refine wpAny_pyIter_tuple (isTuple_of pl) (hQ s.heap.objs.size [s.heap.objs.size, a] [s.heap.objs.size] (fun i v => vs.toArray[i]? = some v) (fun i h => h.IsTupleIter s.heap.objs.size a i ∧ h.IsTuple a vs.toArray) _ (Ks.push _ _ T) ⟨?_, ⟨⟨_, Heap.get?_push_size _ rfl, rfl, rfl⟩, (isTuple_of pl).at fun o e => Heap.get?_push_of_some _ e⟩, ?_, ?_, ?_, ?_, ?_⟩)
  · have := Walks.tuple (prog := prog) (w := w) hA s.heap.objs.size a (Nat.ne_of_lt hax) vs.toArray
    have e : vs.toArray.size = ds.length := hl
    exact e ▸ this
  · intro b hb
    rw [Heap.size_push]
    rcases List.mem_cons.mp hb with rfl | hb
    · exact Nat.lt_succ_self _
    · rw [List.mem_singleton] at hb; subst hb; exact Nat.lt_succ_of_lt hax
  · intro b hb; rw [List.mem_singleton] at hb; subst hb; exact fresh_none _ _ (Nat.le_refl _)
  · rintro i h ⟨⟨o, e, _⟩, _⟩ b hb; rw [List.mem_singleton] at hb; subst hb; exact ⟨o, e⟩
  · intro b hb hb'
    rcases List.mem_cons.mp hb with rfl | hb
    · exact absurd (List.mem_singleton.mpr rfl) hb'
    · rw [List.mem_singleton] at hb; subst hb; exact ⟨nz, o, ho⟩
  · intro i v d hd hv
    obtain ⟨d', hd', r'⟩ := RepL.get vs ds i v rl (by simpa using hv)
    rw [hd] at hd'; cases hd'; exact r'

theorem Iter.range {a b : Int} {n : Nat} (hA : A.handled = none) (hn : n = (b - a).toNat) (h1 : Builtin.Range.small a b 1 = true) : Iter w A (.range a b) ((List.range n).map fun i : Nat => D.int (a + i)) := by
  refine ⟨?_⟩; intro Z s v Q E T r hQ
  rw [Rep] at r
  obtain ⟨ra, t, u, k, rfl, nz, ir⟩ := r
  have hrs : Builtin.Range.rangeSize a b 1 = (n : Int) := by
    rw [rangeSize_one]; split <;> omega
  refine wpAny_pyIter_range ir h1 ?_
  rw [hrs]
  refine hQ s.heap.objs.size [s.heap.objs.size] [s.heap.objs.size] (fun i v => ∃ t, v = .int (a + i * 1) t) (fun i h => IsRangeIter h s.heap.objs.size (a + (i : Nat) * 1) ((n : Int) - (i : Nat)) 1) _ (Ks.push _ _ T) ⟨?_, ?_, ?_, ?_, ?_, ?_, ?_⟩
  · rw [List.length_map, List.length_range]
    exact Walks.range (prog := prog) (w := w) hA s.heap.objs.size a 1 n
  · have := Heap.get?_push_size s.heap (o := { cls := .type "range_iterator", data := .fields #[rawInt a, rawInt (n : Int), rawInt 1] }) rfl
    simpa using this
  · intro b hb; rw [List.mem_singleton] at hb; subst hb; rw [Heap.size_push]; exact Nat.lt_succ_self _
  · intro b hb; rw [List.mem_singleton] at hb; subst hb; exact fresh_none _ _ (Nat.le_refl _)
  · rintro i h e b hb; rw [List.mem_singleton] at hb; subst hb; exact ⟨_, e⟩
  · intro b hb hb'; exact absurd hb hb'
  · rintro i v d hd ⟨t, rfl⟩
    rw [List.getElem?_map] at hd
    cases q : (List.range n)[i]? with
    | none => rw [q] at hd; cases hd
    | some j =>
      rw [q] at hd
      rw [List.getElem?_range (by have := (List.getElem?_eq_some_iff.mp q).1; simpa using this)] at q
      cases q
      cases hd
      rw [Int.mul_one]
      exact rint

theorem Iter.str {x : PySem.Str} (hA : A.handled = none) : Iter w A (.str x) (x.cps.toList.map fun c => D.str ⟨#[c]⟩) := by
  refine ⟨?_⟩; intro Z s v Q E T0 r hQ
  obtain ⟨t, rfl⟩ := Rep_str.1 r
  have key : ∀ (T : String) (o : Obj), (s.heap.push o).IsStrIter s.heap.objs.size T x t 0 → (Walks prog w A s.heap.objs.size [s.heap.objs.size] [s.heap.objs.size] x.cps.size (SignAt x) (fun i h => h.IsStrIter s.heap.objs.size T x t i)) →
      Q (.ref s.heap.objs.size) { s with heap := s.heap.push o } := fun T o st W => by
    refine hQ s.heap.objs.size [s.heap.objs.size] [s.heap.objs.size] (SignAt x) (fun i h => h.IsStrIter s.heap.objs.size T x t i) _ (Ks.push _ _ T0) ⟨?_, st, ?_, ?_, ?_, ?_, ?_⟩
    · rw [List.length_map, Array.length_toList]
      exact W
    · intro b hb; rw [List.mem_singleton] at hb; subst hb; rw [Heap.size_push]; exact Nat.lt_succ_self _
    · intro b hb; rw [List.mem_singleton] at hb; subst hb; exact fresh_none _ _ (Nat.le_refl _)
    · rintro i h ⟨o, e, _⟩ b hb; rw [List.mem_singleton] at hb; subst hb; exact ⟨o, e⟩
    · intro b hb hb'; exact absurd hb hb'
    · rintro i v d hd ⟨c, t, hc, rfl⟩
      rw [List.getElem?_map, Array.getElem?_toList, hc] at hd
      cases hd
      exact rstr
  cases ha : x.cps.all (· < 128)
  · exact wpAny_pyIter_wide ha (key _ _ ⟨_, Heap.get?_push_size _ rfl, rfl, rfl⟩ (Walks.strWide hA _ x t))
  · exact wpAny_pyIter_ascii ha (key _ _ ⟨_, Heap.get?_push_size _ rfl, rfl, rfl⟩ (Walks.strAscii hA _ x t))
end
end Mine
end

section
open PySem PySem.Spec PySem.Calls PySem.W PyProof.Rows
set_option maxRecDepth 100000
set_option linter.all false
namespace Mine
section
variable {w : World} {mg mb : PySem.Str → Option Value} {A : Around} {env : Env} {m : Vars}

theorem Fs.restrict {h₀ Z Z' m} {h : Heap} (F : Fs w mg mb h₀ Z' env m h) (hz : ∀ a, Z a → Z' a) (ho : ∀ a, Own env a → Z a) : Fs w mg mb h₀ Z env m h :=
  { F with
    zin := fun a z => F.zin a (hz a z)
    vars := fun x d e => let ⟨v, l, r⟩ := F.vars x d e; ⟨v, l, Rep.zz (fun a _ _ z => hz a z) _ _ r⟩
    own := fun a o => ⟨ho a o, (F.own a o).2⟩ }
/-- more addresses that nothing reaches -/
theorem Fs.extend {h₀ Z Z' m} {h h' : Heap} (F : Fs w mg mb h₀ Z env m h) (k : ∀ b o, h.get? b = some o → h'.get? b = some o) (hz : ∀ a, Z a → Z' a) (hn : ∀ a o, h.get? a = some o → Z' a → Z a) (hi : ∀ a, Z' a → ¬ Z a → ∃ o, h'.get? a = some o) : Fs w mg mb h₀ Z' env m h' where
  base₀ := F.base₀
  keep := (F.keeps k).keep
  zin := fun a z => by
    by_cases q : Z a
    · exact (F.keeps k).zin a q
    · exact hi a z q
  vars := fun x d e => let ⟨v, l, r⟩ := F.vars x d e; ⟨v, l.keeps k, (Rep.zz (fun a o e z => hn a o e z) _ _ r).keeps k⟩
  own := fun a o => ⟨hz a (F.own a o).1, (F.own a o).2⟩
  ns := (F.keeps k).ns
  cell := (F.keeps k).cell
  apart := F.apart
theorem Fs.ownIn {h₀ Z m} {h : Heap} (F : Fs w mg mb h₀ Z env m h) {a : Addr} (o : Own env a) : ∃ ob, h.get? a = some ob := F.zin a (F.own a o).1
/-- a change outside the frame's own addresses -/
theorem Fs.other {h₀ Z W m} {h h' : Heap} (F : Fs w mg mb h₀ Z env m h) (k : Kp W h h') (hw : ∀ a, W a → Z a) (hz : ∀ a, W a → ∃ o, h'.get? a = some o) (ho : ∀ a, W a → ¬ Own env a) (h0 : ∀ a, W a → h₀.get? a = none) : Fs w mg mb h₀ Z env m h' where
  base₀ := F.base₀
  keep := fun b o e => k _ _ (fun z => by rw [h0 b z] at e; cases e) (F.keep b o e)
  zin := fun a z => by
    by_cases q : W a
    · exact hz a q
    · obtain ⟨o, e⟩ := F.zin a z; exact ⟨o, k _ _ q e⟩
  vars := fun x d e => by
    obtain ⟨v, l, r⟩ := F.vars x d e
    refine ⟨v, ?_, Rep.kp k hw _ _ r⟩
    rcases l with ⟨a, mm, b, c⟩ | ⟨c, a, b, ⟨o, e1, e2⟩⟩
    · obtain ⟨o, es, ep, e1, e2⟩ := b
      exact .inl ⟨a, mm, ⟨o, es, ep, k _ _ (fun z => ho _ z (.inl rfl)) e1, e2⟩, c⟩
    · exact .inr ⟨c, a, b, ⟨o, k _ _ (fun z => ho _ z (.inr ⟨x, b⟩)) e1, e2⟩⟩
  own := F.own
  ns := by
    obtain ⟨mm, ⟨o, es, ep, e1, e2⟩⟩ := F.ns
    exact ⟨mm, ⟨o, es, ep, k _ _ (fun z => ho _ z (.inl rfl)) e1, e2⟩⟩
  cell := fun x c e => by
    obtain ⟨v, ⟨o, e1, e2⟩⟩ := F.cell x c e
    exact ⟨v, ⟨o, k _ _ (fun z => ho _ z (.inr ⟨x, e⟩)) e1, e2⟩⟩
  apart := F.apart

/-- the iterator has ended -/
theorem Fs.done {h₀ Z Z' W m} {h h' : Heap} (F : Fs w mg mb h₀ Z' env m h) (k : Kp W h h') (hw : ∀ a, W a → Z' a) (hz : ∀ a, Z a → Z' a) (hd : ∀ a, Z a → ¬ W a) (ho : ∀ a, Own env a → Z a) (h0 : ∀ a, W a → h₀.get? a = none) : Fs w mg mb h₀ Z env m h' where
  base₀ := F.base₀
  keep := fun b o e => k _ _ (fun z => by rw [h0 b z] at e; cases e) (F.keep b o e)
  zin := fun a z => by
    obtain ⟨o, e⟩ := F.zin a (hz a z)
    exact ⟨o, k _ _ (hd a z) e⟩
  vars := fun x d e => by
    obtain ⟨v, l, r⟩ := F.vars x d e
    refine ⟨v, ?_, Rep.zz (fun a _ _ z => hz a z) _ _ (Rep.kp k hw _ _ r)⟩
    rcases l with ⟨a, mm, b, c⟩ | ⟨c, a, b, ⟨o, e1, e2⟩⟩
    · obtain ⟨o, es, ep, e1, e2⟩ := b
      exact .inl ⟨a, mm, ⟨o, es, ep, k _ _ (hd _ (ho _ (.inl rfl))) e1, e2⟩, c⟩
    · exact .inr ⟨c, a, b, ⟨o, k _ _ (hd _ (ho _ (.inr ⟨x, b⟩))) e1, e2⟩⟩
  own := fun a o => ⟨ho a o, (F.own a o).2⟩
  ns := by
    obtain ⟨mm, ⟨o, es, ep, e1, e2⟩⟩ := F.ns
    exact ⟨mm, ⟨o, es, ep, k _ _ (hd _ (ho _ (.inl rfl))) e1, e2⟩⟩
  cell := fun x c e => by
    obtain ⟨v, ⟨o, e1, e2⟩⟩ := F.cell x c e
    exact ⟨v, ⟨o, k _ _ (hd _ (ho _ (.inr ⟨x, e⟩))) e1, e2⟩⟩
  apart := F.apart

theorem ExS.for {x px iter body pos src ds} {ms : Nat → Vars} {k : Nat} {o : Out} (hA : A.handled = none) (hit : Ev w mg mb A env m iter src) (hI : Iter w A src ds)
    (hx : env.kindOf x = some .local ∨ (env.kindOf x = some .cell ∧ (env.cells.lookup x).isSome = true)) (hkd : env.scope.kind = .function)
    (hm : ∀ x d, (ms 0).lookup x = some d → m.lookup x = some d) (hk : k ≤ ds.length)
    (hbody : ∀ i d, i < k → ds[i]? = some d → Ex w mg mb A env ((x, d) :: ms i) body (.next (ms (i + 1))))
    (hend : (k = ds.length ∧ o = .next (ms k)) ∨ (∃ d, ds[k]? = some d ∧ ((∃ m', Ex w mg mb A env ((x, d) :: ms k) body (.brk m') ∧ o = .next m') ∨ ∃ r, Ex w mg mb A env ((x, d) :: ms k) body (.ret r) ∧ o = .ret r)))
    (hs : ∀ x, foldedSetIterable iter env x = pure x := by intro _; rfl) : ExS w mg mb A env m (.For (.Name x px) iter body [] pos) o := by
  refine ⟨?_⟩; intro h₀ Z s Q E T F hQ
  refine wpAny_For (hit.run Z s _ E T F.st fun v s₁ k₁ r => hI.run Z s₁ v _ E k₁.tok r fun I fp wr P K s₂ k₂ src => ?_) hs
  have F₁ := F.keeps k₁.heap
  -- the addresses that the iterator writes
  have hZ : ∀ a, Z a → (fun a => Z a ∨ a ∈ wr) a := fun a z => .inl z
  have hN : ∀ a o, s₁.heap.get? a = some o → (Z a ∨ a ∈ wr) → Z a := fun a o e z => z.elim id fun q => by rw [src.new a q] at e; cases e
  have hOw : ∀ a, a ∈ wr → ¬ Own env a := fun a q o => by
    obtain ⟨ob, e⟩ := F₁.ownIn o; rw [src.new a q] at e; cases e
  have h0w : ∀ a, a ∈ wr → h₀.get? a = none := fun a q => by
    cases e : h₀.get? a with
    | none => rfl
    | some o => have := F₁.keep a o e; rw [src.new a q] at this; cases this
  have F₂ : Fs w mg mb h₀ (fun a => Z a ∨ a ∈ wr) env m s₂.heap := F₁.extend k₂.heap hZ hN fun a z q => src.alive 0 _ src.st a (z.resolve_left q)
  have hfpo : ∀ b ∈ fp, ¬ Own env b := fun b hb ho => by
    by_cases q : b ∈ wr
    · exact hOw b q ho
    · exact (src.rest b hb q).1 (F.own b ho).1
  obtain ⟨⟨h₂, tk₂, rfl⟩, k₂h, T₂⟩ := k₂
  -- behind the loop
  have fin : ∀ (h' : Heap) (tk : Nat), 1 ≤ tk → Kp (fun a => Own env a ∨ a ∈ wr) h₂ h' → Mv (Own env) s { s₁ with heap := h', toks := tk } := fun h' tk tt kk => by
    obtain ⟨⟨h₁, tk₁, rfl⟩, k₁h, _⟩ := k₁
    refine ⟨⟨h', tk, rfl⟩, fun b o n e => kk b o (fun q => q.elim n fun q => ?_) (k₂h b o (k₁h b o e)), tt⟩
    have := k₁h b o e
    rw [src.new b q] at this; cases this
  have turnW : ∀ i (h' : Heap), K i h' → Kp (fun a => Own env a) h' h' := fun _ _ _ => Kp.refl _ _
  refine codeAny_forLoop (fun n s' => ∃ i h' tk, s' = { s₁ with heap := h', toks := tk } ∧ 1 ≤ tk ∧ i ≤ k ∧ n = ds.length + 1 - i ∧ K i h' ∧ Fs w mg mb h₀ (fun a => Z a ∨ a ∈ wr) env (ms i) h' ∧ Kp (fun a => Own env a ∨ a ∈ wr) h₂ h') ?_
    (ds.length + 1) ⟨0, h₂, tk₂, rfl, T₂, Nat.zero_le _, rfl, src.st, F₂.weaken hm, Kp.refl _ _⟩
  rintro n s' ⟨i, h', tk, rfl, tt, hik, rfl, hK, F', kk⟩
  by_cases hlt : i < ds.length
  · refine tokd tt (src.walks.item i _ _ _ hlt hK fun v h₃ tk₃ hP hK₃ hk₃ T₃ => ?_)
    have k₃ : Kp (fun a => a ∈ wr) h' h₃ := hk₃
    have F₃ : Fs w mg mb h₀ (fun a => Z a ∨ a ∈ wr) env (ms i) h₃ := F'.other k₃ (fun a q => .inr q) (fun a q => src.alive _ _ hK₃ a q) hOw h0w
    obtain ⟨d, hd⟩ : ∃ d, ds[i]? = some d := ⟨ds[i], by simp [hlt]⟩
    have rv : Rep w (fun a => Z a ∨ a ∈ wr) h₃ v d := by
      have r0 := Rep.keeps (Rep.zz hN _ _ (src.item i v d hd hP)) k₂h
      have r1 := Rep.kp kk (fun a q => q.elim (fun o => .inl (F.own a o).1) .inr) _ _ r0
      exact Rep.kp k₃ (fun a q => .inr q) _ _ r1
    refine wpAny_assign_Name (F₃.store T₃ rv hx hkd fun s₄ k₄ F₄ => ?_)
    obtain ⟨⟨h₄, tk₄, rfl⟩, k₄h, T₄⟩ := k₄
    have hK₄ : K (i + 1) h₄ := src.walks.frame _ _ _ hK₃ fun b hb o e => k₄h b o (hfpo b hb) e
    have kk₄ : Kp (fun a => Own env a ∨ a ∈ wr) h₂ h₄ := (kk.trans (k₃.mono fun _ q => .inr q)).trans (k₄h.mono fun _ q => .inl q)
    by_cases hik' : i < k
    · refine (hbody i d hik' hd).run h₀ _ _ _ _ T₄ F₄ fun f s₅ k₅ p => ?_
      obtain ⟨rfl, F₅⟩ := p
      obtain ⟨⟨h₅, tk₅, rfl⟩, k₅h, T₅⟩ := k₅
      exact ⟨ds.length + 1 - (i + 1), by omega, i + 1, h₅, tk₅, rfl, T₅, hik', rfl, src.walks.frame _ _ _ hK₄ fun b hb o e => k₅h b o (hfpo b hb) e, F₅, kk₄.trans (k₅h.mono fun _ q => .inl q)⟩
    · have hik2 : i = k := by omega
      subst hik2
      rcases hend with ⟨e, _⟩ | ⟨d', hd', q⟩
      · omega
      · rw [hd] at hd'; cases hd'
        rcases q with ⟨m', hb, rfl⟩ | ⟨r', hb, rfl⟩
        · refine hb.run h₀ _ _ _ _ T₄ F₄ fun f s₅ k₅ p => ?_
          obtain ⟨rfl, F₅⟩ := p
          obtain ⟨⟨h₅, tk₅, rfl⟩, k₅h, T₅⟩ := k₅
          exact hQ _ _ (fin h₅ tk₅ T₅ (kk₄.trans (k₅h.mono fun _ q => .inl q))) ⟨rfl, F₅.restrict hZ fun a o => (F.own a o).1⟩
        · refine hb.run h₀ _ _ _ _ T₄ F₄ fun f s₅ k₅ p => ?_
          obtain ⟨v', rfl, rv', m', F₅⟩ := p
          obtain ⟨⟨h₅, tk₅, rfl⟩, k₅h, T₅⟩ := k₅
          exact hQ _ _ (fin h₅ tk₅ T₅ (kk₄.trans (k₅h.mono fun _ q => .inl q))) ⟨v', rfl, Rep.zz (fun a _ _ z => hZ a z) _ _ rv', m', F₅.restrict hZ fun a o => (F.own a o).1⟩
  · have hin : i = ds.length := by omega
    have hkk : k = ds.length := by omega
    refine tokd tt (src.walks.done _ _ _ (hin ▸ hK) fun h₃ tk₃ hk₃ T₃ => ?_)
    have k₃ : Kp (fun a => a ∈ wr) h' h₃ := hk₃
    have hdis : ∀ a, Z a → a ∉ wr := fun a z q => by
      obtain ⟨o, e⟩ := F₁.zin a z; rw [src.new a q] at e; cases e
    have F₃ : Fs w mg mb h₀ Z env (ms i) h₃ := F'.done k₃ (fun a q => .inr q) hZ hdis (fun a o => (F.own a o).1) h0w
    rcases hend with ⟨e, rfl⟩ | ⟨d', hd', _⟩
    · have eik : i = k := by omega
      exact wpAny_execs_nil (hQ _ _ (fin h₃ tk₃ T₃ (kk.trans (k₃.mono fun _ q => .inr q))) ⟨rfl, eik ▸ F₃⟩)
    · have := (List.getElem?_eq_some_iff.mp hd').1
      omega
end
end Mine
end

section
open PySem PySem.Spec PySem.Calls PySem.W PyProof.Rows
set_option maxRecDepth 100000
set_option linter.all false
namespace Mine

theorem compTurn_last {elt target iter : Expr} {ifs : List Expr} {gens : List Comprehension} {scope : Scope} {pos : Pos} {depth : Nat} {it acc : Value} {env : Env} (hg : gens[depth]? = some ⟨target, iter, ifs, 0⟩) (hn : gens[depth + 1]? = none) :
    compTurn (.ListComp elt gens scope pos) depth it acc env = (do
      standAt iter.pos
      match ← pyNext it with
      | none => pure (.done .next)
      | some v =>
        letOwnedTupleGo target it v
        assign target env v
        let mut ok := true
        for c in ifs do
          if ok then ok ← isTrue c env (eval c env)
        if ok then
          (do let _ ← call (.builtin "list.append") [acc, ← eval elt env])
        again (.compLoop (.ListComp elt gens scope pos) depth it acc env)) := by
  unfold compTurn
  simp only [hg, hn]
  rfl
theorem compTurn_more {elt target iter : Expr} {ifs : List Expr} {gens : List Comprehension} {scope : Scope} {pos : Pos} {depth : Nat} {it acc : Value} {env : Env} {t' i' : Expr} {ifs' : List Expr} (hg : gens[depth]? = some ⟨target, iter, ifs, 0⟩) (hn : gens[depth + 1]? = some ⟨t', i', ifs', 0⟩) :
    compTurn (.ListComp elt gens scope pos) depth it acc env = (do
      standAt iter.pos
      match ← pyNext it with
      | none => pure (.done .next)
      | some v =>
        letOwnedTupleGo target it v
        assign target env v
        let mut ok := true
        for c in ifs do
          if ok then ok ← isTrue c env (eval c env)
        if ok then do
          let x ← eval i' env
          standAt i'.pos
          let x ← foldedSetIterable i' env x
          let y ← holding [x] (pyIter x)
          let _ ← runOwn (.compStart (.ListComp elt gens scope pos) (depth + 1) y acc env) env
          again (.compLoop (.ListComp elt gens scope pos) depth it acc env)
        else again (.compLoop (.ListComp elt gens scope pos) depth it acc env)) := by
  unfold compTurn
  simp only [hg, hn]
  rfl

section
variable {w : World} {A : Around} {R : Result → Shared → Prop} {s : Shared}

theorem codeAny_compLast {elt target iter : Expr} {ifs : List Expr} {gens : List Comprehension} {scope : Scope} {pos : Pos} {depth : Nat} {it acc : Value} {env : Env} (hg : gens[depth]? = some ⟨target, iter, ifs, 0⟩) (hn : gens[depth + 1]? = none) (I : Nat → Shared → Prop)
    (turn : ∀ n s, I n s → wpAny (model prog w) A (pyNext it) (fun r s₁ => match r with
      | none => R (.ok .next) s₁
      | some v => wpAny (model prog w) A (assign target env v) (fun _ s₂ =>
          wpAny (model prog w) A (forIn ifs true fun c r => if r = true then do let ok ← isTrue c env (eval c env); pure (ForInStep.yield ok) else pure (ForInStep.yield r)) (fun ok s₃ =>
            if ok = true then wpAny (model prog w) A (eval elt env) (fun x s₄ =>
              wpAny (model prog w) A (call (.builtin "list.append") [acc, x]) (fun _ s₅ => ∃ m, m < n ∧ I m s₅) (notedBy (model prog w) A env fun e s' => R (.error e) s') s₄) (notedBy (model prog w) A env fun e s' => R (.error e) s') s₃
            else ∃ m, m < n ∧ I m s₃) (notedBy (model prog w) A env fun e s' => R (.error e) s') s₂) (notedBy (model prog w) A env fun e s' => R (.error e) s') s₁) (notedBy (model prog w) A env fun e s' => R (.error e) s') s)
    (n : Nat) (h : I n s) (ht : ∀ v, letOwnedTupleGo target it v = pure () := by intro _; rfl) :
    codeAny (model prog w) A (.compLoop (.ListComp elt gens scope pos) depth it acc env) R s := by
  refine codeAny_loop rfl I (fun n s hI => ?_) n h
  show wpAny _ A ((compTurn (.ListComp elt gens scope pos) depth it acc env).onRaise (fun x => do noteFrame x env; theTreesLotGoes x)) _ _ s
  refine wpAny_noted ?_
  rw [compTurn_last hg hn]
  refine wpAny_bind (wpAny_standAt (wpAny_bind (wpAny_mono (turn n s hI) (fun r s₁ h₁ => ?_) fun _ _ h' => h')))
  cases r with
  | none => exact wpAny_pure h₁
  | some v =>
    refine wpAny_bind (wpAny_of_eq (ht v) ?_)
    refine wpAny_bind (wpAny_mono h₁ (fun _ s₂ h₂ => wpAny_bind (wpAny_mono h₂ (fun ok s₃ h₃ => ?_) fun _ _ h' => h')) fun _ _ h' => h')
    cases ok with
    | false => exact wpAny_pure ⟨rfl, h₃⟩
    | true =>
      exact wpAny_bind (wpAny_bind (wpAny_mono h₃ (fun x s₄ h₄ => wpAny_bind (wpAny_mono h₄ (fun _ s₅ h₅ => wpAny_pure (wpAny_pure ⟨rfl, h₅⟩)) fun _ _ h' => h')) fun _ _ h' => h'))

theorem codeAny_compMore {elt target iter : Expr} {ifs : List Expr} {gens : List Comprehension} {scope : Scope} {pos : Pos} {depth : Nat} {it acc : Value} {env : Env} {t' i' : Expr} {ifs' : List Expr} (hg : gens[depth]? = some ⟨target, iter, ifs, 0⟩) (hn : gens[depth + 1]? = some ⟨t', i', ifs', 0⟩) (I : Nat → Shared → Prop)
    (hs : ∀ x, foldedSetIterable i' env x = pure x)
    (turn : ∀ n s, I n s → wpAny (model prog w) A (pyNext it) (fun r s₁ => match r with
      | none => R (.ok .next) s₁
      | some v => wpAny (model prog w) A (assign target env v) (fun _ s₂ =>
          wpAny (model prog w) A (forIn ifs true fun c r => if r = true then do let ok ← isTrue c env (eval c env); pure (ForInStep.yield ok) else pure (ForInStep.yield r)) (fun ok s₃ =>
            if ok = true then wpAny (model prog w) A (eval i' env) (fun x s₄ => wpAny (model prog w) A (pyIter x) (fun y s₅ => codeAny (model prog w) A (.compStart (.ListComp elt gens scope pos) (depth + 1) y acc env)
              (fun r s₆ => match r with | .ok _ => ∃ m, m < n ∧ I m s₆ | .error e => cameBackBy (model prog w) A env (notedBy (model prog w) A env fun e s' => R (.error e) s') e s₆) s₅) (notedBy (model prog w) A env fun e s' => R (.error e) s') s₄) (notedBy (model prog w) A env fun e s' => R (.error e) s') s₃
            else ∃ m, m < n ∧ I m s₃) (notedBy (model prog w) A env fun e s' => R (.error e) s') s₂) (notedBy (model prog w) A env fun e s' => R (.error e) s') s₁) (notedBy (model prog w) A env fun e s' => R (.error e) s') s)
    (n : Nat) (h : I n s) (ht : ∀ v, letOwnedTupleGo target it v = pure () := by intro _; rfl) :
    codeAny (model prog w) A (.compLoop (.ListComp elt gens scope pos) depth it acc env) R s := by
  refine codeAny_loop rfl I (fun n s hI => ?_) n h
  show wpAny _ A ((compTurn (.ListComp elt gens scope pos) depth it acc env).onRaise (fun x => do noteFrame x env; theTreesLotGoes x)) _ _ s
  refine wpAny_noted ?_
  rw [compTurn_more hg hn]
  refine wpAny_bind (wpAny_standAt (wpAny_bind (wpAny_mono (turn n s hI) (fun r s₁ h₁ => ?_) fun _ _ h' => h')))
  cases r with
  | none => exact wpAny_pure h₁
  | some v =>
    refine wpAny_bind (wpAny_of_eq (ht v) ?_)
    refine wpAny_bind (wpAny_mono h₁ (fun _ s₂ h₂ => wpAny_bind (wpAny_mono h₂ (fun ok s₃ h₃ => ?_) fun _ _ h' => h')) fun _ _ h' => h')
    cases ok with
    | false => exact wpAny_pure ⟨rfl, h₃⟩
    | true =>
      refine wpAny_bind (wpAny_mono h₃ (fun x s₄ h₄ => wpAny_bind (wpAny_standAt (wpAny_bind (wpAny_of_eq (hs x) (wpAny_bind (wpAny_holding (wpAny_mono h₄ (fun y s₅ h₅ => wpAny_bind (wpAny_runOwn (codeAny_mono h₅ fun r s₆ h₆ => ?_))) fun _ _ h' => h'))))))) fun _ _ h' => h')
      cases r with
      | ok f => exact wpAny_pure ⟨rfl, h₆⟩
      | error e => exact h₆

theorem codeAny_compStart {elt target iter : Expr} {ifs : List Expr} {gens : List Comprehension} {scope : Scope} {pos : Pos} {depth : Nat} {it acc : Value} {env : Env} (hg : gens[depth]? = some ⟨target, iter, ifs, 0⟩)
    (h0 : codeAny (model prog w) A (.compLoop (.ListComp elt gens scope pos) depth it acc env) R s)
    (h : wpAny (model prog w) A (pyIter it) (fun it' s' => codeAny (model prog w) A (.compLoop (.ListComp elt gens scope pos) depth it' acc env) R s')
      (notedBy (model prog w) A env fun x s' => R (.error x) s') s) :
    codeAny (model prog w) A (.compStart (.ListComp elt gens scope pos) depth it acc env) R s := by
  refine codeAny_of_tree ?_
  show wpAny _ A ((compStart (.ListComp elt gens scope pos) depth it acc env).onRaise (fun x => do noteFrame x env; standAt theWindowsPlace)) _ _ s
  refine wpAny_notedAt ?_
  have e2 : compStart (.ListComp elt gens scope pos) depth it acc env = (do
      if (← ask).params.followText "comprehension-iter-twice" then return ← again (.compLoop (.ListComp elt gens scope pos) depth it acc env)
      rule "comprehension.iter-twice"
      standAt iter.pos
      again (.compLoop (.ListComp elt gens scope pos) depth (← pyIter it) acc env)) := by
    unfold compStart
    have : clausesOf (.ListComp elt gens scope pos) = gens := rfl
    rw [this]
    simp only [hg]
    rfl
  rw [e2]
  refine wpAny_bind (wpAny_askSetting ?_)
  show wpAny _ _ (if _ then _ else _) _ _ s
  refine wpAny_ite ?_
  split
  · first
      | exact wpAny_bind (wpAny_pure (wpAny_pure (And.intro rfl h0)))
      | exact wpAny_pure (And.intro rfl h0)
  · exact wpAny_bind (wpAny_rule (wpAny_bind (wpAny_standAt (wpAny_bind (wpAny_mono h (fun it' s' h' => wpAny_pure (And.intro rfl h')) fun _ _ x => x)))))
end
end Mine
end

section
open PySem PySem.Spec PySem.Calls PySem.W PyProof.Rows
set_option maxRecDepth 100000
set_option linter.all false
namespace Mine
section
variable {w : World} {mg mb : PySem.Str → Option Value} {A : Around} {cenv : Env} {m₀ : Vars}

/-- a comprehension's block under way -/
structure Ci (w : World) (mg mb : PySem.Str → Option Value) (h₀ : Heap) (Z : Addr → Prop) (cenv : Env) (m₀ ml : Vars) (L : Addr) (acc : List D) (h : Heap) : Prop where
  base₀ : Base w mg mb h₀
  keep : ∀ b o, h₀.get? b = some o → h.get? b = some o
  zin : ∀ a, Z a → ∃ o, h.get? a = some o
  outer : ∀ x d, m₀.lookup x = some d → ∃ v c, (cenv.kindOf x = some .cell ∨ cenv.kindOf x = some .free) ∧ cenv.cells.lookup x = some c ∧ h₀.IsCell c (some v) ∧ Rep w Z h₀ v d
  inner : ∃ mm, h.Ns cenv.locals mm ∧ ∀ x d, ml.lookup x = some d → cenv.kindOf x = some .local ∧ ∃ v, mm x = some v ∧ Rep w Z h v d
  loc : Z cenv.locals ∧ h₀.get? cenv.locals = none
  accZ : Z L ∧ h₀.get? L = none ∧ L ≠ cenv.locals
  lst : ∃ ys : List Value, h.PlainList L ys.toArray ∧ RepL w Z h ys acc

theorem lookup_append {α} {l l' : List (PySem.Str × α)} {x : PySem.Str} : (l ++ l').lookup x = (l.lookup x).or (l'.lookup x) := by
  induction l with
  | nil => rfl
  | cons p l ih =>
    obtain ⟨y, d⟩ := p
    rw [List.cons_append]
    by_cases h : x = y
    · subst h; rw [lookup_cons_eq, lookup_cons_eq]; rfl
    · rw [lookup_cons_ne h, lookup_cons_ne h, ih]

theorem Ci.st {h₀ Z ml L acc h} (C : Ci w mg mb h₀ Z cenv m₀ ml L acc h) : St w mg mb Z cenv (ml ++ m₀) h := by
  refine ⟨C.base₀.keeps C.keep, C.zin, fun x d e => ?_⟩
  rw [lookup_append] at e
  cases q : ml.lookup x with
  | some d' =>
    rw [q] at e
    cases e
    obtain ⟨mm, n, hh⟩ := C.inner
    obtain ⟨hk, v, hv, r⟩ := hh x d q
    exact ⟨v, .inl ⟨hk, mm, n, hv⟩, r⟩
  | none =>
    rw [q] at e
    obtain ⟨v, c, hk, hc, ic, r⟩ := C.outer x d e
    exact ⟨v, .inr ⟨c, hk, hc, ic.keeps C.keep⟩, r.keeps C.keep⟩

theorem Ci.other {h₀ Z W ml L acc} {h h' : Heap} (C : Ci w mg mb h₀ Z cenv m₀ ml L acc h) (k : Kp W h h') (hw : ∀ a, W a → Z a) (hz : ∀ a, W a → ∃ o, h'.get? a = some o) (h0 : ∀ a, W a → h₀.get? a = none) (h1 : ¬ W cenv.locals) (h2 : ¬ W L) : Ci w mg mb h₀ Z cenv m₀ ml L acc h' where
  base₀ := C.base₀
  keep := fun b o e => k _ _ (fun z => by rw [h0 b z] at e; cases e) (C.keep b o e)
  zin := fun a z => by
    by_cases q : W a
    · exact hz a q
    · obtain ⟨o, e⟩ := C.zin a z; exact ⟨o, k _ _ q e⟩
  outer := C.outer
  inner := by
    obtain ⟨mm, ⟨o, es, ep, e1, e2⟩, hh⟩ := C.inner
    exact ⟨mm, ⟨o, es, ep, k _ _ h1 e1, e2⟩, fun x d e => let ⟨a, v, b, r⟩ := hh x d e; ⟨a, v, b, Rep.kp k hw _ _ r⟩⟩
  loc := C.loc
  accZ := C.accZ
  lst := let ⟨ys, p, r⟩ := C.lst; ⟨ys, p.kp k h2, RepL.kp k hw _ _ r⟩
theorem Ci.keeps {h₀ Z ml L acc} {h h' : Heap} (C : Ci w mg mb h₀ Z cenv m₀ ml L acc h) (k : ∀ b o, h.get? b = some o → h'.get? b = some o) : Ci w mg mb h₀ Z cenv m₀ ml L acc h' :=
  C.other (W := nil) (Kp.of k) (fun _ z => z.elim) (fun _ z => z.elim) (fun _ z => z.elim) (fun z => z) (fun z => z)
theorem Ci.extend {h₀ Z Z' ml L acc} {h h' : Heap} (C : Ci w mg mb h₀ Z cenv m₀ ml L acc h) (k : ∀ b o, h.get? b = some o → h'.get? b = some o) (hz : ∀ a, Z a → Z' a) (hn : ∀ a o, h.get? a = some o → Z' a → Z a) (hi : ∀ a, Z' a → ¬ Z a → ∃ o, h'.get? a = some o) : Ci w mg mb h₀ Z' cenv m₀ ml L acc h' where
  base₀ := C.base₀
  keep := (C.keeps k).keep
  zin := fun a z => by
    by_cases q : Z a
    · exact (C.keeps k).zin a q
    · exact hi a z q
  outer := fun x d e => let ⟨v, c, a, b, i, r⟩ := C.outer x d e; ⟨v, c, a, b, i, Rep.zz (fun a o e z => hn a o (C.keep _ _ e) z) _ _ r⟩
  inner := by
    obtain ⟨mm, n, hh⟩ := C.inner
    exact ⟨mm, n.keeps k, fun x d e => let ⟨a, v, b, r⟩ := hh x d e; ⟨a, v, b, (Rep.zz (fun a o e z => hn a o e z) _ _ r).keeps k⟩⟩
  loc := ⟨hz _ C.loc.1, C.loc.2⟩
  accZ := ⟨hz _ C.accZ.1, C.accZ.2⟩
  lst := let ⟨ys, p, r⟩ := C.lst; ⟨ys, p.kp (Kp.of k) (fun z => z), (RepL.zz (fun a o e z => hn a o e z) _ _ r).keeps k⟩
theorem Ci.done {h₀ Z Z' W ml L acc} {h h' : Heap} (C : Ci w mg mb h₀ Z' cenv m₀ ml L acc h) (k : Kp W h h') (hw : ∀ a, W a → Z' a) (hz : ∀ a, Z a → Z' a) (hd : ∀ a, Z a → ¬ W a) (hC : Z cenv.locals) (hL : Z L) (h0 : ∀ a, W a → h₀.get? a = none) : Ci w mg mb h₀ Z cenv m₀ ml L acc h' where
  base₀ := C.base₀
  keep := fun b o e => k _ _ (fun z => by rw [h0 b z] at e; cases e) (C.keep b o e)
  zin := fun a z => by
    obtain ⟨o, e⟩ := C.zin a (hz a z); exact ⟨o, k _ _ (hd a z) e⟩
  outer := fun x d e => let ⟨v, c, a, b, i, r⟩ := C.outer x d e; ⟨v, c, a, b, i, Rep.zz (fun a o e z => hz a z) _ _ r⟩
  inner := by
    obtain ⟨mm, ⟨o, es, ep, e1, e2⟩, hh⟩ := C.inner
    exact ⟨mm, ⟨o, es, ep, k _ _ (hd _ hC) e1, e2⟩, fun x d e => let ⟨a, v, b, r⟩ := hh x d e; ⟨a, v, b, Rep.zz (fun a o e z => hz a z) _ _ (Rep.kp k hw _ _ r)⟩⟩
  loc := ⟨hC, C.loc.2⟩
  accZ := ⟨hL, C.accZ.2⟩
  lst := let ⟨ys, p, r⟩ := C.lst; ⟨ys, p.kp k (hd _ hL), RepL.zz (fun a o e z => hz a z) _ _ (RepL.kp k hw _ _ r)⟩
theorem Ci.weaken {h₀ Z ml ml' L acc} {h : Heap} (C : Ci w mg mb h₀ Z cenv m₀ ml L acc h) (hm : ∀ x d, ml'.lookup x = some d → ml.lookup x = some d) : Ci w mg mb h₀ Z cenv m₀ ml' L acc h :=
  { C with inner := let ⟨mm, n, hh⟩ := C.inner; ⟨mm, n, fun x d e => hh x d (hm x d e)⟩ }

theorem Ci.store {h₀ Z ml L acc} {s : Shared} {x : PySem.Str} {v : Value} {d : D} {Q : Unit → Shared → Prop} {E} (T : 1 ≤ s.toks) (C : Ci w mg mb h₀ Z cenv m₀ ml L acc s.heap) (r : Rep w Z s.heap v d) (hx : cenv.kindOf x = some .local) (hk : cenv.scope.kind = .function)
    (hQ : ∀ s', Mv (fun a => a = cenv.locals) s s' → Ci w mg mb h₀ Z cenv m₀ ((x, d) :: ml) L acc s'.heap → Q () s') : wpAny (model prog w) A (storeName cenv x v) Q E s := by
  obtain ⟨mm, ns, hh⟩ := C.inner
  refine wpAny_storeName_local hx ns (fun h' hn hs => ?_) (by rw [hk]; rfl)
  have kp : Kp (fun a => a = cenv.locals) s.heap h' := fun b o n e => hs.extBut b o n e
  have hz : ∀ a, a = cenv.locals → Z a := fun a e => e ▸ C.loc.1
  refine hQ _ ⟨⟨h', _, rfl⟩, kp, Nat.le_add_left _ _⟩ ⟨C.base₀, fun b o e => kp _ _ (fun z => ?_) (C.keep b o e), fun a z => ?_, C.outer, ⟨_, hn, fun y e hy => ?_⟩, C.loc, C.accZ, ?_⟩
  · have z' : b = cenv.locals := z
    rw [z', C.loc.2] at e; cases e
  · by_cases ha : a = cenv.locals
    · subst ha; obtain ⟨o, _, _, e, _⟩ := hn; exact ⟨o, e⟩
    · obtain ⟨o, e⟩ := C.zin a z; exact ⟨o, kp _ _ ha e⟩
  · by_cases hxy : y = x
    · subst hxy
      rw [lookup_cons_eq] at hy; cases hy
      exact ⟨hx, v, by simp, Rep.kp kp hz _ _ r⟩
    · rw [lookup_cons_ne hxy] at hy
      obtain ⟨a, u, b, q⟩ := hh y e hy
      exact ⟨a, u, by rw [if_neg hxy]; exact b, Rep.kp kp hz _ _ q⟩
  · obtain ⟨ys, p, q⟩ := C.lst
    exact ⟨ys, p.kp kp C.accZ.2.2, RepL.kp kp hz _ _ q⟩

theorem Ci.append {h₀ Z ml L acc} {s : Shared} {v : Value} {d : D} {Q : Value → Shared → Prop} {E} (T : 1 ≤ s.toks) (C : Ci w mg mb h₀ Z cenv m₀ ml L acc s.heap) (r : Rep w Z s.heap v d) (hsz : acc.length ≤ sizeLine)
    (hQ : ∀ v s', Mv (fun a => a = L) s s' → Ci w mg mb h₀ Z cenv m₀ ml L (acc ++ [d]) s'.heap → Q v s') : wpAny (model prog w) A (call (.builtin "list.append") [.ref L, v]) Q E s := by
  obtain ⟨ys, p, q⟩ := C.lst
  have hl := RepL.length _ _ q
  refine wpAny_list_append_plain p (fun h' hl' hs => ?_) (by rw [List.size_toArray]; omega)
  have kp : Kp (fun a => a = L) s.heap h' := fun b o n e => hs.extBut b o n e
  have hz : ∀ a, a = L → Z a := fun a e => e ▸ C.accZ.1
  refine hQ _ _ ⟨⟨h', s.toks, rfl⟩, kp, T⟩ ⟨C.base₀, fun b o e => kp _ _ (fun z => ?_) (C.keep b o e), fun a z => ?_, C.outer, ?_, C.loc, C.accZ, ⟨ys ++ [v], ?_, ?_⟩⟩
  · have z' : b = L := z
    rw [z', C.accZ.2.1] at e; cases e
  · by_cases ha : a = L
    · subst ha; obtain ⟨n, e⟩ := hl'; exact ⟨_, e⟩
    · obtain ⟨o, e⟩ := C.zin a z; exact ⟨o, kp _ _ ha e⟩
  · obtain ⟨mm, ⟨o, es, ep, e1, e2⟩, hh⟩ := C.inner
    exact ⟨mm, ⟨o, es, ep, kp _ _ (fun e => C.accZ.2.2 e.symm) e1, e2⟩, fun x d e => let ⟨a, v, b, r⟩ := hh x d e; ⟨a, v, b, Rep.kp kp hz _ _ r⟩⟩
  · have e : (ys ++ [v]).toArray = ys.toArray.push v := by simp
    rw [e]; exact hl'
  · exact (RepL.kp kp hz _ _ q).snoc (Rep.kp kp hz _ _ r)

def Tests (w : World) (mg mb : PySem.Str → Option Value) (A : Around) (cenv : Env) (m : Vars) (ifs : List Expr) (b : Bool) : Prop :=
  (ifs = [] ∧ b = true) ∨ ∃ c, ifs = [c] ∧ EvT w mg mb A cenv m c b
theorem Tests.run {m ifs b Z} {s : Shared} {Q : Bool → Shared → Prop} {E} (t : Tests w mg mb A cenv m ifs b) (T : 1 ≤ s.toks) (S : St w mg mb Z cenv m s.heap) (hQ : ∀ s', Ks s s' → Q b s') :
    wpAny (model prog w) A (forIn ifs true fun c r => if r = true then do let ok ← isTrue c cenv (eval c cenv); pure (ForInStep.yield ok) else pure (ForInStep.yield r)) Q E s := by
  rcases t with ⟨rfl, rfl⟩ | ⟨c, rfl, h⟩
  · exact wpAny_tests_nil (hQ s (Ks.rfl' s T))
  · exact wpAny_tests_one (h.run Z s Q E T S hQ)

/-- what the clauses behind a clause give for one turn of it -/
def CRest (w : World) (mg mb : PySem.Str → Option Value) (A : Around) (cenv : Env) (m₀ : Vars) (elt : Expr) : List Comprehension → Vars → List D → Prop
  | [], ml, o => ∃ d, o = [d] ∧ Ev w mg mb A cenv (ml ++ m₀) elt d
  | g :: gs, ml, o => ∃ (x : PySem.Str) (px : Pos) (iter : Expr) (ifs : List Expr) (src : D) (ds : List D) (outs : List (List D)), g = ⟨.Name x px, iter, ifs, 0⟩ ∧ (∀ v, foldedSetIterable iter cenv v = pure v) ∧ cenv.kindOf x = some .local ∧ ml.lookup x = none ∧
      Ev w mg mb A cenv (ml ++ m₀) iter src ∧ Iter w A src ds ∧ o = List.flatten outs ∧ outs.length = ds.length ∧
      ∀ (i : Nat) (d : D) (oi : List D), ds[i]? = some d → outs[i]? = some oi → ∃ b, Tests w mg mb A cenv (((x, d) :: ml) ++ m₀) ifs b ∧ (b = true → CRest w mg mb A cenv m₀ elt gs ((x, d) :: ml) oi) ∧ (b = false → oi = [])
def CLoop (w : World) (mg mb : PySem.Str → Option Value) (A : Around) (cenv : Env) (m₀ : Vars) (elt : Expr) (gs : List Comprehension) (x : PySem.Str) (ifs : List Expr) (ml : Vars) (ds : List D) (outs : List (List D)) : Prop :=
  outs.length = ds.length ∧ ∀ (i : Nat) (d : D) (oi : List D), ds[i]? = some d → outs[i]? = some oi → ∃ b, Tests w mg mb A cenv (((x, d) :: ml) ++ m₀) ifs b ∧ (b = true → CRest w mg mb A cenv m₀ elt gs ((x, d) :: ml) oi) ∧ (b = false → oi = [])

theorem take_flatten {α} {outs : List (List α)} {i : Nat} {oi : List α} (h : outs[i]? = some oi) : (outs.take (i + 1)).flatten = (outs.take i).flatten ++ oi := by
  rw [List.take_add_one, h, List.flatten_append]
  simp
theorem take_flatten_le {α} (outs : List (List α)) (i : Nat) : (outs.take i).flatten.length ≤ outs.flatten.length := by
  have e : outs.flatten = (outs.take i).flatten ++ (outs.drop i).flatten := by rw [← List.flatten_append, List.take_append_drop]
  rw [e, List.length_append]; omega

/-- between two turns of a clause's loop -/
def CInv (w : World) (mg mb : PySem.Str → Option Value) (cenv : Env) (m₀ : Vars) (h₀ : Heap) (Z : Addr → Prop) (ml : Vars) (L : Addr) (acc : List D) (ds : List D) (outs : List (List D)) (K : Nat → Heap → Prop) (wr : List Addr) (s₂ : Shared) (n : Nat) (s' : Shared) : Prop :=
  ∃ i h' tk, s' = { s₂ with heap := h', toks := tk } ∧ 1 ≤ tk ∧ i ≤ ds.length ∧ n = ds.length + 1 - i ∧ K i h' ∧ Ci w mg mb h₀ (fun a => Z a ∨ a ∈ wr) cenv m₀ ml L (acc ++ (outs.take i).flatten) h' ∧ Kp (fun a => (a = cenv.locals ∨ a = L) ∨ a ∈ wr) s₂.heap h'

/-- a source, seen from where its loop begins -/
structure Src2 (w : World) (A : Around) (h₀ : Heap) (Z : Addr → Prop) (cenv : Env) (L : Addr) (ds : List D) (s₂ : Shared) (I : Addr) (fp wr : List Addr) (P : Nat → Value → Prop) (K : Nat → Heap → Prop) : Prop where
  walks : Walks prog w A I fp wr ds.length P K
  st : K 0 s₂.heap
  alive : ∀ i h, K i h → ∀ b ∈ wr, ∃ o, h.get? b = some o
  new0 : ∀ b ∈ wr, h₀.get? b = none
  dis : ∀ b, Z b → b ∉ wr
  fpo : ∀ b ∈ fp, ¬ (b = cenv.locals ∨ b = L)
  item : ∀ i v d, ds[i]? = some d → P i v → Rep w (fun a => Z a ∨ a ∈ wr) s₂.heap v d
  locZ : Z cenv.locals
  accZ : Z L

section
variable {h₀ : Heap} {Z : Addr → Prop} {L : Addr} {acc : List D} {s₁ s₂ : Shared} {I : Addr} {fp wr : List Addr} {P : Nat → Value → Prop} {K : Nat → Heap → Prop} {ml : Vars} {ds : List D} {outs : List (List D)}

theorem Src.two (C : Ci w mg mb h₀ Z cenv m₀ ml L acc s₁.heap) (k : Ks s₁ s₂) (src : Src w A Z ds s₁ s₂ I fp wr P K) : Src2 w A h₀ Z cenv L ds s₂ I fp wr P K where
  walks := src.walks
  st := src.st
  alive := src.alive
  new0 := fun a q => by
    cases e : h₀.get? a with
    | none => rfl
    | some o => have := C.keep a o e; rw [src.new a q] at this; cases this
  dis := fun a z q => by
    obtain ⟨o, e⟩ := C.zin a z; rw [src.new a q] at e; cases e
  fpo := fun b hb q => by
    have hz : Z b := q.elim (fun e => e ▸ C.loc.1) fun e => e ▸ C.accZ.1
    by_cases hw : b ∈ wr
    · obtain ⟨o, e⟩ := C.zin b hz; rw [src.new b hw] at e; cases e
    · exact (src.rest b hb hw).1 hz
  item := fun i v d hd hP => Rep.keeps (Rep.zz (fun a o e z => z.elim id fun q => by rw [src.new a q] at e; cases e) _ _ (src.item i v d hd hP)) k.heap
  locZ := C.loc.1
  accZ := C.accZ.1
theorem Ci.src (C : Ci w mg mb h₀ Z cenv m₀ ml L acc s₁.heap) (k : Ks s₁ s₂) (src : Src w A Z ds s₁ s₂ I fp wr P K) : Ci w mg mb h₀ (fun a => Z a ∨ a ∈ wr) cenv m₀ ml L acc s₂.heap :=
  C.extend k.heap (fun a z => .inl z) (fun a o e z => z.elim id fun q => by rw [src.new a q] at e; cases e) fun a z q => src.alive 0 _ src.st a (z.resolve_left q)

theorem CInv.start (T : 1 ≤ s₂.toks) (C : Ci w mg mb h₀ (fun a => Z a ∨ a ∈ wr) cenv m₀ ml L acc s₂.heap) (src : Src2 w A h₀ Z cenv L ds s₂ I fp wr P K) : CInv w mg mb cenv m₀ h₀ Z ml L acc ds outs K wr s₂ (ds.length + 1) s₂ := by
  refine ⟨0, s₂.heap, s₂.toks, by cases s₂; rfl, T, Nat.zero_le _, rfl, src.st, ?_, Kp.refl _ _⟩
  rw [List.take_zero, List.flatten_nil, List.append_nil]
  exact C

theorem CInv.next {i : Nat} {d : D} {x : PySem.Str} {oi : List D} {s' : Shared} (ho : outs[i]? = some oi) (hi : i < ds.length) (hml : ml.lookup x = none) (hs : ∃ h' tk, s' = { s₂ with heap := h', toks := tk }) (T : 1 ≤ s'.toks) (hK : K (i + 1) s'.heap)
    (C : Ci w mg mb h₀ (fun a => Z a ∨ a ∈ wr) cenv m₀ ((x, d) :: ml) L (acc ++ (outs.take i).flatten ++ oi) s'.heap) (k : Kp (fun a => (a = cenv.locals ∨ a = L) ∨ a ∈ wr) s₂.heap s'.heap) :
    ∃ m, m < ds.length + 1 - i ∧ CInv w mg mb cenv m₀ h₀ Z ml L acc ds outs K wr s₂ m s' := by
  obtain ⟨h', tk, rfl⟩ := hs
  refine ⟨ds.length + 1 - (i + 1), by omega, i + 1, h', tk, rfl, T, hi, rfl, hK, ?_, k⟩
  rw [take_flatten ho, ← List.append_assoc]
  refine C.weaken fun y e hy => ?_
  have : y ≠ x := by rintro rfl; rw [hml] at hy; cases hy
  rw [lookup_cons_ne this]; exact hy

theorem comp_head {elt : Expr} {rest : List Comprehension} {x : PySem.Str} {px : Pos} {ifs : List Expr} {n : Nat} {s' : Shared} {R : Result → Shared → Prop} {T : Shared → Prop} {E₁ E₂ E₃ : Value → Shared → Prop}
    (hkd : cenv.scope.kind = .function) (hx : cenv.kindOf x = some .local) (hml : ml.lookup x = none) (hcl : CLoop w mg mb A cenv m₀ elt rest x ifs ml ds outs)
    (src : Src2 w A h₀ Z cenv L ds s₂ I fp wr P K) (hI : CInv w mg mb cenv m₀ h₀ Z ml L acc ds outs K wr s₂ n s')
    (hR : ∀ h' tk, 1 ≤ tk → Kp (fun a => (a = cenv.locals ∨ a = L) ∨ a ∈ wr) s₂.heap h' → Ci w mg mb h₀ Z cenv m₀ ml L (acc ++ outs.flatten) h' → R (.ok .next) { s₂ with heap := h', toks := tk })
    (hT : ∀ (i : Nat) (d : D) (oi : List D) (s₃ : Shared), i < ds.length → n = ds.length + 1 - i → outs[i]? = some oi → CRest w mg mb A cenv m₀ elt rest ((x, d) :: ml) oi → K (i + 1) s₃.heap →
      Ci w mg mb h₀ (fun a => Z a ∨ a ∈ wr) cenv m₀ ((x, d) :: ml) L (acc ++ (outs.take i).flatten) s₃.heap → (∃ h' tk, s₃ = { s₂ with heap := h', toks := tk }) → 1 ≤ s₃.toks → Kp (fun a => (a = cenv.locals ∨ a = L) ∨ a ∈ wr) s₂.heap s₃.heap → T s₃) :
    wpAny (model prog w) A (pyNext (.ref I)) (fun r s₁ => match r with
      | none => R (.ok .next) s₁
      | some v => wpAny (model prog w) A (assign (.Name x px) cenv v) (fun _ s₂' =>
          wpAny (model prog w) A (forIn ifs true fun c r => if r = true then do let ok ← isTrue c cenv (eval c cenv); pure (ForInStep.yield ok) else pure (ForInStep.yield r)) (fun ok s₃ =>
            if ok = true then T s₃ else ∃ m, m < n ∧ CInv w mg mb cenv m₀ h₀ Z ml L acc ds outs K wr s₂ m s₃) E₁ s₂') E₂ s₁) E₃ s' := by
  obtain ⟨i, h', tk, rfl, tt, hin, rfl, hK, C', kk⟩ := hI
  have h0w := src.new0
  have hdis := src.dis
  have hnC : ¬ cenv.locals ∈ wr := hdis _ src.locZ
  have hnL : ¬ L ∈ wr := hdis _ src.accZ
  by_cases hlt : i < ds.length
  · refine tokd tt (src.walks.item i _ _ _ hlt hK fun v h₃ tk₃ hP hK₃ hk₃ T₃ => ?_)
    have k₃ : Kp (fun a => a ∈ wr) h' h₃ := hk₃
    have C₃ := C'.other k₃ (fun a q => .inr q) (fun a q => src.alive _ _ hK₃ a q) h0w hnC hnL
    obtain ⟨d, hd⟩ : ∃ d, ds[i]? = some d := ⟨ds[i], by simp [hlt]⟩
    obtain ⟨oi, ho⟩ : ∃ oi, outs[i]? = some oi := ⟨outs[i]'(by rw [hcl.1]; exact hlt), by simp [hcl.1, hlt]⟩
    have rv : Rep w (fun a => Z a ∨ a ∈ wr) h₃ v d := by
      have r1 := Rep.kp kk (fun a q => q.elim (fun o => o.elim (fun e => .inl (e ▸ src.locZ)) fun e => .inl (e ▸ src.accZ)) .inr) _ _ (src.item i v d hd hP)
      exact Rep.kp k₃ (fun a q => .inr q) _ _ r1
    refine wpAny_assign_Name (C₃.store T₃ rv hx hkd fun s₄ k₄ C₄ => ?_)
    obtain ⟨⟨h₄, tk₄, rfl⟩, k₄h, T₄⟩ := k₄
    have hK₄ : K (i + 1) h₄ := src.walks.frame _ _ _ hK₃ fun b hb o e => k₄h b o (fun q => src.fpo b hb (.inl q)) e
    have kk₄ : Kp (fun a => (a = cenv.locals ∨ a = L) ∨ a ∈ wr) s₂.heap h₄ := (kk.trans (k₃.mono fun _ q => .inr q)).trans (k₄h.mono fun _ q => .inl (.inl q))
    obtain ⟨b, ht, h1, h2⟩ := hcl.2 i d oi hd ho
    refine ht.run T₄ C₄.st fun s₅ k₅ => ?_
    have C₅ := C₄.keeps k₅.heap
    have hK₅ : K (i + 1) s₅.heap := src.walks.frame _ _ _ hK₄ fun b hb o e => k₅.heap b o e
    have kk₅ := kk₄.trans (Kp.mono (Kp.of k₅.heap) fun _ z => z.elim)
    have hs₅ : ∃ h' tk, s₅ = { s₂ with heap := h', toks := tk } := by
      obtain ⟨⟨h₅, tk₅, rfl⟩, _, _⟩ := k₅; exact ⟨h₅, tk₅, rfl⟩
    cases b with
    | true => simp only [if_true]; exact hT i d oi s₅ hlt rfl ho (h1 rfl) hK₅ C₅ hs₅ k₅.tok kk₅
    | false =>
      simp only [Bool.false_eq_true, if_false]
      refine CInv.next (d := d) ho hlt hml hs₅ k₅.tok hK₅ ?_ kk₅
      rw [h2 rfl, List.append_nil]; exact C₅
  · have hin : i = ds.length := by omega
    refine tokd tt (src.walks.done _ _ _ (hin ▸ hK) fun h₃ tk₃ hk₃ T₃ => ?_)
    have k₃ : Kp (fun a => a ∈ wr) h' h₃ := hk₃
    have C₃ := C'.done k₃ (fun a q => .inr q) (fun a z => .inl z) hdis src.locZ src.accZ h0w
    rw [List.take_of_length_le (by rw [hcl.1]; omega)] at C₃
    exact hR h₃ tk₃ T₃ (kk.trans (k₃.mono fun _ q => .inr q)) C₃
end

theorem comp_loop {elt : Expr} {gens : List Comprehension} {scope : Scope} {pos : Pos} (hA : A.handled = none) (hkd : cenv.scope.kind = .function) : ∀ (rest : List Comprehension), (∀ g ∈ rest, ∃ t' i' ifs', g = ⟨t', i', ifs', 0⟩ ∧ ∀ v, foldedSetIterable i' cenv v = pure v) → ∀ (depth : Nat) (x : PySem.Str) (px : Pos) (iter : Expr) (ifs : List Expr),
    gens[depth]? = some ⟨.Name x px, iter, ifs, 0⟩ → gens.drop (depth + 1) = rest → cenv.kindOf x = some .local → ∀ (ml : Vars) (ds : List D) (outs : List (List D)), ml.lookup x = none → CLoop w mg mb A cenv m₀ elt rest x ifs ml ds outs →
    ∀ (h₀ : Heap) (Z : Addr → Prop) (L : Addr) (acc : List D) (s₂ : Shared) (I : Addr) (fp wr : List Addr) (P : Nat → Value → Prop) (K : Nat → Heap → Prop) (R : Result → Shared → Prop),
    1 ≤ s₂.toks → Ci w mg mb h₀ (fun a => Z a ∨ a ∈ wr) cenv m₀ ml L acc s₂.heap → Src2 w A h₀ Z cenv L ds s₂ I fp wr P K → (acc ++ outs.flatten).length ≤ sizeLine →
    (∀ h' tk, 1 ≤ tk → Kp (fun a => (a = cenv.locals ∨ a = L) ∨ a ∈ wr) s₂.heap h' → Ci w mg mb h₀ Z cenv m₀ ml L (acc ++ outs.flatten) h' → R (.ok .next) { s₂ with heap := h', toks := tk }) →
    codeAny (model prog w) A (.compLoop (.ListComp elt gens scope pos) depth (.ref I) (.ref L) cenv) R s₂ := by
  intro rest
  induction rest with
  | nil =>
    intro _ depth x px iter ifs hg hd hx ml ds outs hml hcl h₀ Z L acc s₂ I fp wr P K R T₂ C src hsz hR
    have hn : gens[depth + 1]? = none := by
      rw [List.getElem?_eq_none_iff]
      have := congrArg List.length hd
      rw [List.length_drop, List.length_nil] at this
      omega
    refine codeAny_compLast hg hn (CInv w mg mb cenv m₀ h₀ Z ml L acc ds outs K wr s₂) (fun n s' hI => ?_) (ds.length + 1) (CInv.start T₂ C src)
    refine comp_head hkd hx hml hcl src hI hR fun i d oi s₃ hi hn' ho hr hK₃ C₃ hs₃ T₃ kk₃ => ?_
    obtain ⟨e, rfl, he⟩ := hr
    refine he.run _ s₃ _ _ T₃ C₃.st fun v s₄ k₄ r₄ => ?_
    have C₄ := C₃.keeps k₄.heap
    have hle : (acc ++ (outs.take i).flatten).length ≤ sizeLine := by
      have := take_flatten_le outs i
      rw [List.length_append] at hsz ⊢; omega
    refine C₄.append k₄.tok r₄ hle fun v₅ s₅ k₅ C₅ => ?_
    have hK₅ : K (i + 1) s₅.heap := src.walks.frame _ _ _ (src.walks.frame _ _ _ hK₃ fun b hb o e => k₄.heap b o e) fun b hb o e => k₅.heap b o (fun q => src.fpo b hb (.inr q)) e
    rw [hn']
    refine CInv.next ho hi hml ?_ k₅.tok hK₅ C₅ ((kk₃.trans (Kp.mono (Kp.of k₄.heap) fun _ z => z.elim)).trans (k₅.heap.mono fun _ q => .inl (.inr q)))
    obtain ⟨h₃, tk₃, rfl⟩ := hs₃
    obtain ⟨⟨h₄, tk₄, rfl⟩, _, _⟩ := k₄
    obtain ⟨⟨h₅, tk₅, rfl⟩, _, _⟩ := k₅
    exact ⟨h₅, tk₅, rfl⟩
  | cons g gs ih =>
    intro hsh depth x px iter ifs hg hd hx ml ds outs hml hcl h₀ Z L acc s₂ I fp wr P K R T₂ C src hsz hR
    have hn : gens[depth + 1]? = some g := by
      have := congrArg (fun l : List Comprehension => l[0]?) hd
      simpa using this
    have hd' : gens.drop (depth + 1 + 1) = gs := by
      have := congrArg (fun l : List Comprehension => l.drop 1) hd
      simpa [List.drop_drop] using this
    -- the clause behind, as the turns tell it, for each turn apart
    obtain ⟨t', i', ifs', rfl, hfs⟩ := hsh g (.head _)
    · refine codeAny_compMore hg hn (CInv w mg mb cenv m₀ h₀ Z ml L acc ds outs K wr s₂) hfs (fun n s' hI => ?_) (ds.length + 1) (CInv.start T₂ C src)
      refine comp_head hkd hx hml hcl src hI hR fun i d oi s₃ hi hn' ho hr hK₃ C₃ hs₃ T₃ kk₃ => ?_
      obtain ⟨y, py, iter', ifs₂, src', ds', outs', e, _, hy, hml', hev, hit, rfl, hl', hturn⟩ := hr
      cases e
      refine hev.run _ s₃ _ _ T₃ C₃.st fun v s₄ k₄ r₄ => ?_
      have C₄ := C₃.keeps k₄.heap
      refine hit.run _ s₄ v _ _ k₄.tok r₄ fun I' fp' wr' P' K' s₅ k₅ src₅ => ?_
      have hle : ((acc ++ (outs.take i).flatten) ++ outs'.flatten).length ≤ sizeLine := by
        have e1 := take_flatten ho
        have e2 := take_flatten_le outs (i + 1)
        rw [e1, List.length_append] at e2
        rw [List.length_append, List.length_append]
        rw [List.length_append] at hsz
        omega
      have step : codeAny (model prog w) A (.compLoop (.ListComp elt gens scope pos) (depth + 1) (.ref I') (.ref L) cenv) (fun r s₆ => match r with
          | .ok _ => ∃ m, m < n ∧ CInv w mg mb cenv m₀ h₀ Z ml L acc ds outs K wr s₂ m s₆
          | .error e => cameBackBy (model prog w) A cenv (notedBy (model prog w) A cenv fun e s' => R (.error e) s') e s₆) s₅ := by
        refine ih (fun g hg => hsh g (.tail _ hg)) (depth + 1) y py i' ifs' hn hd' hy ((x, d) :: ml) ds' outs' hml' ⟨hl', hturn⟩ h₀ _ L _ s₅ I' fp' wr' P' K' _ k₅.tok (C₄.src k₅ src₅) (src₅.two C₄ k₅) hle fun h' tk T₆ kh' C₆ => ?_
        rw [hn']
        have kh : Kp (fun a => a = cenv.locals ∨ a = L) s₄.heap h' := fun b o n e => kh' b o (fun q => q.elim n fun q => by rw [src₅.new b q] at e; cases e) (k₅.heap b o e)
        have hK₄ : K (i + 1) s₄.heap := src.walks.frame _ _ _ hK₃ fun b hb o e => k₄.heap b o e
        have hK₆ : K (i + 1) h' := src.walks.frame _ _ _ hK₄ fun b hb o e => kh b o (src.fpo b hb) e
        refine CInv.next (d := d) ho hi hml ?_ T₆ hK₆ C₆ ((kk₃.trans (Kp.mono (Kp.of k₄.heap) fun _ z => z.elim)).trans (kh.mono fun _ q => .inl q))
        obtain ⟨h₃, tk₃, rfl⟩ := hs₃
        obtain ⟨⟨h₄, tk₄, rfl⟩, _, _⟩ := k₄
        obtain ⟨⟨h₅, tk₅, rfl⟩, _, _⟩ := k₅
        exact ⟨h', tk, rfl⟩
      exact codeAny_compStart hn step (src₅.walks.self 0 _ _ _ src₅.st step)
end
end Mine
end

section
open PySem PySem.Spec PySem.Calls PySem.W PyProof.Rows
set_option maxRecDepth 100000
set_option linter.all false
namespace Mine
section
variable {w : World} {mg mb : PySem.Str → Option Value} {A : Around} {env : Env} {m : Vars}

theorem ne_of_lt1 {a b c : Nat} (h : a < b) (hc : c = b + 1) : a ≠ c := by omega
theorem lt_irr1 {a b c : Nat} (h : a < b) (hc : c = b + 1) (e : a = c) : False := by omega
/-- the names of the frame around that a comprehension's block sees -/
def Sees (scope : Scope) (cl : List (PySem.Str × Addr)) (env : Env) (m m₀ : Vars) : Prop :=
  ∀ y d, m₀.lookup y = some d → m.lookup y = some d ∧ ((relabel scope env).names.lookup y = some .cell ∨ (relabel scope env).names.lookup y = some .free) ∧ env.kindOf y ≠ some .local ∧ cl.lookup y = env.cells.lookup y

theorem comp_core {elt : Expr} {x : PySem.Str} {px : Pos} {iter : Expr} {ifs : List Expr} {rest : List Comprehension} {scope : Scope} {pos pos' : Pos} {cl : List (PySem.Str × Addr)} {use : Option (Value → Sem Unit)} {src : D} {ds : List D} {outs : List (List D)} {m₀ : Vars}
    (hA : A.handled = none) (hsh : ∀ C : Addr, ∀ g ∈ rest, ∃ t' i' ifs', g = ⟨t', i', ifs', 0⟩ ∧ ∀ v, foldedSetIterable i' (compEnvC scope cl C env) v = pure v)
    (hs : ∀ v, foldedSetIterable iter env v = pure v) (hclos : closureFor scope env = pure cl) (hkind : scope.kind = .function) (hnames : ∀ y ∈ scope.names, y.2 = .local → scope.names.lookup y.1 = some .local) (hcell : ∀ y ∈ scope.names, y.2 ≠ .cell) (hx : scope.names.lookup x = some .local)
    (hm₀ : Sees scope cl env m m₀) (hit : Ev w mg mb A env m iter src) (hI : Iter w A src ds) (hloop : ∀ C, CLoop w mg mb A (compEnvC scope cl C env) m₀ elt rest x ifs [] ds outs) (hsz : outs.flatten.length ≤ sizeLine)
    {Z : Addr → Prop} {s : Shared} {Q E : Value → Shared → Prop} (T : 1 ≤ s.toks) (S : St w mg mb Z env m s.heap)
    (fin : ∀ s' L C, Ks s s' → Rep w (fun a => Z a ∨ a = C) s'.heap (.ref L) (.list outs.flatten) → s.heap.get? C = none → (∃ mm, s'.heap.Ns C mm) → compPost (model prog w) A E use Q (.ref L) C (.ok .next) s') :
    wpAny (model prog w) A (comprehension (.ListComp elt (⟨.Name x px, iter, ifs, 0⟩ :: rest) scope pos) scope env pos' (newList []) false (eval iter env) use) Q E s := by
  refine wpAny_comprehension_free (use := use) rfl hs hclos hkind hnames (hit.run Z s _ E T S fun v s₁ k₁ r => hI.run Z s₁ v _ E k₁.tok r fun I fp wr P K s₂ k₂ src => ?_)
  have S₁ := S.keeps k₁.heap
  refine wpAny_newObj_type (hd := by size_fits) (wpAny_newFunctionEnv hcell (by intro y hy; simp at hy) (fun h₁ hns₁ hsb₁ => ?_) hkind)
  dsimp only at hns₁ hsb₁ ⊢
  generalize hH2 : s₂.heap.push { cls := .type "list", dict := none, data := .seq ([] : List Value).toArray } = H2 at hns₁ hsb₁ ⊢
  have hC : H2.objs.size = s₂.heap.objs.size + 1 := by rw [← hH2, Heap.size_push]
  generalize hCe : H2.objs.size = C at hns₁ hsb₁ hC ⊢
  generalize hLe : s₂.heap.objs.size = L at hC ⊢
  have hLC : L ≠ C := by rw [hC]; exact Nat.ne_of_lt (Nat.lt_succ_self _)
  have old : ∀ b o, s₂.heap.get? b = some o → h₁.get? b = some o := fun b o e => by
    have hb : b < L := hLe ▸ Heap.lt_size e
    exact hsb₁.extBut b o (ne_of_lt1 hb hC) (Heap.get?_push_of_some _ (hH2 ▸ Heap.get?_push_of_some _ e))
  have f2 : ∀ a, L ≤ a → s₂.heap.get? a = none := fun a ha => fresh_none _ _ (hLe ▸ ha)
  have f1 : ∀ a, s₂.heap.get? a = none → s₁.heap.get? a = none := fun a h => by
    cases q : s₁.heap.get? a with
    | none => rfl
    | some o => rw [k₂.heap a o q] at h; cases h
  have f0 : ∀ a, s₁.heap.get? a = none → s.heap.get? a = none := fun a h => by
    cases q : s.heap.get? a with
    | none => rfl
    | some o => rw [k₁.heap a o q] at h; cases h
  have hL2 : s₂.heap.get? L = none := f2 _ (Nat.le_refl _)
  have hC2 : s₂.heap.get? C = none := f2 _ (by rw [hC]; exact Nat.le_succ _)
  have hZw : ∀ a o, s₁.heap.get? a = some o → ((Z a ∨ a = C ∨ a = L) ∨ a ∈ wr) → Z a := fun a o e z => by
    rcases z with (z | rfl | rfl) | z
    · exact z
    · rw [f1 _ hC2] at e; cases e
    · rw [f1 _ hL2] at e; cases e
    · rw [src.new a z] at e; cases e
  have hpl : h₁.PlainList L #[] := ⟨_, hsb₁.extBut _ _ hLC (Heap.get?_push_of_some _ (by rw [← hH2, ← hLe]; exact Heap.get?_push_size _ rfl))⟩
  have hK0 : K 0 h₁ := src.walks.frame _ _ _ src.st fun b _ o e => old b o e
  have C₁ : Ci w mg mb s₁.heap (fun a => (Z a ∨ a = C ∨ a = L) ∨ a ∈ wr) (compEnvC scope cl C env) m₀ [] L [] h₁ := by
    refine ⟨S₁.base, fun b o e => old b o (k₂.heap b o e), fun a z => ?_, fun y d hy => ?_, ⟨_, hns₁, fun y d hy => by cases hy⟩, ⟨.inl (.inr (.inl rfl)), f1 _ hC2⟩, ⟨.inl (.inr (.inr rfl)), f1 _ hL2, hLC⟩, ⟨[], hpl, by rw [RepL]; trivial⟩⟩
    · rcases z with (z | rfl | rfl) | z
      · obtain ⟨o, e⟩ := S₁.zin a z; exact ⟨o, old _ _ (k₂.heap _ _ e)⟩
      · obtain ⟨o, _, _, e, _⟩ := hns₁; exact ⟨o, e⟩
      · obtain ⟨n, e⟩ := hpl; exact ⟨_, e⟩
      · exact src.alive 0 _ hK0 a z
    · obtain ⟨hm, hkd, hnl, hcl⟩ := hm₀ y d hy
      obtain ⟨v, l, rv⟩ := S₁.vars y d hm
      rcases l with ⟨a, _⟩ | ⟨c, a, b, ic⟩
      · exact absurd a hnl
      · exact ⟨v, c, hkd, hcl.trans b, ic, Rep.zz hZw _ _ rv⟩
  have S2 : Src2 w A s₁.heap (fun a => Z a ∨ a = C ∨ a = L) (compEnvC scope cl C env) L ds { s₂ with heap := h₁, toks := s₂.toks + ([] : List (PySem.Str × Value)).length } I fp wr P K := by
    refine ⟨src.walks, hK0, src.alive, src.new, fun b z q => ?_, fun b hb q => ?_, fun i v d hd hP => Rep.keeps (Rep.zz hZw _ _ (src.item i v d hd hP)) fun b o e => old b o (k₂.heap b o e), .inr (.inl rfl), .inr (.inr rfl)⟩
    · have hex : ∃ o, s₂.heap.get? b = some o := src.alive 0 _ src.st b q
      rcases z with z | rfl | rfl
      · obtain ⟨o, e⟩ := S₁.zin b z; rw [src.new b q] at e; cases e
      · obtain ⟨o, e⟩ := hex; rw [hC2] at e; cases e
      · obtain ⟨o, e⟩ := hex; rw [hL2] at e; cases e
    · have hlt := src.lt b hb
      rw [hLe] at hlt
      rcases q with q | q
      · exact lt_irr1 hlt hC q
      · exact Nat.lt_irrefl _ (q ▸ hlt)
  have hRR : ∀ h' tk, 1 ≤ tk → Kp (fun a => (a = (compEnvC scope cl C env).locals ∨ a = L) ∨ a ∈ wr) h₁ h' → Ci w mg mb s₁.heap (fun a => Z a ∨ a = C ∨ a = L) (compEnvC scope cl C env) m₀ [] L ([] ++ outs.flatten) h' →
      compPost (model prog w) A E use Q (.ref L) C (.ok .next) { s₂ with heap := h', toks := tk } := fun h' tk tt kh C' => by
    have kk : Ks s { s₂ with heap := h', toks := tk } := by
      obtain ⟨⟨h2, t2, rfl⟩, k2, _⟩ := k₁
      obtain ⟨⟨h3, t3, rfl⟩, k3, _⟩ := k₂
      refine Ks.of tt fun b o e => ?_
      have e1 := k2 b o e
      have e2 := k3 b o e1
      refine kh b o (fun q => ?_) (old b o e2)
      rcases q with (q | q) | q
      · have q' : b = C := q
        rw [q', hC2] at e2; cases e2
      · rw [q, hL2] at e2; cases e2
      · rw [src.new b q] at e1; cases e1
    refine fin _ L C kk ?_ (f0 _ (f1 _ hC2)) (let ⟨mm, n, _⟩ := C'.inner; ⟨mm, n⟩)
    obtain ⟨ys, p, q⟩ := C'.lst
    refine Rep_list.2 ⟨L, ys, rfl, fun z => ?_, p, RepL.zz (fun a o e z => z.elim .inl fun q => .inr (.inl q)) _ _ q⟩
    rcases z with z | z
    · obtain ⟨o, e⟩ := S₁.zin L z; rw [f1 _ hL2] at e; cases e
    · exact hLC z
  have step : codeAny (model prog w) A (.compLoop (.ListComp elt (⟨.Name x px, iter, ifs, 0⟩ :: rest) scope pos) 0 (.ref I) (.ref L) (compEnvC scope cl C env)) (compPost (model prog w) A E use Q (.ref L) C)
      { s₂ with heap := h₁, toks := s₂.toks + ([] : List (PySem.Str × Value)).length } :=
    comp_loop hA (by show (relabel scope env).kind = .function; exact hkind) rest (hsh C) 0 x px iter ifs rfl rfl (lookup_relabel_local hx) [] ds outs rfl (hloop C) s₁.heap _ L [] _ I fp wr P K _ (Nat.le_add_right_of_le k₂.tok) C₁ S2 (by rw [List.nil_append]; exact hsz) hRR
  exact codeAny_compStart rfl step (src.walks.self 0 _ _ _ hK0 step)

theorem Ev.comp {elt : Expr} {x : PySem.Str} {px : Pos} {iter : Expr} {ifs : List Expr} {rest : List Comprehension} {scope : Scope} {pos : Pos} {cl : List (PySem.Str × Addr)} {src : D} {ds : List D} {outs : List (List D)} {m₀ : Vars}
    (hA : A.handled = none) (hclos : closureFor scope env = pure cl) (hm₀ : Sees scope cl env m m₀) (hit : Ev w mg mb A env m iter src) (hI : Iter w A src ds) (hloop : ∀ C, CLoop w mg mb A (compEnvC scope cl C env) m₀ elt rest x ifs [] ds outs) (hsz : outs.flatten.length ≤ sizeLine)
    (hkind : scope.kind = .function := by rfl) (hnames : ∀ y ∈ scope.names, y.2 = .local → scope.names.lookup y.1 = some .local := by decide) (hcell : ∀ y ∈ scope.names, y.2 ≠ .cell := by decide) (hx : scope.names.lookup x = Option.some .local := by rfl)
    (hs : ∀ v, foldedSetIterable iter env v = pure v := by intro _; rfl) (hsh : ∀ C : Addr, ∀ g ∈ rest, ∃ t' i' ifs', g = ⟨t', i', ifs', 0⟩ ∧ ∀ v, foldedSetIterable i' (compEnvC scope cl C env) v = pure v := by intro _ _ h; cases h) :
    Ev w mg mb A env m (.ListComp elt (⟨.Name x px, iter, ifs, 0⟩ :: rest) scope pos) (.list outs.flatten) := by
  refine ⟨?_⟩; intro Z s Q E T S hQ
  rw [eval_ListComp]
  refine comp_core (use := Option.none) hA hsh hs hclos hkind hnames hcell hx hm₀ hit hI hloop hsz T S fun s' L C k r hC hns => ?_
  obtain ⟨mm, hn⟩ := hns
  refine ⟨mm, hn, fun h' hsb => ?_⟩
  have kp : Kp (fun a => a = C) s'.heap h' := fun b o n e => hsb.extBut b o n e
  refine hQ _ _ ?_ (Rep.zz (fun a o e z => .inl z) _ _ (Rep.kp kp (fun a z => .inr z) _ _ r))
  obtain ⟨⟨h2, t2, rfl⟩, k2, kt⟩ := k
  exact Ks.of kt fun b o e => kp b o (fun q => by have q' : b = C := q; rw [q', hC] at e; cases e) (k2 b o e)

/-- a local's store of a comprehension on its own row -/
theorem ExS.assignComp {elt : Expr} {x y : PySem.Str} {px py : Pos} {iter : Expr} {ifs : List Expr} {rest : List Comprehension} {scope : Scope} {pos spos : Pos} {cl : List (PySem.Str × Addr)} {src : D} {ds : List D} {outs : List (List D)} {m₀ : Vars}
    (hA : A.handled = none) (hclos : closureFor scope env = pure cl) (hm₀ : Sees scope cl env m m₀) (hit : Ev w mg mb A env m iter src) (hI : Iter w A src ds) (hloop : ∀ C, CLoop w mg mb A (compEnvC scope cl C env) m₀ elt rest x ifs [] ds outs) (hsz : outs.flatten.length ≤ sizeLine)
    (hy : env.kindOf y = some .local) (hk : env.scope.kind = .function)
    (hsw : swapsWith (.ListComp elt (⟨.Name x px, iter, ifs, 0⟩ :: rest) scope pos) (some (.Name y py)) spos.line env = pure true)
    (hkind : scope.kind = .function := by rfl) (hnames : ∀ y ∈ scope.names, y.2 = .local → scope.names.lookup y.1 = some .local := by decide) (hcell : ∀ y ∈ scope.names, y.2 ≠ .cell := by decide) (hx : scope.names.lookup x = Option.some .local := by rfl)
    (hs : ∀ v, foldedSetIterable iter env v = pure v := by intro _; rfl) (hsh : ∀ C : Addr, ∀ g ∈ rest, ∃ t' i' ifs', g = ⟨t', i', ifs', 0⟩ ∧ ∀ v, foldedSetIterable i' (compEnvC scope cl C env) v = pure v := by intro _ _ h; cases h) :
    ExS w mg mb A env m (.Assign [.Name y py] (.ListComp elt (⟨.Name x px, iter, ifs, 0⟩ :: rest) scope pos) spos) (.next ((y, .list outs.flatten) :: m)) := by
  refine ⟨?_⟩; intro h₀ Z s Q E T F hQ
  rw [exec_Assign_Name_used _ _ _ _ hsw]
  refine wpAny_bind (wpAny_standAt (wpAny_bind ?_))
  show wpAny _ A (do let _ ← comprehension (.ListComp elt (⟨.Name x px, iter, ifs, 0⟩ :: rest) scope pos) scope env _ (newList []) false (eval iter env) (some (PySem.assign (.Name y py) env))) _ _ s
  refine wpAny_bind (wpAny_mono (comp_core (use := some (PySem.assign (.Name y py) env)) (Q := fun _ s' => Q .next s') hA hsh hs hclos hkind hnames hcell hx hm₀ hit hI hloop hsz T F.st fun s' L C k r hC hns => ?_) (fun _ s' hq => wpAny_pure (wpAny_pure hq)) fun _ _ e => e)
  obtain ⟨mm, hn⟩ := hns
  show wpAny _ A (PySem.assign (.Name y py) env (.ref L)) _ _ _
  have F' : Fs w mg mb h₀ (fun a => Z a ∨ a = C) env m s'.heap := F.extend k.heap (fun a z => .inl z) (fun a o e z => z.elim id fun q => by rw [q, hC] at e; cases e) fun a z q => by
    have : a = C := z.resolve_left q
    subst this
    obtain ⟨o, _, _, e, _⟩ := hn; exact ⟨o, e⟩
  have hCo : ¬ Own env C := fun o => by
    obtain ⟨ob, e⟩ := F.ownIn o; rw [hC] at e; cases e
  refine wpAny_assign_Name (F'.store k.tok r (.inl hy) hk fun s₂ k₂ F₂ => ?_)
  have hn₂ : s₂.heap.Ns C mm := by
    obtain ⟨o, es, ep, e1, e2⟩ := hn
    exact ⟨o, es, ep, k₂.heap _ _ hCo e1, e2⟩
  refine ⟨mm, hn₂, fun h' hsb => ?_⟩
  have kp : Kp (fun a => a = C) s₂.heap h' := fun b o n e => hsb.extBut b o n e
  have h0C : h₀.get? C = none := by
    cases q : h₀.get? C with
    | none => rfl
    | some o => have := F.keep _ _ q; rw [hC] at this; cases this
  have F₃ : Fs w mg mb h₀ Z env ((y, .list outs.flatten) :: m) h' := F₂.done kp (fun a z => .inr z) (fun a z => .inl z) (fun a z q => by
    have q' : a = C := q
    subst q'
    obtain ⟨o, e⟩ := F.zin _ z; rw [hC] at e; cases e) (fun a o => (F.own a o).1) (fun a z => by have z' : a = C := z; subst z'; exact h0C)
  refine hQ _ _ ?_ ⟨rfl, F₃⟩
  obtain ⟨⟨h2, t2, rfl⟩, k2, _⟩ := k
  obtain ⟨⟨h3, t3, rfl⟩, k3, kt⟩ := k₂
  refine ⟨⟨h', t3, rfl⟩, ?_, kt⟩
  exact fun b o n e => kp b o (fun q => by have q' : b = C := q; rw [q', hC] at e; cases e) (k3 b o n (k2 b o e))
end
end Mine
end

section
open PySem PySem.Spec PySem.Calls PySem.W PyProof.Rows
set_option maxRecDepth 100000
set_option linter.all false
namespace Mine
section
variable {w : World} {mg mb : PySem.Str → Option Value} {A : Around} {env : Env} {m : Vars}

/-- a try whose body raises nothing -/
theorem ExS.tryRet {body h₀ hs pos d} (h : Ex w mg mb A env m body (.ret d)) : ExS w mg mb A env m (.Try body (h₀ :: hs) [] [] pos) (.ret d) := .mk fun h₁ Z s Q E T F hQ =>
  wpAny_Try_except (h.run h₁ Z s _ _ T F fun f s' k p => by
    obtain ⟨v, rfl, r⟩ := p
    exact hQ _ s' k ⟨v, rfl, r⟩)

/-- ints out of what stands for them -/
theorem ints_of {Z h} : ∀ {vs : List Value} {ns : List Int}, RepL w Z h vs (ns.map D.int) → ∃ xs : List (Int × Tok), vs = xs.map (fun p => Value.int p.1 p.2) ∧ xs.map (·.1) = ns
  | [], [], _ => ⟨[], rfl, rfl⟩
  | v :: vs, n :: ns, r => by
    rw [List.map_cons, RepL] at r
    obtain ⟨t, rfl⟩ := Rep_int.1 r.1
    obtain ⟨xs, rfl, rfl⟩ := ints_of r.2
    exact ⟨(n, t) :: xs, rfl, rfl⟩
  | [], _ :: _, r => by rw [List.map_cons, RepL] at r; exact r.elim
  | _ :: _, [], r => by rw [List.map_nil, RepL] at r; exact r.elim
theorem intsAre_of : ∀ (xs : List (Int × Tok)), IntsAre (xs.map fun p => Value.int p.1 p.2) (xs.map (·.1))
  | [] => .nil
  | (n, t) :: xs => .cons n t (intsAre_of xs)
theorem rep_ints {Z h} : ∀ {vs : List Value} {ns : List Int}, IntsAre vs ns → RepL w Z h vs (ns.map D.int)
  | _, _, .nil => by rw [List.map_nil, RepL]; trivial
  | _, _, .cons n t r => by rw [List.map_cons, RepL]; exact ⟨rint, rep_ints r⟩
theorem numAt_eq (xs : List (Int × Tok)) (i : Nat) (h : i < xs.length) : numAt xs.toArray i = (xs.map (·.1))[i]'(by simpa using h) := by
  simp [numAt, h]

theorem list_ints {Z} {s : Shared} {v : Value} {ns : List Int} (r : Rep w Z s.heap v (.list (ns.map D.int))) : ∃ a xs, v = .ref a ∧ s.heap.PlainList a (intItems (List.toArray xs)) ∧ xs.map (·.1) = ns := by
  obtain ⟨a, vs, rfl, nz, pl, rl⟩ := Rep_list.1 r
  obtain ⟨xs, rfl, rfl⟩ := ints_of rl
  refine ⟨a, xs, rfl, ?_, rfl⟩
  have : intItems xs.toArray = (xs.map fun p => Value.int p.1 p.2).toArray := by simp [intItems]
  rw [this]; exact pl

theorem OpL.one {f : Value → Sem Value} {g : List Value → Sem Value} {a d : D} (hg : ∀ v, g [v] = f v)
    (h : ∀ (Z : Addr → Prop) (s : Shared) (v : Value) (Q E : Value → Shared → Prop), 1 ≤ s.toks → Base w mg mb s.heap → (∀ a, Z a → ∃ o, s.heap.get? a = some o) → Rep w Z s.heap v a → Cont w Z s Q d → wpAny (model prog w) A (f v) Q E s) : OpL w mg mb A g [a] d := by
  refine ⟨?_⟩; intro Z s vs Q E T B zi r hQ
  match vs, r with
  | [v], r =>
    rw [RepL] at r
    rw [hg]
    exact h Z s v Q E T B zi r.1 hQ
  | [], r => rw [RepL] at r; exact r.elim
  | _ :: _ :: _, r => rw [RepL] at r; have := r.2; rw [RepL] at this; exact this.elim
theorem OpL.two {f : Value → Value → Sem Value} {g : List Value → Sem Value} {a b d : D} (hg : ∀ v u, g [v, u] = f v u)
    (h : ∀ (Z : Addr → Prop) (s : Shared) (v u : Value) (Q E : Value → Shared → Prop), 1 ≤ s.toks → Base w mg mb s.heap → (∀ a, Z a → ∃ o, s.heap.get? a = some o) → Rep w Z s.heap v a → Rep w Z s.heap u b → Cont w Z s Q d → wpAny (model prog w) A (f v u) Q E s) : OpL w mg mb A g [a, b] d := by
  refine ⟨?_⟩; intro Z s vs Q E T B zi r hQ
  match vs, r with
  | [v, u], r =>
    rw [RepL] at r
    have r2 := r.2
    rw [RepL] at r2
    rw [hg]
    exact h Z s v u Q E T B zi r.1 r2.1 hQ
  | [], r => rw [RepL] at r; exact r.elim
  | [_], r => rw [RepL] at r; have := r.2; rw [RepL] at this; exact this.elim
  | _ :: _ :: _ :: _, r => rw [RepL] at r; have := r.2; rw [RepL] at this; have := this.2; rw [RepL] at this; exact this.elim

theorem OpL.lenList {l} (h : l.length ≤ 2 ^ 24 := by decide) : OpL w mg mb A (fun vs => call (.builtin "len") vs) [.list l] (.int l.length) :=
  OpL.one (fun _ => rfl) fun Z s v Q E T B zi r hQ => by
    obtain ⟨a, vs, rfl, nz, pl, rl⟩ := Rep_list.1 r
    have e := RepL.length _ _ rl
    have e2 : ((vs.toArray.size : Nat) : Int) = l.length := by rw [List.size_toArray, e]
    refine len_list pl.isList (by rw [e2]; omega) ?_
    rw [e2]
    exact hQ _ _ (Ks.tk s _ (Nat.le_add_left _ _)) rint
theorem OpL.lenStr {x : PySem.Str} (h : x.length ≤ 2 ^ 24) : OpL w mg mb A (fun vs => call (.builtin "len") vs) [.str x] (.int x.length) :=
  OpL.one (fun _ => rfl) fun Z s v Q E T B zi r hQ => by
    obtain ⟨t, rfl⟩ := Rep_str.1 r
    exact PyProof.Rows.len_str (by omega) (hQ _ _ (Ks.tk s _ (Nat.le_add_left _ _)) rint)
theorem OpL.absInt {a : Int} : OpL w mg mb A (fun vs => call (.builtin "abs") vs) [.int a] (.int (if a < 0 then -a else a)) :=
  OpL.one (fun _ => rfl) fun Z s v Q E T B zi r hQ => by
    obtain ⟨t, rfl⟩ := Rep_int.1 r
    exact tokd T (call_abs_int fun u tk T' => hQ _ _ (Ks.tk s _ T') rint)
theorem OpL.absFlt {a : UInt64} : OpL w mg mb A (fun vs => call (.builtin "abs") vs) [.flt a] (.flt (Float64.abs a)) :=
  OpL.one (fun _ => rfl) fun Z s v Q E T B zi r hQ => by
    obtain ⟨t, rfl⟩ := Rep_flt.1 r
    exact PySem.Flt.call_abs_float (hQ _ _ (Ks.tk s _ (Nat.le_add_left _ _)) rflt)
theorem OpL.intFlt {a : UInt64} {sg mm e} (hd : Float64.decode a = .fin sg mm e) : OpL w mg mb A (fun vs => call (.type "int") vs) [.flt a] (.int (Float64.truncOf sg mm e)) :=
  OpL.one (fun _ => rfl) fun Z s v Q E T B zi r hQ => by
    obtain ⟨t, rfl⟩ := Rep_flt.1 r
    exact call_int_float hd (hQ _ _ (Ks.tk s _ (Nat.le_add_left _ _)) rint)
theorem OpL.range1 {n : Int} : OpL w mg mb A (fun vs => call (.type "range") vs) [.int n] (.range 0 n) :=
  OpL.one (fun _ => rfl) fun Z s v Q E T B zi r hQ => by
    obtain ⟨t, rfl⟩ := Rep_int.1 r
    refine call_range_1 (hQ _ _ (Ks.of (by omega) fun _ _ e => Heap.get?_push_of_some _ e) ?_)
    rw [Rep]
    exact ⟨_, _, _, _, rfl, fun z => by obtain ⟨o, e⟩ := zi _ z; exact Nat.lt_irrefl _ (Heap.lt_size e), IsRange.new _ _ _ _ _ _ _⟩
theorem OpL.range2 {a b : Int} : OpL w mg mb A (fun vs => call (.type "range") vs) [.int a, .int b] (.range a b) :=
  OpL.two (fun _ _ => rfl) fun Z s v u Q E T B zi r r' hQ => by
    obtain ⟨t, rfl⟩ := Rep_int.1 r
    obtain ⟨t', rfl⟩ := Rep_int.1 r'
    refine call_range_2 (hQ _ _ (Ks.of (by omega) fun _ _ e => Heap.get?_push_of_some _ e) ?_)
    rw [Rep]
    exact ⟨_, _, _, _, rfl, fun z => by obtain ⟨o, e⟩ := zi _ z; exact Nat.lt_irrefl _ (Heap.lt_size e), IsRange.new _ _ _ _ _ _ _⟩
theorem OpL.max2 {a b : Int} (hA : A.handled = none) : OpL w mg mb A (fun vs => call (.builtin "max") vs) [.int a, .int b] (.int (if b > a then b else a)) :=
  OpL.two (fun _ _ => rfl) fun Z s v u Q E T B zi r r' hQ => by
    obtain ⟨t, rfl⟩ := Rep_int.1 r
    obtain ⟨t', rfl⟩ := Rep_int.1 r'
    refine tokd T (max_two_ints hA fun h' tk hk T' => ?_)
    by_cases c : b > a
    · rw [if_pos c] at hQ ⊢; exact hQ _ _ (Ks.of T' hk) rint
    · rw [if_neg c] at hQ ⊢; exact hQ _ _ (Ks.of T' hk) rint
theorem OpL.min2 {a b : Int} (hA : A.handled = none) : OpL w mg mb A (fun vs => call (.builtin "min") vs) [.int a, .int b] (.int (if b < a then b else a)) :=
  OpL.two (fun _ _ => rfl) fun Z s v u Q E T B zi r r' hQ => by
    obtain ⟨t, rfl⟩ := Rep_int.1 r
    obtain ⟨t', rfl⟩ := Rep_int.1 r'
    refine tokd T (min_two_ints hA fun h' tk hk T' => ?_)
    by_cases c : b < a
    · rw [if_pos c] at hQ ⊢; exact hQ _ _ (Ks.of T' hk) rint
    · rw [if_neg c] at hQ ⊢; exact hQ _ _ (Ks.of T' hk) rint

theorem OpL.maxList {ns : List Int} {M : Int} (hA : A.handled = none) (hM : M ∈ ns) (hub : ∀ x ∈ ns, x ≤ M) : OpL w mg mb A (fun vs => call (.builtin "max") vs) [.list (ns.map D.int)] (.int M) :=
  OpL.one (fun _ => rfl) fun Z s v Q E T B zi r hQ => by
    obtain ⟨a, xs, rfl, pl, rfl⟩ := list_ints r
    have hne : 0 < xs.length := by
      cases xs with
      | nil => cases hM
      | cons => exact Nat.succ_pos _
    refine tokd T (max_intList hA pl.isList (by simpa using hne) fun v h' tk hv hk T' => ?_)
    obtain ⟨t, e⟩ := intItems_at hv
    subst e
    have hb := argBest_gt (numAt xs.toArray) (xs.toArray.size - 1)
    have hs : xs.toArray.size = xs.length := by simp
    rw [hs] at hb hv ⊢
    have hi : argBest (fun i j => decide (numAt xs.toArray i > numAt xs.toArray j)) (xs.length - 1) < xs.length := by have := hb.1; omega
    have e1 := numAt_eq xs _ hi
    have hle : numAt xs.toArray (argBest (fun i j => decide (numAt xs.toArray i > numAt xs.toArray j)) (xs.length - 1)) ≤ M := by
      rw [e1]; exact hub _ (List.getElem_mem _)
    have hge : M ≤ numAt xs.toArray (argBest (fun i j => decide (numAt xs.toArray i > numAt xs.toArray j)) (xs.length - 1)) := by
      obtain ⟨j, hj, e⟩ := List.getElem_of_mem hM
      have hj' : j < xs.length := by simpa using hj
      have := hb.2 j (by omega)
      rw [numAt_eq xs j hj', e] at this
      exact this
    have eM := Int.le_antisymm hle hge
    rw [eM]
    exact hQ _ _ (Ks.of T' hk) rint
theorem OpL.minList {ns : List Int} {M : Int} (hA : A.handled = none) (hM : M ∈ ns) (hub : ∀ x ∈ ns, M ≤ x) : OpL w mg mb A (fun vs => call (.builtin "min") vs) [.list (ns.map D.int)] (.int M) :=
  OpL.one (fun _ => rfl) fun Z s v Q E T B zi r hQ => by
    obtain ⟨a, xs, rfl, pl, rfl⟩ := list_ints r
    have hne : 0 < xs.length := by
      cases xs with
      | nil => cases hM
      | cons => exact Nat.succ_pos _
    refine tokd T (min_intList hA pl.isList (by simpa using hne) fun v h' tk hv hk T' => ?_)
    obtain ⟨t, e⟩ := intItems_at hv
    subst e
    have hb := argBest_lt (numAt xs.toArray) (xs.toArray.size - 1)
    have hs : xs.toArray.size = xs.length := by simp
    rw [hs] at hb hv ⊢
    have hi : argBest (fun i j => decide (numAt xs.toArray i < numAt xs.toArray j)) (xs.length - 1) < xs.length := by have := hb.1; omega
    have e1 := numAt_eq xs _ hi
    have hle : M ≤ numAt xs.toArray (argBest (fun i j => decide (numAt xs.toArray i < numAt xs.toArray j)) (xs.length - 1)) := by
      rw [e1]; exact hub _ (List.getElem_mem _)
    have hge : numAt xs.toArray (argBest (fun i j => decide (numAt xs.toArray i < numAt xs.toArray j)) (xs.length - 1)) ≤ M := by
      obtain ⟨j, hj, e⟩ := List.getElem_of_mem hM
      have hj' : j < xs.length := by simpa using hj
      have := hb.2 j (by omega)
      rw [numAt_eq xs j hj', e] at this
      exact this
    have eM := Int.le_antisymm hge hle
    rw [eM]
    exact hQ _ _ (Ks.of T' hk) rint

theorem preSum_eq (xs : List (Int × Tok)) : ∀ k, k ≤ xs.length → preSum (numAt xs.toArray) k = ((xs.map (·.1)).take k).sum
  | 0, _ => by simp [preSum]
  | k + 1, h => by
    rw [preSum, preSum_eq xs k (by omega), numAt_eq xs k (by omega), List.take_add_one, List.sum_append]
    simp [show k < xs.length by omega]
theorem OpL.sum {ns : List Int} (hA : A.handled = none) (hb : ∀ x ∈ ns, 0 ≤ x ∧ x < 2 ^ 40) (hl : ns.length ≤ 2 ^ 20) : OpL w mg mb A (fun vs => call (.builtin "sum") vs) [.list (ns.map D.int)] (.int ns.sum) :=
  OpL.one (fun _ => rfl) fun Z s v Q E T B zi r hQ => by
    obtain ⟨a, xs, rfl, pl, rfl⟩ := list_ints r
    have key : ∀ (l : List Int), (∀ x ∈ l, 0 ≤ x ∧ x < 2 ^ 40) → 0 ≤ l.sum ∧ l.sum ≤ l.length * 2 ^ 40 := by
      intro l
      induction l with
      | nil => intro _; simp
      | cons x l ih =>
        intro h
        have h1 := h x (.head _)
        have h2 := ih fun y hy => h y (.tail _ hy)
        rw [List.sum_cons, List.length_cons]
        push_cast
        omega
    have hll : xs.length ≤ 2 ^ 20 := by simpa using hl
    refine tokd T (sum_intList hA pl.isList (fun j hj => ?_) fun h' tk t' hk T' => ?_)
    · have hj' : j < xs.length := by simpa using hj
      refine ⟨?_, ?_⟩
      · rw [numAt_eq xs j hj']
        have := hb _ (List.getElem_mem (l := xs.map (·.1)) (by simpa using hj'))
        exact ⟨by omega, by omega⟩
      · rw [preSum_eq xs (j + 1) hj']
        have h1 := key ((xs.map (·.1)).take (j + 1)) fun x hx => hb x (List.mem_of_mem_take hx)
        have h2 : ((xs.map (·.1)).take (j + 1)).length ≤ xs.length := by rw [List.length_take]; simp; omega
        exact ⟨by omega, by omega⟩
    · have e : preSum (numAt xs.toArray) xs.toArray.size = (xs.map (·.1)).sum := by
        rw [show xs.toArray.size = xs.length by simp, preSum_eq xs _ (Nat.le_refl _), List.take_of_length_le (by simp)]
      rw [e]
      exact hQ _ _ (Ks.of T' hk) rint
end
end Mine
end

section
open PySem PySem.Spec PySem.Calls PySem.W PyProof.Rows
set_option maxRecDepth 100000
set_option linter.all false
namespace Mine
section
variable {w : World} {mg mb : PySem.Str → Option Value} {A : Around} {env : Env} {m : Vars}

theorem OpL.sorted {ns ns' : List Int} (hp : ns'.Perm ns) (hs : ns'.Pairwise (· ≤ ·)) (hl : ns.length < 64) : OpL w mg mb A (fun vs => call (.builtin "sorted") vs) [.list (ns.map D.int)] (.list (ns'.map D.int)) :=
  OpL.one (fun _ => rfl) fun Z s v Q E T B zi r hQ => by
    obtain ⟨a, vs, rfl, nz, pl, rl⟩ := Rep_list.1 r
    obtain ⟨xs, rfl, rfl⟩ := ints_of rl
    refine sorted_ints pl.isList (intsAre_of xs) (by simpa using hl) fun out ns'' hi hp'' hs'' => ?_
    have e : ns'' = ns' := (hp''.trans hp.symm).eq_of_pairwise (fun a b _ _ h h' => Int.le_antisymm h h') hs'' hs
    subst e
    obtain ⟨n, he⟩ := sortedAll_at s.heap (xs.map fun p => Value.int p.1 p.2) out
    refine hQ _ _ (Ks.of T fun _ _ e => sortedAll_old e) (Rep_list.2 ⟨_, out.toList, rfl, fun z => ?_, ⟨n, by simpa [seqObj] using he⟩, rep_ints hi⟩)
    obtain ⟨o, e⟩ := zi _ z
    exact absurd (Heap.lt_size e) (Nat.not_lt.mpr (Nat.le_succ _))

theorem OpL.tupleList {l} (hl : l.length ≤ sizeLine) : OpL w mg mb A (fun vs => call (.type "tuple") vs) [.list l] (.tup l) :=
  OpL.one (fun _ => rfl) fun Z s v Q E T B zi r hQ => by
    obtain ⟨a, vs, rfl, nz, pl, rl⟩ := Rep_list.1 r
    have e := RepL.length _ _ rl
    refine call_tuple_list pl.isList (fun h' hk => ?_) (by rw [List.size_toArray, e]; exact hl)
    have hk' : ∀ b o, s.heap.get? b = some o → (h'.push { cls := .type "tuple", data := .seq vs.toArray }).get? b = some o := fun b o e => Heap.get?_push_of_some _ (hk b o e)
    refine hQ _ _ (Ks.of T hk') (Rep_tup.2 ⟨_, vs, rfl, fun z => ?_, ⟨_, Heap.get?_push_size _ rfl, rfl, _, rfl⟩, rl.keeps hk'⟩)
    obtain ⟨o, e⟩ := zi _ z
    exact Nat.lt_irrefl _ (Heap.lt_size (hk _ _ e))

/-- the greater, the lesser of two floats, as max and min go -/
def fmx (a b : UInt64) : UInt64 := if Float64.cmp b a == some .gt then b else a
def fmn (a b : UInt64) : UInt64 := if Float64.cmp b a == some .lt then b else a

def fAt (a b c : UInt64) (i : Nat) : UInt64 := if i = 0 then a else if i = 1 then b else c
theorem fAt_get {a b c : UInt64} {t u x : Tok} {i : Nat} {v : Value} (h : (#[Value.float a t, .float b u, .float c x] : Array Value)[i]? = some v) : ∃ t', v = .float (fAt a b c i) t' := by
  match i, h with
  | 0, h => exact ⟨t, by simpa [fAt] using h.symm⟩
  | 1, h => exact ⟨u, by simpa [fAt] using h.symm⟩
  | 2, h => exact ⟨x, by simpa [fAt] using h.symm⟩
  | n + 3, h => simp at h

theorem best3 (bt : Nat → Nat → Bool) : argBest bt 2 = (let m := if bt 1 0 then 1 else 0; if bt 2 m then 2 else m) := rfl

theorem three {a b c : UInt64} {op : CmpOp} {cm : UInt64 → UInt64 → Bool} {name : String} (hA : A.handled = none)
    (hcmp : ∀ (A : Around) (a b : UInt64) (t u : Tok) (s : Shared) (Q : Value → Shared → Prop) (E : Value → Shared → Prop), Q (.bool (cm a b)) s → wpAny (model prog w) A (richCompare op (.float a t) (.float b u)) Q E s)
    (hcall : ∀ (a b c : Value) (s : Shared) (Q E : Value → Shared → Prop), wpAny (model prog w) A.in1 (pyIter (.ref s.heap.objs.size)) (fun it s₂ => ∃ I fp wr n P St bt, it = .ref I ∧ Walks prog w A.in1 I fp wr n P St ∧ St 0 s₂.heap ∧ (∀ b ∈ fp, b < s₂.heap.objs.size) ∧ 0 < n ∧ CmpOf prog w A.in1 op P bt ∧
      ∀ v h' tk, P (argBest bt (n - 1)) v → (∀ b o, b ∉ wr → s₂.heap.get? b = some o → h'.get? b = some o) → Q v { s₂ with heap := h', toks := tk }) E
      { s with heap := s.heap.push { cls := .type "tuple", data := .seq #[a, b, c] } } → wpAny (model prog w) A (call (.builtin name) [a, b, c]) Q E s) :
    OpL w mg mb A (fun vs => call (.builtin name) vs) [.flt a, .flt b, .flt c] (.flt (let m := if cm b a then b else a; if cm c m then c else m)) := by
  refine ⟨?_⟩; intro Z s vs Q E T B zi r hQ
  match vs, r with
  | [], r => rw [RepL] at r; exact r.elim
  | [_], r => rw [RepL] at r; have := r.2; rw [RepL] at this; exact this.elim
  | [_, _], r => rw [RepL] at r; have := r.2; rw [RepL] at this; have := this.2; rw [RepL] at this; exact this.elim
  | _ :: _ :: _ :: _ :: _, r => rw [RepL] at r; have := r.2; rw [RepL] at this; have := this.2; rw [RepL] at this; have := this.2; rw [RepL] at this; exact this.elim
  | [va, vb, vc], r =>
  rw [RepL] at r
  have r2 := r.2
  rw [RepL] at r2
  have r3 := r2.2
  rw [RepL] at r3
  obtain ⟨ta, rfl⟩ := Rep_flt.1 r.1
  obtain ⟨tb, rfl⟩ := Rep_flt.1 r2.1
  obtain ⟨tc, rfl⟩ := Rep_flt.1 r3.1
  have hT : (s.heap.push { cls := .type "tuple", data := .seq #[.float a ta, .float b tb, .float c tc] }).IsTuple s.heap.objs.size #[.float a ta, .float b tb, .float c tc] := ⟨_, Heap.get?_push_size _ rfl, rfl, 0, rfl⟩
  refine tokd T (hcall _ _ _ s _ E (wpAny_pyIter_tuple hT ?_))
  have hsz : (s.heap.push { cls := .type "tuple", data := .seq #[.float a ta, .float b tb, .float c tc] }).objs.size = s.heap.objs.size + 1 := Heap.size_push ..
  refine ⟨_, [_, s.heap.objs.size], [_], _, _, _, fun i j => cm (fAt a b c i) (fAt a b c j), rfl, Walks.tuple (A := A.in1) hA _ s.heap.objs.size (by rw [hsz]; exact Nat.ne_of_lt (Nat.lt_succ_self _)) #[.float a ta, .float b tb, .float c tc],
    ⟨⟨_, Heap.get?_push_size _ rfl, rfl, rfl⟩, hT.at fun o e => Heap.get?_push_of_some _ e⟩, fun d hd => ?_, by simp, fun i j vi vj s' Q' E' hi hj hq => ?_, fun v h' tk hP hk T' => ?_⟩
  · rw [Heap.size_push, hsz]
    rcases List.mem_cons.mp hd with rfl | hd
    · rw [hsz]; exact Nat.lt_succ_self _
    · rcases List.mem_cons.mp hd with rfl | hd
      · exact Nat.lt_succ_of_lt (Nat.lt_succ_self _)
      · cases hd
  · obtain ⟨t1, rfl⟩ := fAt_get hi
    obtain ⟨t2, rfl⟩ := fAt_get hj
    exact hcmp _ _ _ _ _ _ _ _ hq
  · have hold : ∀ d o, s.heap.get? d = some o → h'.get? d = some o := fun d o e => by
      refine hk d o (fun hm => ?_) (Heap.get?_push_of_some _ (Heap.get?_push_of_some _ e))
      rcases List.mem_cons.mp hm with e1 | hm
      · have := Heap.lt_size e; rw [e1, hsz] at this; exact Nat.lt_irrefl _ (Nat.lt_of_succ_lt this)
      · cases hm
    obtain ⟨t', e⟩ := fAt_get hP
    subst e
    refine hQ _ _ (Ks.of T' hold) ?_
    have e3 : (#[Value.float a ta, .float b tb, .float c tc] : Array Value).size - 1 = 2 := rfl
    rw [e3, best3]
    have e1 : fAt a b c 1 = b := rfl
    have e0 : fAt a b c 0 = a := rfl
    have e2 : fAt a b c 2 = c := rfl
    dsimp only
    rw [e1, e0]
    cases h1 : cm b a
    · simp only [Bool.false_eq_true, if_false]
      rw [e2, e0]
      cases h2 : cm c a
      · simp only [Bool.false_eq_true, if_false, e0]; exact rflt
      · simp only [if_true, e2]; exact rflt
    · simp only [if_true]
      rw [e2, e1]
      cases h2 : cm c b
      · simp only [Bool.false_eq_true, if_false, e1]; exact rflt
      · simp only [if_true, e2]; exact rflt
theorem OpL.max3 {a b c : UInt64} (hA : A.handled = none) : OpL w mg mb A (fun vs => call (.builtin "max") vs) [.flt a, .flt b, .flt c] (.flt (fmx (fmx a b) c)) := by
  have h := three (w := w) (mg := mg) (mb := mb) (A := A) (a := a) (b := b) (c := c) (op := .Gt) (name := "max") (cm := fun a b => Float64.cmp a b == some .gt) hA
    (fun A a b t u s Q E h => (show wpAny (model prog w) A (compareOp .Gt (.float a t) (.float b u)) Q E s from AutoFloatOps.gt_0 h)) (fun a b c s Q E h => call_max_three h)
  exact h
theorem OpL.min3 {a b c : UInt64} (hA : A.handled = none) : OpL w mg mb A (fun vs => call (.builtin "min") vs) [.flt a, .flt b, .flt c] (.flt (fmn (fmn a b) c)) := by
  have h := three (w := w) (mg := mg) (mb := mb) (A := A) (a := a) (b := b) (c := c) (op := .Lt) (name := "min") (cm := fun a b => Float64.cmp a b == some .lt) hA
    (fun A a b t u s Q E h => (show wpAny (model prog w) A (compareOp .Lt (.float a t) (.float b u)) Q E s from AutoFloatOps.lt_0 h)) (fun a b c s Q E h => call_min_three h)
  exact h

/-- subscripts -/
theorem Ev.sub {value slice pos l d} {k : Int} (hv : Ev w mg mb A env m value (.list l)) (hi : Ev w mg mb A env m slice (.int k)) (h0 : 0 ≤ k) (hd : l[k.toNat]? = some d)
    (hs : ∀ a t, subscripted slice false (.ref a) (.int k t) = operate [.ref a, .int k t] (getItem (.ref a) (.int k t)) := by intro _ _; rfl) (h1 : k < 2 ^ 63 := by omega) : Ev w mg mb A env m (.Subscript value slice pos) d := .mk fun Z s Q E T S hQ =>
  Subscript_ (hv.run Z s _ E T S fun v s₁ k₁ r₁ => hi.run Z s₁ _ E k₁.tok (S.keeps k₁.heap) fun u s₂ k₂ r₂ => by
    obtain ⟨a, vs, rfl, nz, pl, rl⟩ := Rep_list.1 (r₁.keeps k₂.heap)
    obtain ⟨t, rfl⟩ := Rep_int.1 r₂
    obtain ⟨v', hv', r'⟩ := RepL.get' rl hd
    exact tail_any pl.isList.typeIs slot_list_getitem.lookup (wpAny_getItem_list pl.isList h0 h1 (by simpa using hv') (hQ _ _ (k₁.trans' k₂) r')) (hs _ _))
theorem Ev.subNeg {value slice pos l d} {k : Int} (hv : Ev w mg mb A env m value (.list l)) (hi : Ev w mg mb A env m slice (.int k)) (h0 : k < 0) (h1 : -(l.length : Int) ≤ k) (hd : l[(k + l.length).toNat]? = some d)
    (hs : ∀ a t, subscripted slice false (.ref a) (.int k t) = operate [.ref a, .int k t] (getItem (.ref a) (.int k t)) := by intro _ _; rfl) (h2 : -(2 ^ 63) ≤ k := by omega) : Ev w mg mb A env m (.Subscript value slice pos) d := .mk fun Z s Q E T S hQ =>
  Subscript_ (hv.run Z s _ E T S fun v s₁ k₁ r₁ => hi.run Z s₁ _ E k₁.tok (S.keeps k₁.heap) fun u s₂ k₂ r₂ => by
    obtain ⟨a, vs, rfl, nz, pl, rl⟩ := Rep_list.1 (r₁.keeps k₂.heap)
    obtain ⟨t, rfl⟩ := Rep_int.1 r₂
    obtain ⟨v', hv', r'⟩ := RepL.get' rl hd
    have e := RepL.length _ _ rl
    have e2 : vs.toArray.size = l.length := e
    exact tail_any pl.isList.typeIs slot_list_getitem.lookup (wpAny_getItem_list_neg pl.isList h0 (by rw [e2]; exact h1) h2 (by rw [e2]; simpa using hv') (hQ _ _ (k₁.trans' k₂) r')) (hs _ _))
theorem Ev.subStr {value slice pos} {x : PySem.Str} {c : Nat} {k : Int} (hv : Ev w mg mb A env m value (.str x)) (hi : Ev w mg mb A env m slice (.int k)) (h0 : 0 ≤ k) (hd : x.cps[k.toNat]? = some c)
    (hs : ∀ a t, subscripted slice false (.str x a) (.int k t) = operate [.str x a, .int k t] (getItem (.str x a) (.int k t)) := by intro _ _; rfl) (h1 : k < 2 ^ 63 := by omega) : Ev w mg mb A env m (.Subscript value slice pos) (.str ⟨#[c]⟩) := .mk fun Z s Q E T S hQ =>
  Subscript_ (hv.run Z s _ E T S fun v s₁ k₁ r₁ => hi.run Z s₁ _ E k₁.tok (S.keeps k₁.heap) fun u s₂ k₂ r₂ => by
    obtain ⟨a, rfl⟩ := Rep_str.1 r₁
    obtain ⟨t, rfl⟩ := Rep_int.1 r₂
    have hlt : k.toNat < x.length := (Array.getElem?_eq_some_iff.mp hd).1
    have hsi : seqIndex? k x.length = some k.toNat := by
      unfold seqIndex?
      have h2 : (decide (0 ≤ k) && decide (k < (x.length : Int))) = true := by
        rw [Bool.and_eq_true]; exact ⟨decide_eq_true h0, decide_eq_true (by omega)⟩
      simp only [if_neg (Int.not_lt.mpr h0)]
      exact if_pos h2
    exact tail_any (typeIs_str _ _ _) slot_str_getitem.lookup (PyProof.Rows.getItem_str (by simp; omega) (by rw [hsi]; exact hd) (hQ _ _ ((k₁.trans' k₂).trans' (Ks.tk s₂ _ (Nat.le_add_left _ _))) rstr)) (hs _ _))
theorem Ev.subDict {value slice pos l} {x y : PySem.Str} (hv : Ev w mg mb A env m value (.dict l)) (hi : Ev w mg mb A env m slice (.str x)) (hd : l.lookup x = some y)
    (hs : ∀ a t, subscripted slice false (.ref a) (.str x t) = operate [.ref a, .str x t] (getItem (.ref a) (.str x t)) := by intro _ _; rfl) : Ev w mg mb A env m (.Subscript value slice pos) (.str y) := .mk fun Z s Q E T S hQ =>
  Subscript_ (hv.run Z s _ E T S fun v s₁ k₁ r₁ => hi.run Z s₁ _ E k₁.tok (S.keeps k₁.heap) fun u s₂ k₂ r₂ => by
    obtain ⟨a, f, rfl, nz, sm, M, hf⟩ := Rep_dict.1 (r₁.keeps k₂.heap)
    obtain ⟨t, rfl⟩ := Rep_str.1 r₂
    have := hf x
    rw [hd] at this
    obtain ⟨t', e⟩ := this
    exact tail_any M.typeIs slot_dict_getitem.lookup (wpAny_getItem_of (strKind_is prog w x t) M e (hQ _ _ ((k₁.trans' k₂).trans' (Ks.tk s₂ _ (Nat.le_add_left _ _))) rstr)) (hs _ _))

/-- value[lo:] and value[:hi] of a list -/
theorem Ev.sliceFrom {value e p pos l} {k : Nat} (hv : Ev w mg mb A env m value (.list l)) (hi : Ev w mg mb A env m e (.int k)) (hk : k ≤ l.length) (hl : l.length ≤ sizeLine) : Ev w mg mb A env m (.Subscript value (.Slice (some e) none none p) pos) (.list (l.drop k)) := .mk fun Z s Q E T S hQ =>
  Subscript_ (hv.run Z s _ E T S fun v s₁ k₁ r₁ => wpAny_Slice (wpAny_evalPart_some (hi.run Z s₁ _ E k₁.tok (S.keeps k₁.heap) fun u s₂ k₂ r₂ => wpAny_evalPart_none (wpAny_evalPart_none (by
    have kk := (k₁.trans' k₂).trans' (Ks.push s₂ { cls := .type "slice", data := .fields #[u, .none, .none] } k₂.tok)
    obtain ⟨a, vs, rfl, nz, pl, rl⟩ := Rep_list.1 (r₁.keeps (k₂.trans' (Ks.push s₂ { cls := .type "slice", data := .fields #[u, .none, .none] } k₂.tok)).heap)
    obtain ⟨t, rfl⟩ := Rep_int.1 r₂
    have e2 : vs.toArray.size = l.length := RepL.length _ _ rl
    refine tail_any pl.isList.typeIs slot_list_getitem.lookup (wpAny_getItem_list_slice pl.isList (Heap.IsSliceOf.new ..) (.int _ _) .none .none (by simp) ?_ (by rw [e2]; exact hl)) (by rfl)
    rw [slicePick_from _ _ (by rw [e2]; exact hk)]
    refine hQ _ _ (kk.trans' (Ks.push _ _ kk.tok)) ?_
    refine rlist_new (fun z => (S.keeps kk.heap).fresh z) ?_
    have : ∀ (k : Nat) (vs : List Value) (l : List D) (h : Heap), RepL w Z h vs l → RepL w Z h (vs.drop k) (l.drop k) := by
      intro k
      induction k with
      | zero => intro vs l h r; exact r
      | succ k ih =>
        intro vs l h r
        match vs, l, r with
        | [], [], r => exact r
        | v :: vs, d :: l, r => rw [RepL] at r; exact ih vs l h r.2
        | [], _ :: _, r => rw [RepL] at r; exact r.elim
        | _ :: _, [], r => rw [RepL] at r; exact r.elim
    exact this k vs l _ rl)))))
theorem Ev.sliceTo {value e p pos l} {k : Nat} (hv : Ev w mg mb A env m value (.list l)) (hi : Ev w mg mb A env m e (.int k)) (hl : l.length ≤ sizeLine) : Ev w mg mb A env m (.Subscript value (.Slice none (some e) none p) pos) (.list (l.take k)) := .mk fun Z s Q E T S hQ =>
  Subscript_ (hv.run Z s _ E T S fun v s₁ k₁ r₁ => wpAny_Slice (wpAny_evalPart_none (wpAny_evalPart_some (hi.run Z s₁ _ E k₁.tok (S.keeps k₁.heap) fun u s₂ k₂ r₂ => wpAny_evalPart_none (by
    have kk := (k₁.trans' k₂).trans' (Ks.push s₂ { cls := .type "slice", data := .fields #[.none, u, .none] } k₂.tok)
    obtain ⟨a, vs, rfl, nz, pl, rl⟩ := Rep_list.1 (r₁.keeps (k₂.trans' (Ks.push s₂ { cls := .type "slice", data := .fields #[.none, u, .none] } k₂.tok)).heap)
    obtain ⟨t, rfl⟩ := Rep_int.1 r₂
    have e2 : vs.toArray.size = l.length := RepL.length _ _ rl
    refine tail_any pl.isList.typeIs slot_list_getitem.lookup (wpAny_getItem_list_slice pl.isList (Heap.IsSliceOf.new ..) .none (.int _ _) .none (by simp) ?_ (by rw [e2]; exact hl)) (by rfl)
    have e3 : slicePick vs.toArray none (some (k : Int)) none = (vs.take k).toArray := by
      rw [slicePick_upto']
    rw [e3]
    refine hQ _ _ (kk.trans' (Ks.push _ _ kk.tok)) ?_
    refine rlist_new (fun z => (S.keeps kk.heap).fresh z) ?_
    have : ∀ (k : Nat) (vs : List Value) (l : List D) (h : Heap), RepL w Z h vs l → RepL w Z h (vs.take k) (l.take k) := by
      intro k
      induction k with
      | zero => intro vs l h r; simp only [List.take_zero]; rw [RepL]; trivial
      | succ k ih =>
        intro vs l h r
        match vs, l, r with
        | [], [], r => exact r
        | v :: vs, d :: l, r => rw [RepL] at r; rw [List.take_succ_cons, List.take_succ_cons, RepL]; exact ⟨r.1, ih vs l h r.2⟩
        | [], _ :: _, r => rw [RepL] at r; exact r.elim
        | _ :: _, [], r => rw [RepL] at r; exact r.elim
    exact this k vs l _ rl)))))
end
end Mine
end

section
open PySem PySem.Spec PySem.Calls PySem.W PyProof.Rows
set_option maxRecDepth 100000
set_option linter.all false
namespace Mine
section
variable {w : World} {mg mb : PySem.Str → Option Value} {A : Around} {env : Env} {m : Vars}

theorem Rep_val {Z h v u} : Rep w Z h v (.val u) ↔ v = u := by rw [Rep]

/-- which built-in type stands behind a datum -/
def Ty (T : String) (d : D) : Prop := ∀ (w : World) (Z : Addr → Prop) (s : Shared) (v : Value), Rep w Z s.heap v d → s.TypeIs v T ∧ ∀ a, v = .ref a → ∃ ob, s.heap.get? a = some ob ∧ ob.dict = none
theorem Ty.str {x} : Ty "str" (.str x) := fun w Z s v r => by
  obtain ⟨t, rfl⟩ := Rep_str.1 r
  exact ⟨typeIs_str _ _ _, fun _ e => nomatch e⟩
theorem Ty.list {x} : Ty "list" (.list x) := fun w Z s v r => by
  obtain ⟨a, vs, rfl, nz, ⟨n, pl⟩, rl⟩ := Rep_list.1 r
  exact ⟨⟨_, pl, rfl⟩, fun b e => by cases e; exact ⟨_, pl, rfl⟩⟩

/-- o.name(e, …) of a built-in type -/
theorem Ev.meth {o e : Expr} {es : List Expr} {name apos pos a ds r} {T id : String} (pa : PlainAttrs T) (slot : Slot T name id) (hty : typeOf (.builtin id) = pure (.type "method_descriptor"))
    (ho : Ev w mg mb A env m o a) (hT : Ty T a) (ha : EvL w mg mb A env m (e :: es) ds) (hop : OpL w mg mb A (fun vs => call (.builtin id) vs) (a :: ds) r)
    (hbase : attributeBase o name env (eval o env) = eval o env := by rfl)
    (hfew : ((backTo pos (starEach (e :: es) env)).all (fun x => !x.1) && (backToKw pos (keywordEach [] env)).all (fun x => x.1.isSome)
      && decide ((e :: es).length + ([] : List Keyword).length + (if ([] : List Keyword).isEmpty then 0 else 1) < 30)) = true := by rfl)
    (hline : (apos.endLine == pos.line) = true := by rfl)
    (he : starEach (e :: es) env = (false, eval e env) :: starEach es env := by rfl)
    (hplain : (backTo pos (starEach es env)).any (·.1) = false := by rfl) :
    Ev w mg mb A env m (.Call (.Attribute o name apos) (e :: es) [] pos) r := .mk fun Z s Q E T0 S hQ => by
  refine wpAny_Call_method_lateS hbase hfew hline (ho.run Z s _ E T0 S fun v s₁ k₁ r₁ => ?_)
  refine ⟨T, id, pa, slot, hty, (hT w Z s₁ v r₁).1, (hT w Z s₁ v r₁).2, ?_⟩
  have h := ha.run pos Z s₁ (fun vs s₂ => wpAny (model prog w) A (call (.builtin id) (v :: vs)) Q E s₂) E k₁.tok (S.keeps k₁.heap) fun vs s₂ k₂ r₂ => by
    refine hop.run Z s₂ (v :: vs) Q E k₂.tok (S.base.keeps (k₁.trans' k₂).heap) (S.keeps (k₁.trans' k₂).heap).zin (by rw [RepL]; exact ⟨r₁.keeps k₂.heap, r₂⟩) fun u s₃ k₃ r₃ => hQ u s₃ ((k₁.trans' k₂).trans' k₃) r₃
  rw [he] at h ⊢
  exact callWith_builtin (by show (false || (backTo pos (starEach es env)).any (·.1)) = false; rw [hplain]; rfl) (evalArgs_plain h)

theorem Ev.meth1 {o e : Expr} {name apos pos a d r} {T id : String} (pa : PlainAttrs T) (slot : Slot T name id) (hty : typeOf (.builtin id) = pure (.type "method_descriptor"))
    (ho : Ev w mg mb A env m o a) (hT : Ty T a) (ha : Ev w mg mb A env m e d) (hop : OpL w mg mb A (fun vs => call (.builtin id) vs) [a, d] r)
    (hbase : attributeBase o name env (eval o env) = eval o env := by rfl) (he : starEach [e] env = [(false, eval e env)] := by rfl)
    (hline : (apos.endLine == pos.line) = true := by rfl) : Ev w mg mb A env m (.Call (.Attribute o name apos) [e] [] pos) r :=
  Ev.meth pa slot hty ho hT (EvL.cons ha EvL.nil he) hop hbase (by rw [he]; rfl) hline he (by rfl)

theorem OpL.countInts {ns : List Int} {k : Int} : OpL w mg mb A (fun vs => call (.builtin "list.count") vs) [.list (ns.map D.int), .int k] (.int (ns.count k : Nat)) :=
  OpL.two (fun _ _ => rfl) fun Z s v u Q E T B zi r r' hQ => by
    obtain ⟨a, vs, rfl, nz, pl, rl⟩ := Rep_list.1 r
    obtain ⟨xs, rfl, rfl⟩ := ints_of rl
    obtain ⟨t, rfl⟩ := Rep_int.1 r'
    exact count_list_ints pl.isList (intsAre_of xs) (hQ _ _ (Ks.tk s _ (Nat.le_add_left _ _)) rint)
theorem OpL.indexInts {ns : List Int} {k : Int} (hk : k ∈ ns) (hlay : PyData.layable0 (.list (ns.map .int)) = true) : OpL w mg mb A (fun vs => call (.builtin "list.index") vs) [.list (ns.map D.int), .int k] (.int (ns.idxOf k : Nat)) :=
  OpL.two (fun _ _ => rfl) fun Z s v u Q E T B zi r r' hQ => by
    obtain ⟨a, vs, rfl, nz, pl, rl⟩ := Rep_list.1 r
    obtain ⟨xs, rfl, rfl⟩ := ints_of rl
    obtain ⟨t, rfl⟩ := Rep_int.1 r'
    exact index_list_ints pl.isList (intsAre_of xs) hlay hk (hQ _ _ (Ks.tk s _ (Nat.le_add_left _ _)) rint)
theorem bools_of {Z h} : ∀ {vs : List Value} {ns : List Bool}, RepL w Z h vs (ns.map D.bool) → vs = ns.map Value.bool
  | [], [], _ => rfl
  | v :: vs, n :: ns, r => by
    rw [List.map_cons, RepL] at r
    rw [Rep_bool.1 r.1, bools_of r.2, List.map_cons]
  | [], _ :: _, r => by rw [List.map_cons, RepL] at r; exact r.elim
  | _ :: _, [], r => by rw [List.map_nil, RepL] at r; exact r.elim
theorem reads_bools (h : Heap) : ∀ (ns : List Bool), ReadsAll h (ns.map Value.bool) (ns.map PyData.bool) []
  | [] => .nil
  | b :: ns => ReadsAll.cons (as := []) (Reads.bool b) (reads_bools h ns)
theorem countIn_bools (k : Bool) : ∀ (ns : List Bool), Spec.countIn (.bool k) (ns.map PyData.bool) = (ns.count k : Nat)
  | [] => rfl
  | b :: ns => by
    rw [List.map_cons, List.count_cons, Spec.countIn, countIn_bools k ns]
    cases b <;> cases k <;> simp [Spec.same] <;> omega
theorem OpL.countBools {ns : List Bool} {k : Bool} : OpL w mg mb A (fun vs => call (.builtin "list.count") vs) [.list (ns.map D.bool), .bool k] (.int (ns.count k : Nat)) :=
  OpL.two (fun _ _ => rfl) fun Z s v u Q E T B zi r r' hQ => by
    obtain ⟨a, vs, rfl, nz, pl, rl⟩ := Rep_list.1 r
    obtain rfl := bools_of rl
    obtain rfl := Rep_bool.1 r'
    refine count_list_bools (xs := ns.map PyData.bool) (as := []) (hp := s.heap) pl.isList (reads_bools _ ns) ?_ ?_
    · rw [List.all_map]; rw [List.all_eq_true]; intro b _; rfl
    · rw [countIn_bools]; exact hQ _ _ (Ks.tk s _ (Nat.le_add_left _ _)) rint

/-- strs out of what stands for them -/
theorem strs_of {Z h} : ∀ {vs : List Value} {ns : List PySem.Str}, RepL w Z h vs (ns.map D.str) → ∃ xs : List (PySem.Str × Tok), vs = strValues xs ∧ xs.map (·.1) = ns
  | [], [], _ => ⟨[], rfl, rfl⟩
  | v :: vs, n :: ns, r => by
    rw [List.map_cons, RepL] at r
    obtain ⟨t, rfl⟩ := Rep_str.1 r.1
    obtain ⟨xs, rfl, rfl⟩ := strs_of r.2
    exact ⟨(n, t) :: xs, rfl, rfl⟩
  | [], _ :: _, r => by rw [List.map_cons, RepL] at r; exact r.elim
  | _ :: _, [], r => by rw [List.map_nil, RepL] at r; exact r.elim
theorem rep_strs {Z h} : ∀ (xs : List (PySem.Str × Tok)), RepL w Z h (strValues xs) ((xs.map (·.1)).map D.str)
  | [] => by show RepL w Z h [] []; rw [RepL]; trivial
  | (n, t) :: xs => by
    show RepL w Z h (.str n t :: strValues xs) (.str n :: (xs.map (·.1)).map D.str)
    rw [RepL]; exact ⟨rstr, rep_strs xs⟩
theorem OpL.join {x : PySem.Str} {ns : List PySem.Str} (hok : JoinOk x ns = true) : OpL w mg mb A (fun vs => call (.builtin "str.join") vs) [.str x, .list (ns.map D.str)] (.str (Txt.join x ns)) :=
  OpL.two (fun _ _ => rfl) fun Z s v u Q E T B zi r r' hQ => by
    obtain ⟨a, vs, rfl, nz, pl, rl⟩ := Rep_list.1 r'
    obtain ⟨xs, rfl, e⟩ := strs_of rl
    obtain ⟨t, rfl⟩ := Rep_str.1 r
    exact tokd T (SC.join pl.isList e hok fun t' k T' => hQ _ _ (Ks.tk s _ T') rstr)
theorem OpL.split {x y : PySem.Str} (hy : (y.length == 0) = false) (hsz : x.length ≤ sizeLine) (hsz2 : (Builtin.Str.partsBetween x (Builtin.Str.occurrences x y 0 x.length (x.length + 1)) y.length).length ≤ sizeLine) : OpL w mg mb A (fun vs => call (.builtin "str.split") vs) [.str x, .str y] (.list ((Txt.split x y).map D.str)) :=
  OpL.two (fun _ _ => rfl) fun Z s v u Q E T B zi r r' hQ => by
    obtain ⟨t, rfl⟩ := Rep_str.1 r
    obtain ⟨u, rfl⟩ := Rep_str.1 r'
    have fr : ¬ Z s.heap.objs.size := fun z => by obtain ⟨o, e⟩ := zi _ z; exact Nat.lt_irrefl _ (Heap.lt_size e)
    have key : ∀ (l : List (PySem.Str × Tok)) (tk : Nat), 1 ≤ tk → l.map (·.1) = Txt.split x y → Q (.ref s.heap.objs.size) { s with toks := tk, heap := s.heap.push { cls := .type "list", data := .seq (strValues l).toArray } } := fun l tk T' e =>
      hQ _ _ (Ks.of T' fun _ _ e => Heap.get?_push_of_some _ e) (rlist_new fr (e ▸ rep_strs l))
    cases h1 : (decide (x.length < y.length) || decide (Builtin.Str.strKind x < Builtin.Str.strKind y))
    · cases hf : (Builtin.Str.occurrences x y 0 x.length (x.length + 1)).isEmpty
      · refine tokd T (call_meets F.slot_str_split (typeIs_str _ _ _) F.entry_str_split (F.args_str_split_2 _ _) (meets_str_split_sep x y t u h1 hy hf hsz hsz2) ?_)
        show wants _ E _ { s with toks := _, heap := s.heap.push { cls := .type "list", data := .seq (strsFrom s.toks (Builtin.Str.partsBetween x (Builtin.Str.occurrences x y 0 x.length (x.length + 1)) y.length)).toArray } }
        rw [strsFrom_eq]
        exact fun T' => key (numbered s.toks _) _ T' ((numbered_texts _ _).trans ((if_neg (ne_true_of_eq_false h1)).trans (if_neg (ne_true_of_eq_false hf))).symm)
      · exact call_meets F.slot_str_split (typeIs_str _ _ _) F.entry_str_split (F.args_str_split_2 _ _) (meets_str_split_not_found x y t u h1 hy hf)
          (key [(x, t)] s.toks T ((if_neg (ne_true_of_eq_false h1)).trans (if_pos hf)).symm)
    · exact call_meets F.slot_str_split (typeIs_str _ _ _) F.entry_str_split (F.args_str_split_2 _ _) (meets_str_split_cannot_occur x y t u h1)
        (key [(x, t)] s.toks T (if_pos h1).symm)

/-- text.replace('…', '…') with two texts of the program -/
theorem Ev.replace {o : Expr} {y z : PySem.Str} {k1 k2 p1 p2 apos pos} {x : PySem.Str} (ho : Ev w mg mb A env m o (.str x)) (hyz : (y == z) = false) (hb : x.length + (x.length + 1) * z.length ≤ 16777216)
    (hbase : attributeBase o "replace" env (eval o env) = eval o env := by rfl) (hline : (apos.endLine == pos.line) = true := by rfl) :
    Ev w mg mb A env m (.Call (.Attribute o "replace" apos) [.Constant (.str y) k1 p1, .Constant (.str z) k2 p2] [] pos) (.str (Txt.replace x y z)) := .mk fun Z s Q E T0 S hQ => by
  refine wpAny_Call_method_lateS hbase (by rfl) hline (ho.run Z s _ E T0 S fun v s₁ k₁ r₁ => ?_)
  obtain ⟨t, rfl⟩ := Rep_str.1 r₁
  refine ⟨"str", "str.replace", F.plainAttrs_str, F.slot_str_replace, F.type_str_replace, typeIs_str _ _ _, (fun _ e => nomatch e), ?_⟩
  refine callWith_builtin (by rfl) (evalArgs_plain ?_)
  show wpAny _ A (spliced (backTo pos (starEach [.Constant (.str y) k1 p1, .Constant (.str z) k2 p2] env))) _ _ _
  have T1 : 1 ≤ s₁.toks := k₁.tok
  refine wpAny_items_cons (wpAny_Constant_str (wpAny_items_cons (wpAny_Constant_str (wpAny_items_nil ?_)) (by rfl))) (by rfl)
  refine tokd (by show 1 ≤ s₁.toks + 1 + 1; omega) (SC.replace (by show s₁.toks ≠ 0; omega) (by show s₁.toks + 1 ≠ 0; omega) (by show s₁.toks ≠ s₁.toks + 1; omega) hyz hb fun t' k T' => ?_)
  exact hQ _ _ (k₁.trans' (Ks.tk s₁ k T')) rstr

/-- list + list, list * int -/
theorem Op2.listAdd {l l' : List D} (hl : l.length + l'.length ≤ sizeLine) : Op2 w mg mb A (binaryOp .Add) (.list l) (.list l') (.list (l ++ l')) := by
  refine ⟨?_⟩; intro Z s u v Q E T B zi ru rv hQ
  obtain ⟨a, vs, rfl, nz, pl, rl⟩ := Rep_list.1 ru
  obtain ⟨b, us, rfl, nz', pl', rl'⟩ := Rep_list.1 rv
  have e1 := RepL.length _ _ rl
  have e2 := RepL.length _ _ rl'
  obtain ⟨n, ho⟩ := pl
  obtain ⟨n2, ho2⟩ := pl'
  have e : vs.toArray ++ us.toArray = (vs ++ us).toArray := by simp
  refine concat_meets ⟨_, ho, rfl⟩ ⟨_, ho2, rfl⟩ noFill_list_add seq_list_add PySem.F.slot_list_add PySem.F.entry_list_add (PySem.F.args_list_add_2 _ _) (list_addW a b vs.toArray us.toArray n n2 none none #[] #[] (by simp; omega)) ⟨ho, ho2, ?_⟩
  rw [e]
  exact hQ _ _ (Ks.push s _ T) (rlist_new (fun z => by obtain ⟨o, e⟩ := zi _ z; exact Nat.lt_irrefl _ (Heap.lt_size e)) (rl.append _ _ _ _ rl'))
end
end Mine
end

section
open PySem PySem.Spec PySem.Calls PySem.W PyProof.Rows
set_option maxRecDepth 100000
set_option linter.all false
namespace Mine
section
variable {w : World} {mg mb : PySem.Str → Option Value} {A : Around} {env : Env} {m : Vars}

theorem le_size {n : Nat} (h : n ≤ 64) : n ≤ sizeLine := by rw [sizeLine_eq]; omega
theorem Op2.listMul {l : List D} {k : Int} (hlo : -(2 ^ 63 : Int) ≤ k) (hhi : k < 2 ^ 63) (hsz : l.length * k.toNat ≤ 256) (h1 : l.length = 1) : Op2 w mg mb A (binaryOp .Mult) (.list l) (.int k) (.list (List.replicate k.toNat l).flatten) := by
  refine ⟨?_⟩; intro Z s u v Q E T B zi ru rv hQ
  obtain ⟨a, vs, rfl, nz, pl, rl⟩ := Rep_list.1 ru
  obtain ⟨t, rfl⟩ := Rep_int.1 rv
  have e1 := RepL.length _ _ rl
  obtain ⟨n, ho⟩ := pl
  have h256 : vs.length * k.toNat ≤ 256 := by rw [e1]; exact hsz
  have hA2 : ¬ vs.toArray.size * k.toNat > (2 ^ 63 - 1) / 8 := by show ¬ vs.length * k.toNat > (2 ^ 63 - 1) / 8; omega
  refine wpAny_binaryOp_repeat_ref (T := "list") (U := "int") (by decide) ⟨_, ho, rfl⟩ (fun s' => typeIs_int s' k t) noFill_list_mul F.fills_int_mul F.slot_int_rmul repeat_list F.slot_int_index.lookup
    (call_meets F.slot_int_rmul (typeIs_int s k t) F.entry_int_rmul (F.args_int_rmul_2 _ _) (int___rmul___int_list k t a vs.toArray n)
      ⟨ho, rfl, ⟨_, ho, rfl⟩, call_meets F.slot_list_mul ⟨_, ho, rfl⟩ F.entry_list_mul (F.args_list_mul_2 _ _)
        (AutoListH.list___mul___list_int_3 a vs.toArray n k t (by simp [Builtin.List.listFitsIndex]; omega) (hA2) (by simp [Builtin.List.listTooLong, sizeLine]; omega))
        ⟨ho, ?_⟩⟩)
  have hne : vs.toArray.isEmpty = false := by
    cases vs with
    | nil => simp at e1; omega
    | cons v vs => rfl
  rw [hne]
  have fl : ∀ (n : Nat) (acc : List Value), List.foldl (fun x1 x2 => x1 ++ x2) acc.toArray (List.replicate n vs.toArray) = (acc ++ (List.replicate n vs).flatten).toArray := by
    intro n
    induction n with
    | zero => intro acc; simp
    | succ n ih =>
      intro acc
      rw [List.replicate_succ, List.foldl_cons, List.replicate_succ, List.flatten_cons]
      have := ih (acc ++ vs)
      rw [List.append_toArray, this, List.append_assoc]
  have := fl k.toNat []
  simp only [Bool.false_eq_true, if_false]
  rw [show (#[] : Array Value) = [].toArray from rfl, this, List.nil_append]
  refine hQ _ _ (Ks.push s _ T) (rlist_new (fun z => by obtain ⟨o, e⟩ := zi _ z; exact Nat.lt_irrefl _ (Heap.lt_size e)) ?_)
  generalize k.toNat = j
  induction j with
  | zero => rw [List.replicate_zero, List.replicate_zero, List.flatten_nil, List.flatten_nil, RepL]; trivial
  | succ j ih => rw [List.replicate_succ, List.replicate_succ, List.flatten_cons, List.flatten_cons]; exact rl.append _ _ _ _ ih
theorem Op2.strMul {x : PySem.Str} {k : Int} (hx : x.length ≤ 16) (h0 : 0 ≤ k) (hk : k ≤ 1048576) : Op2 w mg mb A (binaryOp .Mult) (.str x) (.int k) (.str (Txt.mul x k)) := by
  exact op_si fun Z s Q E t t' T hQ => tokd T (SB.mul (mulOk_of 16 1048576 hx (by omega) (by omega) (by decide) (by decide)) fun t' k T' => hQ _ _ (Ks.tk s _ T') rstr)
theorem Op2.strAdd {x y : PySem.Str} (h : x.length + y.length ≤ sizeLine) : Op2 w mg mb A (binaryOp .Add) (.str x) (.str y) (.str (x ++ y)) := by
  exact op_ss fun Z s Q E t t' T hQ => tokd T (PyProof.Rows.add_str (fun t' k T' => hQ _ _ (Ks.tk s _ T') rstr) h)
theorem Op2.neInts {ns ms : List Int} (hu : A.units + 64 < cLine) : Op2 w mg mb A (compareOp .NotEq) (.list (ns.map D.int)) (.list (ms.map D.int)) (.bool (!decide (ns = ms))) := by
  refine ⟨?_⟩; intro Z s u v Q E T B zi ru rv hQ
  obtain ⟨a, vs, rfl, nz, pl, rl⟩ := Rep_list.1 ru
  obtain ⟨xs, rfl, rfl⟩ := ints_of rl
  obtain ⟨b, us, rfl, nz', pl', rl'⟩ := Rep_list.1 rv
  obtain ⟨ys, rfl, rfl⟩ := ints_of rl'
  exact ne_intsK pl.isList (intsAre_of xs) pl'.isList (intsAre_of ys) hu (hQ _ _ (Ks.rfl' s T) rbool)

theorem Ev.neg {x pos} {a : Int} (h : Ev w mg mb A env m x (.int a)) : Ev w mg mb A env m (.UnaryOp .USub x pos) (.int (-a)) := .mk fun Z s Q E T S hQ =>
  wpAny_UnaryOp (h.run Z s _ E T S fun v s' k r => by
    obtain ⟨t, rfl⟩ := Rep_int.1 r
    exact PyProof.Rows.neg_int (hQ _ _ (k.trans' (Ks.tk s' _ (Nat.le_add_left _ _))) rint))

theorem Ev.chain2 {l op₁ op₂ r₁ r₂ pos a b c b1 b2} (hl : Ev w mg mb A env m l a) (h1 : Ev w mg mb A env m r₁ b) (o1 : Op2 w mg mb A (compareOp op₁) a b (.bool b1))
    (h2 : b1 = true → Ev w mg mb A env m r₂ c) (o2 : b1 = true → Op2 w mg mb A (compareOp op₂) b c (.bool b2)) (hm : lastMarks [op₁, op₂] [r₁, r₂] = false := by with_unfolding_all rfl) :
    Ev w mg mb A env m (.Compare l [op₁, op₂] [r₁, r₂] pos) (.bool (b1 && b2)) := .mk fun Z s Q E T S hQ =>
  Compare_chain (hl.run Z s _ E T S fun u s₁ k₁ ru => chain_link (h1.run Z s₁ _ E k₁.tok (S.keeps k₁.heap) fun v s₂ k₂ rv =>
    o1.run Z s₂ u v _ E k₂.tok (S.base.keeps (k₁.trans' k₂).heap) (S.keeps (k₁.trans' k₂).heap).zin (ru.keeps k₂.heap) rv fun c1 s₃ k₃ rc => truthy_bool_rep rc (by
      cases b1 with
      | false => exact hQ c1 s₃ ((k₁.trans' k₂).trans' k₃) rc
      | true => exact chain_last ((h2 rfl).run Z s₃ _ E k₃.tok (S.keeps ((k₁.trans' k₂).trans' k₃).heap) fun x s₄ k₄ rx =>
          (o2 rfl).run Z s₄ v x Q E k₄.tok (S.base.keeps (((k₁.trans' k₂).trans' k₃).trans' k₄).heap) (S.keeps (((k₁.trans' k₂).trans' k₃).trans' k₄).heap).zin (rv.keeps (k₃.trans' k₄).heap) rx fun y s₅ k₅ ry =>
            hQ y s₅ ((((k₁.trans' k₂).trans' k₃).trans' k₄).trans' k₅) ry)))) hm
theorem EvT.chain2 {l op₁ op₂ r₁ r₂ pos a b c b1 b2} (hl : Ev w mg mb A env m l a) (h1 : Ev w mg mb A env m r₁ b) (o1 : Op2 w mg mb A (compareOp op₁) a b (.bool b1))
    (h2 : b1 = true → Ev w mg mb A env m r₂ c) (o2 : b1 = true → Op2 w mg mb A (compareOp op₂) b c (.bool b2)) (hm : lastMarks [op₁, op₂] [r₁, r₂] = false := by with_unfolding_all rfl) :
    EvT w mg mb A env m (.Compare l [op₁, op₂] [r₁, r₂] pos) (b1 && b2) := .mk fun Z s Q E T S hQ =>
  isTrue_chain (hl.run Z s _ E T S fun u s₁ k₁ ru => test_link (h1.run Z s₁ _ E k₁.tok (S.keeps k₁.heap) fun v s₂ k₂ rv =>
    o1.run Z s₂ u v _ E k₂.tok (S.base.keeps (k₁.trans' k₂).heap) (S.keeps (k₁.trans' k₂).heap).zin (ru.keeps k₂.heap) rv fun c1 s₃ k₃ rc => truthy_bool_rep rc (by
      cases b1 with
      | false => exact hQ s₃ ((k₁.trans' k₂).trans' k₃)
      | true => exact test_last ((h2 rfl).run Z s₃ _ E k₃.tok (S.keeps ((k₁.trans' k₂).trans' k₃).heap) fun x s₄ k₄ rx =>
          (o2 rfl).run Z s₄ v x _ E k₄.tok (S.base.keeps (((k₁.trans' k₂).trans' k₃).trans' k₄).heap) (S.keeps (((k₁.trans' k₂).trans' k₃).trans' k₄).heap).zin (rv.keeps (k₃.trans' k₄).heap) rx fun y s₅ k₅ ry =>
            truthy_bool_rep ry (hQ s₅ ((((k₁.trans' k₂).trans' k₃).trans' k₄).trans' k₅))))) ) hm

/-- a display of texts to texts -/
inductive DLit : List (Option Expr) → List Expr → List (PySem.Str × PySem.Str) → Prop
  | nil : DLit [] [] []
  | cons {ks vs l x y k k' p p'} : DLit ks vs l → DLit (some (.Constant (.str x) k p) :: ks) (.Constant (.str y) k' p' :: vs) ((x, y) :: l)
inductive VLit : List (Value × Value) → List (PySem.Str × PySem.Str) → Prop
  | nil : VLit [] []
  | cons {vs l x y t t'} : VLit vs l → VLit ((.str x t, .str y t') :: vs) ((x, y) :: l)
theorem DLit.facts {ks vs l} (h : DLit ks vs l) : ks.all (·.isSome) = true ∧ ks.length = vs.length ∧ vs.length = l.length := by
  induction h with
  | nil => exact ⟨rfl, rfl, rfl⟩
  | cons h ih => exact ⟨by rw [List.all_cons, ih.1]; rfl, by simp [ih.2.1], by simp [ih.2.2]⟩
theorem VLit.facts {vs l} (h : VLit vs l) : allStrKeys vs = true ∧ (strPairs vs).map (·.1) = l.map (·.1) ∧ ∀ k, match l.lookup k with | some x => ∃ t, valueAt (strPairs vs) k = some (.str x t) | none => valueAt (strPairs vs) k = none := by
  induction h with
  | nil => exact ⟨rfl, rfl, fun k => rfl⟩
  | @cons vs l x y t t' h ih =>
    refine ⟨ih.1, by simp only [strPairs, List.map_cons]; rw [ih.2.1], fun k => ?_⟩
    by_cases e : k = x
    · subst e
      rw [lookup_cons_eq]
      exact ⟨t', by simp [strPairs, valueAt]⟩
    · rw [lookup_cons_ne e]
      have h2 := ih.2.2 k
      have e2 : valueAt (strPairs ((.str x t, .str y t') :: vs)) k = valueAt (strPairs vs) k := by
        simp only [strPairs, valueAt]
        rw [List.find?_cons]
        have : (decide (x = k)) = false := decide_eq_false fun q => e q.symm
        rw [this]
      rw [e2]; exact h2
theorem evalPairs_lit {ks vs l} {pos : Pos} (h : DLit ks vs l) : ∀ {s : Shared} {Q : List (Value × Value) → Shared → Prop} {E}, 1 ≤ s.toks → (∀ ps tk, 1 ≤ tk → VLit ps l → Q ps { s with toks := tk }) → wpAny (model prog w) A (evalPairs (pairTrees ks vs env pos)) Q E s := by
  induction h with
  | nil => intro s Q E T hQ; exact pairTrees_nil_walk (hQ [] s.toks T .nil)
  | cons h ih =>
    intro s Q E T hQ
    refine pairTrees_cons_walk (wpAny_Constant_str (wpAny_Constant_str (ih (by show 1 ≤ s.toks + 1 + 1; omega) fun ps tk T' V => hQ _ tk T' (.cons V))))
theorem Ev.dict {ks vs l pos} (h : DLit ks vs l) (hn : (l.map (·.1)).Nodup) (h0 : ks ≠ []) (hlen : ks.length ≤ 15) : Ev w mg mb A env m (.Dict ks vs pos) (.dict l) := .mk fun Z s Q E T S hQ => by
  have hsz : sysModules < s.heap.objs.size := by
    obtain ⟨o, _, _, e, _⟩ := S.base.g
    exact Nat.lt_trans (show (1 : Nat) < 3 by decide) (Heap.lt_size e)
  refine wpAny_Dict_walk (knd := strKind prog w) h.facts.1 h.facts.2.1 h0 hlen (evalPairs_lit h T fun ps tk T' V => ?_)
  have fv := V.facts
  refine display_done_str fv.1 (by rw [fv.2.1]; exact hn) ?_ fun h' hd hs => ?_
  · exact Heap.DictOf.new _
  · have kk : ∀ b o, s.heap.get? b = some o → h'.get? b = some o := fun b o e => hs.extBut b o (Nat.ne_of_lt (Heap.lt_size e)) (Heap.get?_push_of_some _ e)
    refine hQ _ _ (Ks.of (Nat.le_add_right_of_le T') kk) (Rep_dict.2 ⟨_, _, rfl, fun z => by obtain ⟨o, e⟩ := S.zin _ z; exact Nat.lt_irrefl _ (Heap.lt_size e), ?_, hd.mapOf, fv.2.2⟩)
    exact beq_false_of_ne (Nat.ne_of_gt hsz)
end
end Mine
end

section
open PySem PySem.Spec PySem.Calls PySem.W PyProof.Rows
set_option maxRecDepth 100000
set_option linter.all false
namespace Mine

/-- the floats of the text -/
abbrev f05 : UInt64 := 4602678819172646912
abbrev f1 : UInt64 := 4607182418800017408
abbrev f2 : UInt64 := 4611686018427387904
abbrev f4 : UInt64 := 4616189618054758400
abbrev f6 : UInt64 := 4618441417868443648
/-- one evaluation for all uses -/
def frc {β : Type} (x : UInt64) (k : UInt64 → β) : β := match x.toNat with
  | 0 => k 0
  | n + 1 => k (UInt64.ofNat (n + 1))
theorem frc_eq {β : Type} (x : UInt64) (k : UInt64 → β) : frc x k = k x := by
  unfold frc
  have h : UInt64.ofNat x.toNat = x := UInt64.ofNat_toNat
  generalize e : x.toNat = n at h
  cases n with
  | zero => subst h; rfl
  | succ n => subst h; rfl
abbrev feqB (a b : UInt64) : Bool := Float64.cmp a b == some .eq
abbrev fleB (a b : UInt64) : Bool := Float64.cmp a b == some .lt || Float64.cmp a b == some .eq
def hueOf (r g b maxc rc gc bc : UInt64) : UInt64 :=
  (Float64.divmod (Float64.div (bif feqB r maxc then Float64.sub bc gc else bif feqB g maxc then Float64.sub (Float64.add f2 rc) bc else Float64.sub (Float64.add f4 gc) rc) f6) f1).2
def hueR (r g b : UInt64) : UInt64 :=
  let maxc := fmx (fmx r g) b
  let rangec := Float64.sub maxc (fmn (fmn r g) b)
  hueOf r g b maxc (Float64.div (Float64.sub maxc r) rangec) (Float64.div (Float64.sub maxc g) rangec) (Float64.div (Float64.sub maxc b) rangec)
/-- hue, lightness, saturation; the guard is false where a division by zero would come -/
def hlsV (r g b : UInt64) : UInt64 × UInt64 × UInt64 :=
  let maxc := fmx (fmx r g) b
  let minc := fmn (fmn r g) b
  let sumc := Float64.add maxc minc
  let rangec := Float64.sub maxc minc
  let l := Float64.div sumc f2
  bif feqB minc maxc then (0, l, 0) else
    (hueR r g b, l, bif fleB l f05 then Float64.div rangec sumc else Float64.div rangec (Float64.sub (Float64.sub f2 maxc) minc))
def hlsOk (r g b : UInt64) : Bool :=
  let maxc := fmx (fmx r g) b
  let minc := fmn (fmn r g) b
  let sumc := Float64.add maxc minc
  let rangec := Float64.sub maxc minc
  let l := Float64.div sumc f2
  feqB minc maxc || (!Float64.isZero rangec && bif fleB l f05 then !Float64.isZero sumc else !Float64.isZero (Float64.sub (Float64.sub f2 maxc) minc))
def hsvV (r g b : UInt64) : UInt64 × UInt64 × UInt64 :=
  let maxc := fmx (fmx r g) b
  let minc := fmn (fmn r g) b
  let rangec := Float64.sub maxc minc
  bif feqB minc maxc then (0, 0, maxc) else (hueR r g b, Float64.div rangec maxc, maxc)
def hsvOk (r g b : UInt64) : Bool :=
  let maxc := fmx (fmx r g) b
  let minc := fmn (fmn r g) b
  feqB minc maxc || (!Float64.isZero (Float64.sub maxc minc) && !Float64.isZero maxc)
/-- a quotient of two ints -/
abbrev quot (a b : Int) : UInt64 := Float64.ofFrac (decide (a < 0) != decide (b < 0)) a.natAbs b.natAbs

abbrev fltB (a : UInt64) (n : Int) : Bool := Float64.cmpInt a n == some .lt
/-- what _law_place answers; none for None -/
def placeOf (a b c : Int) (light : Bool) : Option Int :=
  let high := max a (max b c)
  let low := min a (min b c)
  let wide := high - low
  let v := bif light then hlsV (quot a 16) (quot b 16) (quot c 16) else hsvV (quot a 16) (quot b 16) (quot c 16)
  let hue := v.1
  let level := bif light then v.2.1 else v.2.2
  let share := bif light then v.2.2 else v.2.1
  bif !(feqB level (bif light then quot (high + low) 32 else quot high 16)) then none
  else bif wide == 0 then (bif feqB hue 0 && feqB share 0 then some 0 else none)
  else
    let x := Float64.mul (Float64.mul hue (Float64.ofInt 6)) (Float64.ofInt wide)
    match Float64.decode (Float64.add x f05) with
    | .fin sg mm e =>
      let place := Float64.truncOf sg mm e
      let fall (k : Int) : Int :=
        let way := (place - 2 * k * wide).natAbs
        max 0 (min wide (min (way : Int) (6 * wide - way) - wide))
      let full := bif light then min (high + low) (32 - high - low) else high
      bif (decide (high - fall 0 = a) && decide (high - fall 1 = b) && decide (high - fall 2 = c)) && (decide (0 ≤ place) && decide (place < 6 * wide)) then
        (bif feqB share (quot wide full) && fltB (Float64.mul (Float64.abs (Float64.sub x (Float64.ofInt place))) (Float64.ofInt (2 ^ 30))) 1 then some place else none)
      else none
    | _ => none
def okPlace (a b c : Int) (light : Bool) : Bool :=
  (bif light then hlsOk (quot a 16) (quot b 16) (quot c 16) else hsvOk (quot a 16) (quot b 16) (quot c 16))

set_option maxHeartbeats 4000000
end Mine
end

section
open PySem PySem.Spec PySem.Calls PySem.W PyProof.Rows
set_option maxRecDepth 100000
set_option linter.all false
namespace Mine
def pick3 (a b c : Int) (i : Nat) : Int := if i = 0 then a else if i = 1 then b else c
def aheadOf (p wide : Int) (pair turn neg : Int) : Bool :=
  decide (wide > 0) && (decide (0 < (p - (4 + 2 * pair + 3 * turn + 3 * neg) * wide).fmod (6 * wide)) && decide ((p - (4 + 2 * pair + 3 * turn + 3 * neg) * wide).fmod (6 * wide) < 3 * wide))
def frontOf (a b c : Int) (pair : Nat) (turn : Int) : Int := (pick3 a b c pair - pick3 a b c ((pair + 1) % 3)) * (1 - 2 * turn)
def frcI {β : Type} (x : Int) (k : Int → β) : β := match x with
  | .ofNat 0 => k 0
  | .ofNat (n + 1) => k (Int.ofNat (n + 1))
  | .negSucc n => k (Int.negSucc n)
theorem frcI_eq {β : Type} (x : Int) (k : Int → β) : frcI x k = k x := by
  unfold frcI
  split <;> rfl
def placeQ (a b c : Int) (light : Bool) : Bool × Option Int :=
  frc (quot a 16) fun qa => frc (quot b 16) fun qb => frc (quot c 16) fun qc =>
  frc (fmx (fmx qa qb) qc) fun maxc => frc (fmn (fmn qa qb) qc) fun minc => frc (Float64.sub maxc minc) fun rangec =>
  let high := max a (max b c)
  let low := min a (min b c)
  let wide := high - low
  let hue0 : UInt64 := frc (Float64.div (Float64.sub maxc qa) rangec) fun rc => frc (Float64.div (Float64.sub maxc qb) rangec) fun gc => frc (Float64.div (Float64.sub maxc qc) rangec) fun bc => hueOf qa qb qc maxc rc gc bc
  frc (bif light then Float64.div (Float64.add maxc minc) f2 else maxc) fun level =>
  frc (bif feqB minc maxc then 0 else hue0) fun hue =>
  frc (bif feqB minc maxc then 0 else bif light then (bif fleB level f05 then Float64.div rangec (Float64.add maxc minc) else Float64.div rangec (Float64.sub (Float64.sub f2 maxc) minc)) else Float64.div rangec maxc) fun share =>
  (feqB minc maxc || (!Float64.isZero rangec && bif light then (bif fleB level f05 then !Float64.isZero (Float64.add maxc minc) else !Float64.isZero (Float64.sub (Float64.sub f2 maxc) minc)) else !Float64.isZero maxc),
  bif !(feqB level (bif light then quot (high + low) 32 else quot high 16)) then none
  else bif wide == 0 then (bif feqB hue 0 && feqB share 0 then some 0 else none)
  else
    frc (Float64.mul (Float64.mul hue (Float64.ofInt 6)) (Float64.ofInt wide)) fun x =>
    match Float64.decode (Float64.add x f05) with
    | .fin sg mm e =>
      frcI (Float64.truncOf sg mm e) fun place =>
      let fall (k : Int) : Int :=
        let way := (place - 2 * k * wide).natAbs
        max 0 (min wide (min (way : Int) (6 * wide - way) - wide))
      let full := bif light then min (high + low) (32 - high - low) else high
      bif (decide (high - fall 0 = a) && decide (high - fall 1 = b) && decide (high - fall 2 = c)) && (decide (0 ≤ place) && decide (place < 6 * wide)) then
        (bif feqB share (quot wide full) && fltB (Float64.mul (Float64.abs (Float64.sub x (Float64.ofInt place))) (Float64.ofInt (2 ^ 30))) 1 then some place else none)
      else none
    | _ => none)
theorem placeQ_eq (a b c : Int) (light : Bool) : placeQ a b c light = (okPlace a b c light, placeOf a b c light) := by
  simp only [placeQ, frc_eq, frcI_eq, okPlace, placeOf, hlsOk, hsvOk, hlsV, hsvV, hueR]
  cases light
  · simp only [cond_false]
    cases feqB (fmn (fmn (quot a 16) (quot b 16)) (quot c 16)) (fmx (fmx (quot a 16) (quot b 16)) (quot c 16)) <;> rfl
  · simp only [cond_true]
    cases feqB (fmn (fmn (quot a 16) (quot b 16)) (quot c 16)) (fmx (fmx (quot a 16) (quot b 16)) (quot c 16)) <;> rfl
def placeGood (a b c : Nat) (v : Nat) : Bool :=
  let neg : Int := (v / 2 : Nat)
  let light := decide (v > 0)
  let f (k : Nat) : Int := if neg = 1 then 16 - (k : Int) else k
  let wide : Int := max (a : Int) (max b c) - min (a : Int) (min b c)
  match placeQ (f a) (f b) (f c) light with
  | (true, some p) => (List.range 2).all fun turn => (List.range 3).all fun pair => aheadOf p wide pair turn neg == decide (0 < frontOf a b c pair turn)
  | _ => false
set_option maxHeartbeats 4000000
theorem placeT0_0 : ((List.range 1).all fun a => (List.range (13 - (a + 0))).all fun b => (List.range (13 - (a + 0) - b)).all fun c => placeGood (a + 0) b c 0) = true := by decide +kernel
theorem placeT0_1 : ((List.range 1).all fun a => (List.range (13 - (a + 1))).all fun b => (List.range (13 - (a + 1) - b)).all fun c => placeGood (a + 1) b c 0) = true := by decide +kernel
theorem placeT0_2 : ((List.range 1).all fun a => (List.range (13 - (a + 2))).all fun b => (List.range (13 - (a + 2) - b)).all fun c => placeGood (a + 2) b c 0) = true := by decide +kernel
theorem placeT0_3 : ((List.range 2).all fun a => (List.range (13 - (a + 3))).all fun b => (List.range (13 - (a + 3) - b)).all fun c => placeGood (a + 3) b c 0) = true := by decide +kernel
theorem placeT0_4 : ((List.range 8).all fun a => (List.range (13 - (a + 5))).all fun b => (List.range (13 - (a + 5) - b)).all fun c => placeGood (a + 5) b c 0) = true := by decide +kernel
theorem placeT1_0 : ((List.range 1).all fun a => (List.range (10 - (a + 0))).all fun b => (List.range (10 - (a + 0) - b)).all fun c => placeGood (a + 0) b c 1) = true := by decide +kernel
theorem placeT1_1 : ((List.range 2).all fun a => (List.range (10 - (a + 1))).all fun b => (List.range (10 - (a + 1) - b)).all fun c => placeGood (a + 1) b c 1) = true := by decide +kernel
theorem placeT1_2 : ((List.range 7).all fun a => (List.range (10 - (a + 3))).all fun b => (List.range (10 - (a + 3) - b)).all fun c => placeGood (a + 3) b c 1) = true := by decide +kernel
theorem placeT2_0 : ((List.range 1).all fun a => (List.range (10 - (a + 0))).all fun b => (List.range (10 - (a + 0) - b)).all fun c => placeGood (a + 0) b c 2) = true := by decide +kernel
theorem placeT2_1 : ((List.range 2).all fun a => (List.range (10 - (a + 1))).all fun b => (List.range (10 - (a + 1) - b)).all fun c => placeGood (a + 1) b c 2) = true := by decide +kernel
theorem placeT2_2 : ((List.range 7).all fun a => (List.range (10 - (a + 3))).all fun b => (List.range (10 - (a + 3) - b)).all fun c => placeGood (a + 3) b c 2) = true := by decide +kernel
theorem placeAll0 (a b c : Nat) (h : a + b + c < 13) : placeGood a b c 0 = true := by
  have key : ∀ (lo k : Nat), ((List.range k).all fun a => (List.range (13 - (a + lo))).all fun b => (List.range (13 - (a + lo) - b)).all fun c => placeGood (a + lo) b c 0) = true → lo ≤ a → a < lo + k → placeGood a b c 0 = true := by
    intro lo k hh h1 h2
    have e := List.all_eq_true.mp hh (a - lo) (List.mem_range.mpr (by omega))
    rw [show a - lo + lo = a by omega] at e
    have e2 := List.all_eq_true.mp e b (List.mem_range.mpr (by omega))
    exact List.all_eq_true.mp e2 c (List.mem_range.mpr (by omega))
  have hc : (0 ≤ a ∧ a < 0 + 1) ∨ (1 ≤ a ∧ a < 1 + 1) ∨ (2 ≤ a ∧ a < 2 + 1) ∨ (3 ≤ a ∧ a < 3 + 2) ∨ (5 ≤ a ∧ a < 5 + 8) := by omega
  rcases hc with h1 | h1 | h1 | h1 | h1
  · exact key 0 1 placeT0_0 h1.1 h1.2
  · exact key 1 1 placeT0_1 h1.1 h1.2
  · exact key 2 1 placeT0_2 h1.1 h1.2
  · exact key 3 2 placeT0_3 h1.1 h1.2
  · exact key 5 8 placeT0_4 h1.1 h1.2
theorem placeAll1 (a b c : Nat) (h : a + b + c < 10) : placeGood a b c 1 = true := by
  have key : ∀ (lo k : Nat), ((List.range k).all fun a => (List.range (10 - (a + lo))).all fun b => (List.range (10 - (a + lo) - b)).all fun c => placeGood (a + lo) b c 1) = true → lo ≤ a → a < lo + k → placeGood a b c 1 = true := by
    intro lo k hh h1 h2
    have e := List.all_eq_true.mp hh (a - lo) (List.mem_range.mpr (by omega))
    rw [show a - lo + lo = a by omega] at e
    have e2 := List.all_eq_true.mp e b (List.mem_range.mpr (by omega))
    exact List.all_eq_true.mp e2 c (List.mem_range.mpr (by omega))
  have hc : (0 ≤ a ∧ a < 0 + 1) ∨ (1 ≤ a ∧ a < 1 + 2) ∨ (3 ≤ a ∧ a < 3 + 7) := by omega
  rcases hc with h1 | h1 | h1
  · exact key 0 1 placeT1_0 h1.1 h1.2
  · exact key 1 2 placeT1_1 h1.1 h1.2
  · exact key 3 7 placeT1_2 h1.1 h1.2
theorem placeAll2 (a b c : Nat) (h : a + b + c < 10) : placeGood a b c 2 = true := by
  have key : ∀ (lo k : Nat), ((List.range k).all fun a => (List.range (10 - (a + lo))).all fun b => (List.range (10 - (a + lo) - b)).all fun c => placeGood (a + lo) b c 2) = true → lo ≤ a → a < lo + k → placeGood a b c 2 = true := by
    intro lo k hh h1 h2
    have e := List.all_eq_true.mp hh (a - lo) (List.mem_range.mpr (by omega))
    rw [show a - lo + lo = a by omega] at e
    have e2 := List.all_eq_true.mp e b (List.mem_range.mpr (by omega))
    exact List.all_eq_true.mp e2 c (List.mem_range.mpr (by omega))
  have hc : (0 ≤ a ∧ a < 0 + 1) ∨ (1 ≤ a ∧ a < 1 + 2) ∨ (3 ≤ a ∧ a < 3 + 7) := by omega
  rcases hc with h1 | h1 | h1
  · exact key 0 1 placeT2_0 h1.1 h1.2
  · exact key 1 2 placeT2_1 h1.1 h1.2
  · exact key 3 7 placeT2_2 h1.1 h1.2
end Mine
end

section
open PySem PySem.Spec PySem.Calls PySem.W PyProof.Rows
set_option maxRecDepth 100000
set_option linter.all false
namespace Mine

def ofL (l : List Nat) : PySem.Str := ⟨l.toArray⟩
def cpl (x : PySem.Str) : List Nat := x.cps.toList
theorem ofL_cpl (x : PySem.Str) : ofL (cpl x) = x := by cases x; simp [ofL, cpl]
theorem cpl_ofL (l : List Nat) : cpl (ofL l) = l := by simp [ofL, cpl]
theorem ofL_inj {a b : List Nat} (h : ofL a = ofL b) : a = b := by rw [← cpl_ofL a, h, cpl_ofL]
theorem ofL_beq (a b : List Nat) : (ofL a == ofL b) = decide (a = b) := by
  rw [Bool.eq_iff_iff, beq_iff_eq, decide_eq_true_iff]
  exact ⟨ofL_inj, fun h => by rw [h]⟩
theorem cpl_append (x y : PySem.Str) : cpl (x ++ y) = cpl x ++ cpl y := by
  show (x ++ y).cps.toList = _
  rw [Str.cps_append, Array.toList_append]; rfl
theorem ofL_append (a b : List Nat) : ofL a ++ ofL b = ofL (a ++ b) := by
  rw [← ofL_cpl (ofL a ++ ofL b), cpl_append, cpl_ofL, cpl_ofL]
theorem ofL_length (l : List Nat) : (ofL l).length = l.length := by simp [ofL, Str.length]

/-- one sign written out -/
def repl (c : Nat) (z : List Nat) (l : List Nat) : List Nat := l.flatMap fun k => if k = c then z else [k]
theorem repl_free {c z l} (h : c ∉ l) : repl c z l = l := by
  induction l with
  | nil => rfl
  | cons k r ih =>
    have h1 : ¬ k = c := fun e => h (e ▸ List.mem_cons_self ..)
    show (if k = c then z else [k]) ++ repl c z r = k :: r
    rw [if_neg h1, ih fun q => h (List.mem_cons_of_mem _ q)]; rfl
theorem repl_append (c z a b) : repl c z (a ++ b) = repl c z a ++ repl c z b := by simp [repl]
theorem repl_join (c : Nat) (z : List Nat) : ∀ parts : List PySem.Str, (∀ p ∈ parts, c ∉ cpl p) → repl c z (cpl (Str.join (ofL [c]) parts)) = cpl (Str.join (ofL z) parts)
  | [], _ => rfl
  | [p], h => repl_free (h p (List.mem_singleton.mpr rfl))
  | p :: q :: r, h => by
    have ih := repl_join c z (q :: r) fun a ha => h a (List.mem_cons_of_mem _ ha)
    show repl c z (cpl (p ++ ofL [c] ++ Str.join (ofL [c]) (q :: r))) = cpl (p ++ ofL z ++ Str.join (ofL z) (q :: r))
    simp only [cpl_append, cpl_ofL]
    rw [repl_append, repl_append, ih, repl_free (h p (List.mem_cons_self ..))]
    congr 2
    simp [repl]
theorem replace_eq (l : List Nat) (c : Nat) (z : List Nat) : Txt.replace (ofL l) (ofL [c]) (ofL z) = ofL (repl c z l) := by
  have h1 := StrLaws.replace_one (ofL l) (ofL z) c
  have h2 := StrLaws.join_split (ofL l) ⟨#[c]⟩
  have h3 := repl_join c z (Txt.split (ofL l) ⟨#[c]⟩) (StrLaws.split_free (ofL l) c)
  rw [← ofL_cpl (Txt.replace _ _ _)]
  congr 1
  rw [show (ofL [c]) = (⟨#[c]⟩ : PySem.Str) from rfl] at h3 ⊢
  rw [h1, ← h3, h2, cpl_ofL]

theorem in_free {l : List Nat} {c : Nat} (h : (Builtin.Str.occurrences (ofL l) (ofL [c]) 0 (ofL l).length 1).isEmpty = true) : c ∉ l := by
  rcases StrLaws.occ_head (ofL l) (ofL [c]) 1 (Nat.le_refl _) with ⟨_, hn⟩ | ⟨i, r, e, _⟩
  · have := StrLaws.part_free (ofL l) c 0 (ofL l).length (Nat.le_refl _) (fun k _ _ => hn k)
    rw [StrLaws.sub_whole] at this
    rw [← cpl_ofL l]; exact this
  · rw [e] at h; cases h

/-- pieces between the signs c -/
def sp (c : Nat) : List Nat → List (List Nat)
  | [] => [[]]
  | k :: r => if k = c then [] :: sp c r else match sp c r with
    | [] => [[k]]
    | p :: ps => (k :: p) :: ps
theorem sp_free {c : Nat} : ∀ {l : List Nat}, c ∉ l → sp c l = [l]
  | [], _ => rfl
  | k :: r, h => by
    have h1 : ¬ k = c := fun e => h (e ▸ List.mem_cons_self ..)
    rw [sp, if_neg h1, sp_free fun q => h (List.mem_cons_of_mem _ q)]
theorem sp_cut {c : Nat} : ∀ {l : List Nat} (r : List Nat), c ∉ l → sp c (l ++ c :: r) = l :: sp c r
  | [], r, _ => by show sp c (c :: r) = _; rw [sp, if_pos rfl]
  | k :: l, r, h => by
    have h1 : ¬ k = c := fun e => h (e ▸ List.mem_cons_self ..)
    show sp c (k :: (l ++ c :: r)) = _
    rw [sp, if_neg h1, sp_cut r fun q => h (List.mem_cons_of_mem _ q)]
theorem sp_join (c : Nat) : ∀ (p : PySem.Str) (parts : List PySem.Str), (∀ q ∈ p :: parts, c ∉ cpl q) → sp c (cpl (Str.join (ofL [c]) (p :: parts))) = (p :: parts).map cpl
  | p, [], h => sp_free (h p (List.mem_cons_self ..))
  | p, q :: r, h => by
    have ih := sp_join c q r fun a ha => h a (List.mem_cons_of_mem _ ha)
    show sp c (cpl (p ++ ofL [c] ++ Str.join (ofL [c]) (q :: r))) = _
    simp only [cpl_append, cpl_ofL]
    rw [List.append_assoc, List.singleton_append, sp_cut _ (h p (List.mem_cons_self ..)), ih]; rfl
theorem split_ne (x y : PySem.Str) : ∃ p r, Txt.split x y = p :: r := by
  unfold Txt.split
  split
  · exact ⟨_, _, rfl⟩
  · split
    · exact ⟨_, _, rfl⟩
    · rw [StrLaws.partsBetween_eq]; exact StrLaws.partsFrom_ne _ _ _ _
theorem split_eq (l : List Nat) (c : Nat) : Txt.split (ofL l) (ofL [c]) = (sp c l).map ofL := by
  obtain ⟨p, r, e⟩ := split_ne (ofL l) (ofL [c])
  have h2 := StrLaws.join_split (ofL l) (ofL [c])
  have h3 := StrLaws.split_free (ofL l) c
  rw [show (⟨#[c]⟩ : PySem.Str) = ofL [c] from rfl, e] at h3
  rw [e] at h2 ⊢
  have h4 := sp_join c p r h3
  rw [h2, cpl_ofL] at h4
  rw [h4, List.map_map]
  conv => lhs; rw [← List.map_id (p :: r)]
  exact List.map_congr_left fun a _ => (ofL_cpl a).symm
theorem parts_le (l : List Nat) (c : Nat) (hl : l.length ≤ 1000) : (Builtin.Str.partsBetween (ofL l) (Builtin.Str.occurrences (ofL l) (ofL [c]) 0 (ofL l).length ((ofL l).length + 1)) (ofL [c]).length).length ≤ sizeLine := by
  have h1 := StrLaws.occ_length_le (ofL l) (ofL [c]) 0 (ofL l).length ((ofL l).length + 1)
  have key : ∀ (cuts : List Nat) (w a : Nat), (StrLaws.partsFrom (ofL l) w a cuts).length = cuts.length + 1 := by
    intro cuts
    induction cuts with
    | nil => intro w a; rfl
    | cons k r ih => intro w a; show ((StrLaws.partsFrom (ofL l) w _ r).length + 1) = _; rw [ih]; rfl
  rw [StrLaws.partsBetween_eq, key, sizeLine_eq]
  rw [ofL_length] at h1 ⊢
  omega
theorem join_eq : ∀ ls : List (List Nat), Txt.join (ofL []) (ls.map ofL) = ofL ls.flatten := by
  intro ls
  show Builtin.Str.glued _ _ = _
  rw [StrLaws.glued_eq_join]
  induction ls with
  | nil => rfl
  | cons p r ih =>
    cases r with
    | nil => show ofL p = _; simp
    | cons q r =>
      show ofL p ++ ofL [] ++ Str.join (ofL []) ((q :: r).map ofL) = _
      rw [ih, ofL_append, ofL_append, List.append_nil]; rfl
theorem joinOk_of (ls : List (List Nat)) (h : ls.flatten.length ≤ 2 ^ 20) : JoinOk (ofL []) (ls.map ofL) = true := by
  unfold JoinOk
  rw [Bool.not_eq_true']
  unfold Builtin.Str.tooLong
  rw [decide_eq_false_iff_not]
  have key : ∀ (ls : List (List Nat)) (n : Nat), List.foldl (fun (a : Nat) (x : PySem.Str) => a + x.length + (ofL []).length) n (ls.map ofL) = n + ls.flatten.length := by
    intro ls
    induction ls with
    | nil => intro n; rfl
    | cons p r ih => intro n; rw [List.map_cons, List.foldl_cons, ih, ofL_length, ofL_length, List.flatten_cons, List.length_append]; simp; omega
  rw [List.foldl_toArray', key]
  · rw [sizeLine_eq]; omega
  all_goals simp
end Mine
end

section
open PySem PySem.Spec PySem.Calls PySem.W PyProof.Rows
set_option maxRecDepth 100000
set_option linter.all false
namespace Mine
def esc (tbl : List (Nat × List Nat)) (k : Nat) : List Nat := match tbl.lookup k with
  | some z => z
  | none => [k]
theorem lookup_snoc {α} (tbl : List (Nat × α)) (c : Nat) (z : α) (k : Nat) : (tbl ++ [(c, z)]).lookup k = match tbl.lookup k with | some x => some x | none => if k = c then some z else none := by
  induction tbl with
  | nil =>
    show List.lookup k [(c, z)] = _
    rw [List.lookup_cons]
    by_cases h : k = c
    · subst h; simp
    · have : (k == c) = false := by simpa using h
      rw [this]; simp [h]
  | cons p r ih =>
    obtain ⟨y, u⟩ := p
    rw [List.cons_append, List.lookup_cons, List.lookup_cons]
    by_cases h : k = y
    · subst h; simp
    · have : (k == y) = false := by simpa using h
      rw [this]; exact ih
theorem mem_of_lookupN {α} : ∀ {tbl : List (Nat × α)} {k : Nat} {z : α}, tbl.lookup k = some z → (k, z) ∈ tbl
  | (y, u) :: r, k, z, h => by
    rw [List.lookup_cons] at h
    by_cases e : k = y
    · subst e; simp at h; subst h; exact .head _
    · have : (k == y) = false := by simpa using e
      rw [this] at h; exact .tail _ (mem_of_lookupN h)
theorem repl_esc (tbl : List (Nat × List Nat)) (c : Nat) (z : List Nat) (h : tbl.lookup c = none) (hv : ∀ p ∈ tbl, c ∉ p.2) (l : List Nat) : repl c z (l.flatMap (esc tbl)) = l.flatMap (esc (tbl ++ [(c, z)])) := by
  induction l with
  | nil => rfl
  | cons k r ih =>
    rw [List.flatMap_cons, List.flatMap_cons, repl_append, ih]
    congr 1
    unfold esc
    rw [lookup_snoc]
    cases e : tbl.lookup k with
    | some x => exact repl_free (hv _ (mem_of_lookupN e))
    | none =>
      by_cases hk : k = c
      · subst hk; simp [repl]
      · simp [repl, hk]
theorem esc_length (tbl : List (Nat × List Nat)) (hv : ∀ p ∈ tbl, p.2.length ≤ 6) (l : List Nat) : (l.flatMap (esc tbl)).length ≤ 6 * l.length := by
  induction l with
  | nil => exact Nat.zero_le _
  | cons k r ih =>
    rw [List.flatMap_cons, List.length_append, List.length_cons]
    have : (esc tbl k).length ≤ 6 := by
      unfold esc
      cases e : tbl.lookup k with
      | some x => exact hv _ (mem_of_lookupN e)
      | none => exact (by decide : 1 ≤ 6)
    omega
def aAmp : List Nat := [38, 97, 109, 112, 59]
def aLt : List Nat := [38, 108, 116, 59]
def aGt : List Nat := [38, 103, 116, 59]
def aQuot : List Nat := [38, 113, 117, 111, 116, 59]
def E0 : List (Nat × List Nat) := [(38, aAmp), (60, aLt), (62, aGt), (34, aQuot), (13, [38, 35, 49, 51, 59]), (10, [38, 35, 49, 48, 59]), (9, [38, 35, 48, 57, 59])]
def E1 : List (Nat × List Nat) := [(38, aAmp), (62, aGt), (34, aQuot)]
def E2 : List (Nat × List Nat) := [(38, aAmp), (60, aLt), (34, aQuot), (9, [38, 35, 120, 57, 59]), (10, [38, 35, 120, 65, 59]), (13, [38, 35, 120, 68, 59])]
def Eh (hand : Nat) : List (Nat × List Nat) := if hand = 0 then E0 else if hand = 1 then E1 else E2
def EOkT (tbl : List (Nat × List Nat)) (c : Nat) (z : List Nat) : Bool := (tbl.lookup c).isNone && tbl.all (fun p => !p.2.contains c && decide (p.2.length ≤ 6)) && decide (z.length ≤ 6) && z != [c]
end Mine
end

section
open PySem PySem.Spec PySem.Calls PySem.W PyProof.Rows
set_option maxRecDepth 100000
set_option linter.all false
namespace Mine
theorem gl_max : Gl "max" (.builtin "max") := fun P => .inr ⟨by rfl, by kernel_rfl, by decide⟩
theorem gl_min : Gl "min" (.builtin "min") := fun P => .inr ⟨by rfl, by kernel_rfl, by decide⟩
theorem gl_len : Gl "len" (.builtin "len") := fun P => .inr ⟨by rfl, by kernel_rfl, by decide⟩
theorem gl_abs : Gl "abs" (.builtin "abs") := fun P => .inr ⟨by rfl, by kernel_rfl, by decide⟩
theorem gl_sum : Gl "sum" (.builtin "sum") := fun P => .inr ⟨by rfl, by kernel_rfl, by decide⟩
theorem gl_sorted : Gl "sorted" (.builtin "sorted") := fun P => .inr ⟨by rfl, by kernel_rfl, by decide⟩
theorem gl_int : Gl "int" (.type "int") := fun P => .inr ⟨by rfl, by kernel_rfl, by decide⟩
theorem gl_range : Gl "range" (.type "range") := fun P => .inr ⟨by rfl, by kernel_rfl, by decide⟩
theorem gl_tuple : Gl "tuple" (.type "tuple") := fun P => .inr ⟨by rfl, by kernel_rfl, by decide⟩
theorem gl_hls : Gl "rgb_to_hls" (.ref 28) := fun P => .inl (by rfl)
theorem gl_hsv : Gl "rgb_to_hsv" (.ref 35) := fun P => .inl (by rfl)
theorem gl_WS : Gl "Whitespace" (.ref 97) := fun P => .inl (by rfl)
theorem gl_esc0 : Gl "_escape_attrib" (.ref 115) := fun P => .inl (by rfl)
theorem gl_esc1 : Gl "_escape_attrib_html" (.ref 122) := fun P => .inl (by rfl)
theorem gl_esc2 : Gl "_escape_attrib_c14n" (.ref 129) := fun P => .inl (by rfl)
theorem gl_written : Gl "_law_written" (.ref 136) := fun P => .inl (by rfl)
theorem gl_spelled : Gl "_law_spelled" (.ref 141) := fun P => .inl (by rfl)
theorem gl_text : Gl "_law_text" (.ref 146) := fun P => .inl (by rfl)
theorem gl_place : Gl "_law_place" (.ref 151) := fun P => .inl (by rfl)
theorem gl_lights : Gl "_law_lights" (.ref 156) := fun P => .inl (by rfl)
theorem gl_ways : Gl "_law_ways" (.ref 161) := fun P => .inl (by rfl)

section
variable {w : World} {mg mb : PySem.Str → Option Value} {A : Around} {env : Env} {m : Vars}
theorem ExS.ifT {t b o pos out} (ht : EvT w mg mb A env m t true) (h : Ex w mg mb A env m b out) : ExS w mg mb A env m (.If t b o pos) out := ExS.ifs ht (fun _ => h) (fun e => by cases e)
theorem ExS.ifF {t b o pos out} (ht : EvT w mg mb A env m t false) (h : Ex w mg mb A env m o out) : ExS w mg mb A env m (.If t b o pos) out := ExS.ifs ht (fun e => by cases e) (fun _ => h)
theorem ExS.ifFlt {t b o pos c x y z} (ht : EvT w mg mb A env m t c) (h1 : c = true → Ex w mg mb A env m b (.next ((x, .flt y) :: m))) (h2 : c = false → Ex w mg mb A env m o (.next ((x, .flt z) :: m))) : ExS w mg mb A env m (.If t b o pos) (.next ((x, .flt (bif c then y else z)) :: m)) :=
  ExS.ifs ht (fun e => by subst e; exact h1 rfl) (fun e => by subst e; exact h2 rfl)
theorem EvT.eq {e b c} (h : EvT w mg mb A env m e b) (hb : b = c) : EvT w mg mb A env m e c := hb ▸ h
theorem Ev.eq {e b c} (h : Ev w mg mb A env m e b) (hb : b = c) : Ev w mg mb A env m e c := hb ▸ h
theorem OpL.eq {f as b c} (h : OpL w mg mb A f as b) (hb : b = c) : OpL w mg mb A f as c := hb ▸ h
theorem Ex.one {st o} (h : ExS w mg mb A env m st o) : Ex w mg mb A env m [st] o := by
  refine ⟨?_⟩; intro h₀ Z s Q E T F hQ
  refine wpAny_execs_cons (h.run h₀ Z s _ E T F fun f s' k p => ?_)
  cases o with
  | next m' => obtain ⟨rfl, F'⟩ := p; exact wpAny_execs_nil (hQ _ _ k ⟨rfl, F'⟩)
  | ret d => obtain ⟨v, rfl, r⟩ := p; exact hQ _ s' k ⟨v, rfl, r⟩
  | brk m' => obtain ⟨rfl, r⟩ := p; exact hQ _ s' k ⟨rfl, r⟩
  | cont m' => obtain ⟨rfl, r⟩ := p; exact hQ _ s' k ⟨rfl, r⟩
end
end Mine
end

open PySem PySem.Spec PySem.Calls PySem.W PyProof.Rows
set_option maxRecDepth 100000
set_option linter.all false
namespace Mine
local macro_rules
  | `(tactic| walk_at "rf") => `(tactic| with_unfolding_all rfl)
  | `(tactic| walk_at "evl") => `(tactic| first
    | with_reducible exact EvL.nil
    | (with_reducible apply EvL.cons (he := by walk_at "rf"); walk_at "ev"; walk_at "evl"))
  | `(tactic| walk_at "nz") => `(tactic| first | with_reducible assumption | decide +kernel)
  | `(tactic| walk_at "opf") => `(tactic| first
    | (with_reducible first | exact Op2.fadd | exact Op2.fsub | exact Op2.fmul | exact Op2.feq | exact Op2.fne | exact Op2.fle)
    | (with_reducible apply Op2.fdiv (by assumption); walk_at "nz") | (with_reducible apply Op2.fmod (by assumption); walk_at "nz") | walk_at "opi")
  | `(tactic| walk_at "opi") => `(tactic| first
    | (with_reducible first | exact Op2.iadd | exact Op2.isub | exact Op2.ieq | exact Op2.ine | exact Op2.ilt | exact Op2.ile | exact Op2.igt | exact Op2.ige)
    | (with_reducible apply Op2.imul; decide) | (with_reducible apply Op2.imulr; decide)
    | (with_reducible apply Op2.ifloordiv; decide; decide) | (with_reducible apply Op2.imod; decide) | (with_reducible apply Op2.ipow; decide; decide; decide))
  | `(tactic| walk_at "name") => `(tactic| (with_reducible apply Ev.name (hk := by walk_at "rf") (hd := by decide) (hn := by decide); walk_at "rf"))
  | `(tactic| walk_at "ev") => `(tactic| first
    | (with_reducible first | exact Ev.int | exact Ev.str | exact Ev.flt | exact Ev.bool | exact Ev.cnone)
    | walk_at "name"
    | (with_reducible apply Ev.binop; walk_at "ev"; walk_at "ev"; walk_at "opf")
    | (with_reducible apply Ev.cmp1 (hm := by walk_at "rf"); walk_at "ev"; walk_at "ev"; walk_at "opf")
    | (with_reducible apply Ev.neg; walk_at "ev")
    | (with_reducible apply Ev.callB gl_max (by walk_at "eok") (by walk_at "rf") (he := by walk_at "rf") (hplain := by walk_at "rf") (hd := by decide); walk_at "evl"; walk_at "opl")
    | (with_reducible apply Ev.callB gl_min (by walk_at "eok") (by walk_at "rf") (he := by walk_at "rf") (hplain := by walk_at "rf") (hd := by decide); walk_at "evl"; walk_at "opl")
    | (with_reducible apply Ev.callB gl_abs (by walk_at "eok") (by walk_at "rf") (he := by walk_at "rf") (hplain := by walk_at "rf") (hd := by decide); walk_at "evl"; walk_at "opl")
    | ((with_reducible first | apply Ev.list | apply Ev.tup); walk_at "evl"; (apply le_size; exact Nat.le_of_ble_eq_true rfl)))
  | `(tactic| walk_at "opl") => `(tactic| with_reducible first
    | exact OpL.max3 (by assumption) | exact OpL.min3 (by assumption) | exact OpL.max2 (by assumption) | exact OpL.min2 (by assumption)
    | exact OpL.absInt | exact OpL.absFlt)
  | `(tactic| walk_at "evt") => `(tactic| (with_reducible apply EvT.cmp1 (hm := by walk_at "rf"); walk_at "ev"; walk_at "ev"; walk_at "opf"))
  | `(tactic| walk_at "asg0") => `(tactic| (with_reducible apply ExS.assign (hx := .inl (by walk_at "rf")) (hk := by walk_at "rf") (hs := by walk_at "rf"); walk_at "ev"))
  | `(tactic| walk_at "asg") => `(tactic| (with_reducible apply Ex.cons; walk_at "asg0"))
  | `(tactic| walk_at "ret") => `(tactic| (with_reducible apply Ex.ret; with_reducible apply ExS.ret; walk_at "ev"))
  | `(tactic| walk_at "def") => `(tactic| (constructor; intro P; (iterate 8 (apply Exists.intro)); exact ⟨rfl, rfl⟩))
  | `(tactic| walk_at "bind0") => `(tactic| (intro doc pm an cdv ct vs hv; match vs, hv with | [], _ => rfl))
  | `(tactic| walk_at "bind1") => `(tactic| (intro doc pm an cdv ct vs hv; match vs, hv with | [_], _ => rfl))
  | `(tactic| walk_at "bind2") => `(tactic| (intro doc pm an cdv ct vs hv; match vs, hv with | [_, _], _ => rfl))
  | `(tactic| walk_at "bind3") => `(tactic| (intro doc pm an cdv ct vs hv; match vs, hv with | [_, _, _], _ => rfl))
  | `(tactic| walk_at "eok") => `(tactic| exact ⟨by walk_at "rf", by walk_at "rf", by walk_at "rf"⟩)
  | `(tactic| walk_at "cf") => `(tactic| first | exact Or.inl (by walk_at "rf") | exact Or.inr (by walk_at "rf"))
  | `(tactic| walk_at "nl") => `(tactic| first | (with_unfolding_all exact (show (some NameKind.cell : Option NameKind) ≠ some NameKind.local by decide)) | (with_unfolding_all exact (show (some NameKind.free : Option NameKind) ≠ some NameKind.local by decide)))


section
variable {w : World} {mg mb : PySem.Str → Option Value} {A : Around} {env : Env} {m : Vars}
set_option maxHeartbeats 4000000
theorem hls_contract {r g b : UInt64} (hok : hlsOk r g b = true) (hA : Room A 1) : OpL w mg mb A (fun vs => call (.ref 28) vs) [.flt r, .flt g, .flt b] (.tup [.flt (hlsV r g b).1, .flt (hlsV r g b).2.1, .flt (hlsV r g b).2.2]) := by
  apply Contract.plain (f := 28) (ps := ["r", "g", "b"]) (n := 0) (hA := hA)
  case df =>
    walk_at "def"
  case hbody =>
    intro A' L cdv hA'
    have hH := hA'.handled
    walk_at "asg"
    walk_at "asg"
    walk_at "asg"
    walk_at "asg"
    walk_at "asg"
    unfold hlsOk at hok
    unfold hlsV hueR hueOf
    dsimp only at hok ⊢
    generalize fmx (fmx r g) b = maxc at hok ⊢
    generalize fmn (fmn r g) b = minc at hok ⊢
    cases hc : feqB minc maxc
    · rw [hc] at hok
      simp only [Bool.false_or, Bool.and_eq_true, Bool.not_eq_true', cond_false] at hok ⊢
      have hr := hok.1
      have hok2 := hok.2
      apply Ex.cons
      · refine ExS.ifF (EvT.eq (b := feqB minc maxc) ?_ hc) Ex.nil
        walk_at "evt"
      apply Ex.cons
      · apply ExS.ifFlt (c := fleB (Float64.div (Float64.add maxc minc) f2) f05) (x := "s")
        · walk_at "evt"
        · intro h5
          rw [h5] at hok2
          simp only [cond_true, cond_false, Bool.not_eq_true'] at hok2
          walk_at "asg"
          exact Ex.nil
        · intro h5
          rw [h5] at hok2
          simp only [cond_true, cond_false, Bool.not_eq_true'] at hok2
          walk_at "asg"
          exact Ex.nil
      walk_at "asg"
      walk_at "asg"
      walk_at "asg"
      apply Ex.cons
      · apply ExS.ifFlt (x := "h") (c := feqB r maxc)
        · walk_at "evt"
        · intro _
          walk_at "asg"
          exact Ex.nil
        · intro _
          apply Ex.one
          apply ExS.ifFlt (x := "h") (c := feqB g maxc)
          · walk_at "evt"
          · intro _
            walk_at "asg"
            exact Ex.nil
          · intro _
            walk_at "asg"
            exact Ex.nil
      walk_at "asg"
      exact Ex.ret (ExS.ret (by walk_at "ev"))
    · simp only [cond_true]
      apply Ex.ret
      refine ExS.ifT (EvT.eq (b := feqB minc maxc) ?_ hc) ?_
      · walk_at "evt"
      · exact Ex.ret (ExS.ret (by walk_at "ev"))
  case hnd => decide
  case hlen => rfl
  case hbind => walk_at "bind3"
  case hcell => decide
  case hloc => decide
  all_goals rfl

theorem hsv_contract {r g b : UInt64} (hok : hsvOk r g b = true) (hA : Room A 1) : OpL w mg mb A (fun vs => call (.ref 35) vs) [.flt r, .flt g, .flt b] (.tup [.flt (hsvV r g b).1, .flt (hsvV r g b).2.1, .flt (hsvV r g b).2.2]) := by
  apply Contract.plain (f := 35) (ps := ["r", "g", "b"]) (n := 0) (hA := hA)
  case df =>
    walk_at "def"
  case hbody =>
    intro A' L cdv hA'
    have hH := hA'.handled
    walk_at "asg"
    walk_at "asg"
    walk_at "asg"
    walk_at "asg"
    unfold hsvOk at hok
    unfold hsvV hueR hueOf
    dsimp only at hok ⊢
    generalize fmx (fmx r g) b = maxc at hok ⊢
    generalize fmn (fmn r g) b = minc at hok ⊢
    cases hc : feqB minc maxc
    · rw [hc] at hok
      simp only [Bool.false_or, Bool.and_eq_true, Bool.not_eq_true', cond_false] at hok ⊢
      have hr := hok.1
      have hok2 := hok.2
      apply Ex.cons
      · refine ExS.ifF (EvT.eq (b := feqB minc maxc) ?_ hc) Ex.nil
        walk_at "evt"
      walk_at "asg"
      walk_at "asg"
      walk_at "asg"
      walk_at "asg"
      apply Ex.cons
      · apply ExS.ifFlt (x := "h") (c := feqB r maxc)
        · walk_at "evt"
        · intro _
          walk_at "asg"
          exact Ex.nil
        · intro _
          apply Ex.one
          apply ExS.ifFlt (x := "h") (c := feqB g maxc)
          · walk_at "evt"
          · intro _
            walk_at "asg"
            exact Ex.nil
          · intro _
            walk_at "asg"
            exact Ex.nil
      walk_at "asg"
      exact Ex.ret (ExS.ret (by walk_at "ev"))
    · simp only [cond_true]
      apply Ex.ret
      refine ExS.ifT (EvT.eq (b := feqB minc maxc) ?_ hc) ?_
      · walk_at "evt"
      · exact Ex.ret (ExS.ret (by walk_at "ev"))
  case hnd => decide
  case hlen => rfl
  case hbind => walk_at "bind3"
  case hcell => decide
  case hloc => decide
  all_goals rfl
end

section
open PySem PySem.Spec PySem.Calls PySem.W PyProof.Rows
set_option maxRecDepth 100000
set_option linter.all false
set_option maxHeartbeats 4000000
section
variable {w : World} {mg mb : PySem.Str → Option Value} {A : Around} {env : Env} {m : Vars}
theorem ExS.escStep {tbl : List (Nat × List Nat)} {c : Nat} {z : List Nat} {l : List Nat} {x y z' : PySem.Str} {k1 k2 k3 p1 p2 p3 p4 p5 p6 p7 p8 p9 p10 p11}
    (hm : m.lookup x = some (.str (ofL (l.flatMap (esc tbl))))) (hl : l.length ≤ 1000) (ht : EOkT tbl c z = true) (hy : y = ofL [c]) (hz : z' = ofL z)
    (hn : ∀ pos, Ev w mg mb A env m (.Name x pos) (.str (ofL (l.flatMap (esc tbl)))))
    (hk : env.kindOf x = some .local) (hkd : env.scope.kind = .function)
    (hm1 : behindInMarks .In (.Name x p2) = false)
    (hbase : attributeBase (.Name x p7) "replace" env (eval (.Name x p7) env) = eval (.Name x p7) env) (hline : (p8.endLine == p11.line) = true)
    (hs : swapsWith (.Call (.Attribute (.Name x p7) "replace" p8) [.Constant (.str y) k2 p9, .Constant (.str z') k3 p10] [] p11) (some (.Name x p5)) p6.line env = pure false) :
    ExS w mg mb A env m (.If (.Compare (.Constant (.str y) k1 p1) [.In] [.Name x p2] p3) [.Assign [.Name x p5] (.Call (.Attribute (.Name x p7) "replace" p8) [.Constant (.str y) k2 p9, .Constant (.str z') k3 p10] [] p11) p6] [] p4) (.next ((x, .str (ofL (l.flatMap (esc (tbl ++ [(c, z)]))))) :: m)) := by
  subst hy hz
  unfold EOkT at ht
  simp only [Bool.and_eq_true, Option.isNone_iff_eq_none, List.all_eq_true, Bool.not_eq_true', decide_eq_true_eq, bne_iff_ne] at ht
  obtain ⟨⟨⟨h1, h2⟩, h3⟩, h4⟩ := ht
  have hv : ∀ p ∈ tbl, c ∉ p.2 := fun p hp q => by
    have := (h2 p hp).1
    rw [List.contains_eq_mem, decide_eq_false_iff_not] at this
    exact this q
  have e := repl_esc tbl c z h1 hv l
  have hlen := esc_length tbl (fun p hp => (h2 p hp).2) l
  refine ExS.ifs (c := !(Builtin.Str.occurrences (ofL (l.flatMap (esc tbl))) (ofL [c]) 0 (ofL (l.flatMap (esc tbl))).length 1).isEmpty) (EvT.cmp1 Ev.str (hn _) Op2.sin hm1) (fun _ => ?_) (fun hc => ?_)
  · refine Ex.one (ExS.assign (Ev.eq (Ev.replace (hn _) (y := ofL [c]) (z := ofL z) ?_ ?_ hbase hline) ?_) (.inl hk) hkd hs)
    · rw [ofL_beq]; exact decide_eq_false fun q => h4 q.symm
    · rw [ofL_length, ofL_length]
      have : ((l.flatMap (esc tbl)).length + 1) * z.length ≤ 6001 * 6 := Nat.mul_le_mul (by omega) h3
      omega
    · rw [replace_eq, e]
  · rw [Bool.not_eq_false'] at hc
    have hf := in_free hc
    rw [← e, repl_free hf]
    refine Ex.post Ex.nil fun y d hy => ?_
    by_cases hxy : y = x
    · subst hxy; rw [lookup_cons_eq] at hy; rw [hm]; exact hy
    · rw [lookup_cons_ne hxy] at hy; exact hy
theorem esc_nil (l : List Nat) : l.flatMap (esc []) = l := by
  induction l with
  | nil => rfl
  | cons k r ih => rw [List.flatMap_cons, ih]; rfl

theorem esc0_contract {l : List Nat} (hl : l.length ≤ 1000) (hA : Room A 1) : OpL w mg mb A (fun vs => call (.ref 115) vs) [.str (ofL l)] (.str (ofL (l.flatMap (esc E0)))) := by
  apply Contract.plain (f := 115) (ps := ["text"]) (n := 0) (hA := hA)
  case df => walk_at "def"
  case hbody =>
    intro A' L cdv hA'
    have hH := hA'.handled
    rw [← esc_nil l]
    apply Ex.one
    apply ExS.tryRet
    refine Ex.cons (ExS.escStep (tbl := []) (c := 38) (z := aAmp) (l := l) (hl := hl) (by with_unfolding_all rfl) (by decide) (by with_unfolding_all rfl) (by with_unfolding_all rfl) (fun pos => by walk_at "name") (by with_unfolding_all rfl) (by with_unfolding_all rfl) (by with_unfolding_all rfl) (by with_unfolding_all rfl) (by with_unfolding_all rfl) (by with_unfolding_all rfl)) ?_
    refine Ex.cons (ExS.escStep (tbl := [] ++ [(38, aAmp)]) (c := 60) (z := aLt) (l := l) (hl := hl) (by with_unfolding_all rfl) (by decide) (by with_unfolding_all rfl) (by with_unfolding_all rfl) (fun pos => by walk_at "name") (by with_unfolding_all rfl) (by with_unfolding_all rfl) (by with_unfolding_all rfl) (by with_unfolding_all rfl) (by with_unfolding_all rfl) (by with_unfolding_all rfl)) ?_
    refine Ex.cons (ExS.escStep (tbl := [] ++ [(38, aAmp)] ++ [(60, aLt)]) (c := 62) (z := aGt) (l := l) (hl := hl) (by with_unfolding_all rfl) (by decide) (by with_unfolding_all rfl) (by with_unfolding_all rfl) (fun pos => by walk_at "name") (by with_unfolding_all rfl) (by with_unfolding_all rfl) (by with_unfolding_all rfl) (by with_unfolding_all rfl) (by with_unfolding_all rfl) (by with_unfolding_all rfl)) ?_
    refine Ex.cons (ExS.escStep (tbl := [] ++ [(38, aAmp)] ++ [(60, aLt)] ++ [(62, aGt)]) (c := 34) (z := aQuot) (l := l) (hl := hl) (by with_unfolding_all rfl) (by decide) (by with_unfolding_all rfl) (by with_unfolding_all rfl) (fun pos => by walk_at "name") (by with_unfolding_all rfl) (by with_unfolding_all rfl) (by with_unfolding_all rfl) (by with_unfolding_all rfl) (by with_unfolding_all rfl) (by with_unfolding_all rfl)) ?_
    refine Ex.cons (ExS.escStep (tbl := [] ++ [(38, aAmp)] ++ [(60, aLt)] ++ [(62, aGt)] ++ [(34, aQuot)]) (c := 13) (z := [38, 35, 49, 51, 59]) (l := l) (hl := hl) (by with_unfolding_all rfl) (by decide) (by with_unfolding_all rfl) (by with_unfolding_all rfl) (fun pos => by walk_at "name") (by with_unfolding_all rfl) (by with_unfolding_all rfl) (by with_unfolding_all rfl) (by with_unfolding_all rfl) (by with_unfolding_all rfl) (by with_unfolding_all rfl)) ?_
    refine Ex.cons (ExS.escStep (tbl := [] ++ [(38, aAmp)] ++ [(60, aLt)] ++ [(62, aGt)] ++ [(34, aQuot)] ++ [(13, [38, 35, 49, 51, 59])]) (c := 10) (z := [38, 35, 49, 48, 59]) (l := l) (hl := hl) (by with_unfolding_all rfl) (by decide) (by with_unfolding_all rfl) (by with_unfolding_all rfl) (fun pos => by walk_at "name") (by with_unfolding_all rfl) (by with_unfolding_all rfl) (by with_unfolding_all rfl) (by with_unfolding_all rfl) (by with_unfolding_all rfl) (by with_unfolding_all rfl)) ?_
    refine Ex.cons (ExS.escStep (tbl := [] ++ [(38, aAmp)] ++ [(60, aLt)] ++ [(62, aGt)] ++ [(34, aQuot)] ++ [(13, [38, 35, 49, 51, 59])] ++ [(10, [38, 35, 49, 48, 59])]) (c := 9) (z := [38, 35, 48, 57, 59]) (l := l) (hl := hl) (by with_unfolding_all rfl) (by decide) (by with_unfolding_all rfl) (by with_unfolding_all rfl) (fun pos => by walk_at "name") (by with_unfolding_all rfl) (by with_unfolding_all rfl) (by with_unfolding_all rfl) (by with_unfolding_all rfl) (by with_unfolding_all rfl) (by with_unfolding_all rfl)) ?_
    rw [esc_nil l]
    exact Ex.ret (ExS.ret (by walk_at "name"))
  case hbind => walk_at "bind1"
  case hnd => decide
  case hlen => rfl
  case hcell => decide
  case hloc => decide
  all_goals rfl
theorem esc1_contract {l : List Nat} (hl : l.length ≤ 1000) (hA : Room A 1) : OpL w mg mb A (fun vs => call (.ref 122) vs) [.str (ofL l)] (.str (ofL (l.flatMap (esc E1)))) := by
  apply Contract.plain (f := 122) (ps := ["text"]) (n := 0) (hA := hA)
  case df => walk_at "def"
  case hbody =>
    intro A' L cdv hA'
    have hH := hA'.handled
    rw [← esc_nil l]
    apply Ex.one
    apply ExS.tryRet
    refine Ex.cons (ExS.escStep (tbl := []) (c := 38) (z := aAmp) (l := l) (hl := hl) (by with_unfolding_all rfl) (by decide) (by with_unfolding_all rfl) (by with_unfolding_all rfl) (fun pos => by walk_at "name") (by with_unfolding_all rfl) (by with_unfolding_all rfl) (by with_unfolding_all rfl) (by with_unfolding_all rfl) (by with_unfolding_all rfl) (by with_unfolding_all rfl)) ?_
    refine Ex.cons (ExS.escStep (tbl := [] ++ [(38, aAmp)]) (c := 62) (z := aGt) (l := l) (hl := hl) (by with_unfolding_all rfl) (by decide) (by with_unfolding_all rfl) (by with_unfolding_all rfl) (fun pos => by walk_at "name") (by with_unfolding_all rfl) (by with_unfolding_all rfl) (by with_unfolding_all rfl) (by with_unfolding_all rfl) (by with_unfolding_all rfl) (by with_unfolding_all rfl)) ?_
    refine Ex.cons (ExS.escStep (tbl := [] ++ [(38, aAmp)] ++ [(62, aGt)]) (c := 34) (z := aQuot) (l := l) (hl := hl) (by with_unfolding_all rfl) (by decide) (by with_unfolding_all rfl) (by with_unfolding_all rfl) (fun pos => by walk_at "name") (by with_unfolding_all rfl) (by with_unfolding_all rfl) (by with_unfolding_all rfl) (by with_unfolding_all rfl) (by with_unfolding_all rfl) (by with_unfolding_all rfl)) ?_
    rw [esc_nil l]
    exact Ex.ret (ExS.ret (by walk_at "name"))
  case hbind => walk_at "bind1"
  case hnd => decide
  case hlen => rfl
  case hcell => decide
  case hloc => decide
  all_goals rfl
theorem esc2_contract {l : List Nat} (hl : l.length ≤ 1000) (hA : Room A 1) : OpL w mg mb A (fun vs => call (.ref 129) vs) [.str (ofL l)] (.str (ofL (l.flatMap (esc E2)))) := by
  apply Contract.plain (f := 129) (ps := ["text"]) (n := 0) (hA := hA)
  case df => walk_at "def"
  case hbody =>
    intro A' L cdv hA'
    have hH := hA'.handled
    rw [← esc_nil l]
    apply Ex.one
    apply ExS.tryRet
    refine Ex.cons (ExS.escStep (tbl := []) (c := 38) (z := aAmp) (l := l) (hl := hl) (by with_unfolding_all rfl) (by decide) (by with_unfolding_all rfl) (by with_unfolding_all rfl) (fun pos => by walk_at "name") (by with_unfolding_all rfl) (by with_unfolding_all rfl) (by with_unfolding_all rfl) (by with_unfolding_all rfl) (by with_unfolding_all rfl) (by with_unfolding_all rfl)) ?_
    refine Ex.cons (ExS.escStep (tbl := [] ++ [(38, aAmp)]) (c := 60) (z := aLt) (l := l) (hl := hl) (by with_unfolding_all rfl) (by decide) (by with_unfolding_all rfl) (by with_unfolding_all rfl) (fun pos => by walk_at "name") (by with_unfolding_all rfl) (by with_unfolding_all rfl) (by with_unfolding_all rfl) (by with_unfolding_all rfl) (by with_unfolding_all rfl) (by with_unfolding_all rfl)) ?_
    refine Ex.cons (ExS.escStep (tbl := [] ++ [(38, aAmp)] ++ [(60, aLt)]) (c := 34) (z := aQuot) (l := l) (hl := hl) (by with_unfolding_all rfl) (by decide) (by with_unfolding_all rfl) (by with_unfolding_all rfl) (fun pos => by walk_at "name") (by with_unfolding_all rfl) (by with_unfolding_all rfl) (by with_unfolding_all rfl) (by with_unfolding_all rfl) (by with_unfolding_all rfl) (by with_unfolding_all rfl)) ?_
    refine Ex.cons (ExS.escStep (tbl := [] ++ [(38, aAmp)] ++ [(60, aLt)] ++ [(34, aQuot)]) (c := 9) (z := [38, 35, 120, 57, 59]) (l := l) (hl := hl) (by with_unfolding_all rfl) (by decide) (by with_unfolding_all rfl) (by with_unfolding_all rfl) (fun pos => by walk_at "name") (by with_unfolding_all rfl) (by with_unfolding_all rfl) (by with_unfolding_all rfl) (by with_unfolding_all rfl) (by with_unfolding_all rfl) (by with_unfolding_all rfl)) ?_
    refine Ex.cons (ExS.escStep (tbl := [] ++ [(38, aAmp)] ++ [(60, aLt)] ++ [(34, aQuot)] ++ [(9, [38, 35, 120, 57, 59])]) (c := 10) (z := [38, 35, 120, 65, 59]) (l := l) (hl := hl) (by with_unfolding_all rfl) (by decide) (by with_unfolding_all rfl) (by with_unfolding_all rfl) (fun pos => by walk_at "name") (by with_unfolding_all rfl) (by with_unfolding_all rfl) (by with_unfolding_all rfl) (by with_unfolding_all rfl) (by with_unfolding_all rfl) (by with_unfolding_all rfl)) ?_
    refine Ex.cons (ExS.escStep (tbl := [] ++ [(38, aAmp)] ++ [(60, aLt)] ++ [(34, aQuot)] ++ [(9, [38, 35, 120, 57, 59])] ++ [(10, [38, 35, 120, 65, 59])]) (c := 13) (z := [38, 35, 120, 68, 59]) (l := l) (hl := hl) (by with_unfolding_all rfl) (by decide) (by with_unfolding_all rfl) (by with_unfolding_all rfl) (fun pos => by walk_at "name") (by with_unfolding_all rfl) (by with_unfolding_all rfl) (by with_unfolding_all rfl) (by with_unfolding_all rfl) (by with_unfolding_all rfl) (by with_unfolding_all rfl)) ?_
    rw [esc_nil l]
    exact Ex.ret (ExS.ret (by walk_at "name"))
  case hbind => walk_at "bind1"
  case hnd => decide
  case hlen => rfl
  case hcell => decide
  case hloc => decide
  all_goals rfl
end

end

section
open PySem PySem.Spec PySem.Calls PySem.W PyProof.Rows
set_option maxRecDepth 100000
set_option linter.all false
section
variable {w : World} {mg mb : PySem.Str → Option Value} {A : Around} {env : Env} {m : Vars}

theorem Sees.nil {scope cl} : Sees scope cl env m [] := fun y d h => by cases h
theorem Sees.cons {scope cl y d m₀} (h1 : m.lookup y = some d) (h2 : (relabel scope env).names.lookup y = some .cell ∨ (relabel scope env).names.lookup y = some .free) (h3 : env.kindOf y ≠ some .local) (h4 : cl.lookup y = env.cells.lookup y) (h : Sees scope cl env m m₀) : Sees scope cl env m ((y, d) :: m₀) := fun z e hz => by
  by_cases q : z = y
  · subst q; rw [lookup_cons_eq] at hz; cases hz; exact ⟨h1, h2, h3, h4⟩
  · rw [lookup_cons_ne q] at hz; exact h z e hz

theorem map_get {α β} {l : List α} {f : α → β} {i : Nat} {b : β} (h : (l.map f)[i]? = some b) : ∃ a, l[i]? = some a ∧ a ∈ l ∧ f a = b := by
  rw [List.getElem?_map] at h
  cases e : l[i]? with
  | none => rw [e] at h; cases h
  | some a => rw [e] at h; cases h; exact ⟨a, rfl, List.mem_of_getElem? e, rfl⟩

theorem CLoop.map {cenv : Env} {elt : Expr} {x : PySem.Str} {m₀ : Vars} {α} (l : List α) (f g : α → D) (h : ∀ a ∈ l, Ev w mg mb A cenv ((x, f a) :: m₀) elt (g a)) : CLoop w mg mb A cenv m₀ elt [] x [] [] (l.map f) (l.map fun a => [g a]) := by
  refine ⟨by simp, fun i d oi h1 h2 => ?_⟩
  obtain ⟨a, ha, hm, rfl⟩ := map_get h1
  obtain ⟨a', ha', _, rfl⟩ := map_get h2
  rw [ha] at ha'; cases ha'
  exact ⟨true, .inl ⟨rfl, rfl⟩, fun _ => ⟨_, rfl, h a hm⟩, fun e => by cases e⟩
theorem flatten_single {α} (l : List α) (g : α → D) : (l.map fun a => [g a]).flatten = l.map g := by
  induction l with
  | nil => rfl
  | cons a l ih => simp [ih]
theorem Ev.comp1 {elt : Expr} {x : PySem.Str} {px : Pos} {iter : Expr} {scope : Scope} {pos : Pos} {cl : List (PySem.Str × Addr)} {src : D} {m₀ : Vars} {α} (l : List α) (f g : α → D)
    (hA : A.handled = none) (hclos : closureFor scope env = pure cl) (hm₀ : Sees scope cl env m m₀) (hit : Ev w mg mb A env m iter src) (hI : Iter w A src (l.map f)) (hsz : l.length ≤ sizeLine)
    (h : ∀ C, ∀ a ∈ l, Ev w mg mb A (compEnvC scope cl C env) ((x, f a) :: m₀) elt (g a))
    (hkind : scope.kind = .function) (hnames : ∀ y ∈ scope.names, y.2 = .local → scope.names.lookup y.1 = some .local) (hcell : ∀ y ∈ scope.names, y.2 ≠ .cell) (hx : scope.names.lookup x = Option.some .local)
    (hs : ∀ v, foldedSetIterable iter env v = pure v) :
    Ev w mg mb A env m (.ListComp elt [⟨.Name x px, iter, [], 0⟩] scope pos) (.list (l.map g)) := by
  rw [← flatten_single]
  exact Ev.comp hA hclos hm₀ hit hI (fun C => CLoop.map l f g (h C)) (by rw [flatten_single, List.length_map]; exact hsz) hkind hnames hcell hx hs (fun _ _ h => by cases h)
theorem ExS.assignComp1 {elt : Expr} {x y : PySem.Str} {px py : Pos} {iter : Expr} {scope : Scope} {pos spos : Pos} {cl : List (PySem.Str × Addr)} {src : D} {m₀ : Vars} {α} (l : List α) (f g : α → D)
    (hA : A.handled = none) (hclos : closureFor scope env = pure cl) (hm₀ : Sees scope cl env m m₀) (hit : Ev w mg mb A env m iter src) (hI : Iter w A src (l.map f)) (hsz : l.length ≤ sizeLine)
    (h : ∀ C, ∀ a ∈ l, Ev w mg mb A (compEnvC scope cl C env) ((x, f a) :: m₀) elt (g a))
    (hy : env.kindOf y = some .local) (hk : env.scope.kind = .function)
    (hsw : swapsWith (.ListComp elt [⟨.Name x px, iter, [], 0⟩] scope pos) (some (.Name y py)) spos.line env = pure true)
    (hkind : scope.kind = .function) (hnames : ∀ y ∈ scope.names, y.2 = .local → scope.names.lookup y.1 = some .local) (hcell : ∀ y ∈ scope.names, y.2 ≠ .cell) (hx : scope.names.lookup x = Option.some .local)
    (hs : ∀ v, foldedSetIterable iter env v = pure v) :
    ExS w mg mb A env m (.Assign [.Name y py] (.ListComp elt [⟨.Name x px, iter, [], 0⟩] scope pos) spos) (.next ((y, .list (l.map g)) :: m)) := by
  rw [← flatten_single]
  exact ExS.assignComp hA hclos hm₀ hit hI (fun C => CLoop.map l f g (h C)) (by rw [flatten_single, List.length_map]; exact hsz) hy hk hsw hkind hnames hcell hx hs (fun _ _ h => by cases h)

/-- two clauses: the first with a test or none, the second with a test or none -/
theorem CLoop.two {cenv : Env} {elt : Expr} {x y : PySem.Str} {py : Pos} {iter2 : Expr} {ifs1 ifs2 : List Expr} {m₀ : Vars} {α β} (l : List α) (f : α → D) (p : α → Bool) (src2 : α → D) (l2 : α → List β) (f2 : α → β → D) (p2 : α → β → Bool) (g : α → β → D)
    (hs : ∀ v, foldedSetIterable iter2 cenv v = pure v) (hy : cenv.kindOf y = some .local) (hyx : (y == x) = false)
    (h1 : ∀ a ∈ l, Tests w mg mb A cenv ((x, f a) :: m₀) ifs1 (p a))
    (h2 : ∀ a ∈ l, p a = true → Ev w mg mb A cenv ((x, f a) :: m₀) iter2 (src2 a) ∧ Iter w A (src2 a) ((l2 a).map (f2 a)))
    (h3 : ∀ a ∈ l, p a = true → ∀ b ∈ l2 a, Tests w mg mb A cenv ((y, f2 a b) :: (x, f a) :: m₀) ifs2 (p2 a b))
    (h4 : ∀ a ∈ l, p a = true → ∀ b ∈ l2 a, p2 a b = true → Ev w mg mb A cenv ((y, f2 a b) :: (x, f a) :: m₀) elt (g a b)) :
    CLoop w mg mb A cenv m₀ elt [⟨.Name y py, iter2, ifs2, 0⟩] x ifs1 [] (l.map f) (l.map fun a => bif p a then (l2 a).flatMap (fun b => bif p2 a b then [g a b] else []) else []) := by
  refine ⟨by simp, fun i d oi e1 e2 => ?_⟩
  obtain ⟨a, ha, hm, rfl⟩ := map_get e1
  obtain ⟨a', ha', _, rfl⟩ := map_get e2
  rw [ha] at ha'; cases ha'
  refine ⟨p a, h1 a hm, fun hp => ?_, fun hp => by rw [hp]; rfl⟩
  rw [hp]
  obtain ⟨ev, it⟩ := h2 a hm hp
  refine ⟨y, py, iter2, ifs2, src2 a, (l2 a).map (f2 a), (l2 a).map (fun b => bif p2 a b then [g a b] else []), rfl, hs, hy, ?_, ev, it, ?_, by simp, fun j d oj e3 e4 => ?_⟩
  · show List.lookup y [(x, f a)] = none
    rw [List.lookup_cons, hyx]; rfl
  · rw [cond_true, List.flatMap_def]
  · obtain ⟨b, hb, hmb, rfl⟩ := map_get e3
    obtain ⟨b', hb', _, rfl⟩ := map_get e4
    rw [hb] at hb'; cases hb'
    refine ⟨p2 a b, h3 a hm hp b hmb, fun hq => ⟨_, by rw [hq]; rfl, h4 a hm hp b hmb hq⟩, fun hq => by rw [hq]; rfl⟩
theorem Ev.comp2 {elt : Expr} {x y : PySem.Str} {px py : Pos} {iter iter2 : Expr} {ifs1 ifs2 : List Expr} {scope : Scope} {pos : Pos} {cl : List (PySem.Str × Addr)} {src : D} {m₀ : Vars} {α β} (l : List α) (f : α → D) (p : α → Bool) (src2 : α → D) (l2 : α → List β) (f2 : α → β → D) (p2 : α → β → Bool) (g : α → β → D) (gs : List D)
    (hgs : (l.flatMap fun a => bif p a then (l2 a).flatMap (fun b => bif p2 a b then [g a b] else []) else []) = gs)
    (hA : A.handled = none) (hclos : closureFor scope env = pure cl) (hm₀ : Sees scope cl env m m₀) (hit : Ev w mg mb A env m iter src) (hI : Iter w A src (l.map f)) (hsz : gs.length ≤ sizeLine)
    (h1 : ∀ C, ∀ a ∈ l, Tests w mg mb A (compEnvC scope cl C env) ((x, f a) :: m₀) ifs1 (p a))
    (h2 : ∀ C, ∀ a ∈ l, p a = true → Ev w mg mb A (compEnvC scope cl C env) ((x, f a) :: m₀) iter2 (src2 a) ∧ Iter w A (src2 a) ((l2 a).map (f2 a)))
    (h3 : ∀ C, ∀ a ∈ l, p a = true → ∀ b ∈ l2 a, Tests w mg mb A (compEnvC scope cl C env) ((y, f2 a b) :: (x, f a) :: m₀) ifs2 (p2 a b))
    (h4 : ∀ C, ∀ a ∈ l, p a = true → ∀ b ∈ l2 a, p2 a b = true → Ev w mg mb A (compEnvC scope cl C env) ((y, f2 a b) :: (x, f a) :: m₀) elt (g a b))
    (hkind : scope.kind = .function) (hnames : ∀ y ∈ scope.names, y.2 = .local → scope.names.lookup y.1 = some .local) (hcell : ∀ y ∈ scope.names, y.2 ≠ .cell) (hx : scope.names.lookup x = Option.some .local) (hy : ∀ C, (compEnvC scope cl C env).kindOf y = some .local) (hyx : (y == x) = false)
    (hs : ∀ v, foldedSetIterable iter env v = pure v) (hs2 : ∀ C v, foldedSetIterable iter2 (compEnvC scope cl C env) v = pure v) :
    Ev w mg mb A env m (.ListComp elt [⟨.Name x px, iter, ifs1, 0⟩, ⟨.Name y py, iter2, ifs2, 0⟩] scope pos) (.list gs) := by
  subst hgs
  rw [List.flatMap_def] at hsz ⊢
  exact Ev.comp hA hclos hm₀ hit hI (fun C => CLoop.two l f p src2 l2 f2 p2 g (hs2 C) (hy C) hyx (h1 C) (h2 C) (h3 C) (h4 C)) hsz hkind hnames hcell hx hs (fun C g hg => by
    rw [List.mem_singleton] at hg; subst hg; exact ⟨_, _, _, rfl, hs2 C⟩)
theorem ExS.assignComp2 {elt : Expr} {x y z : PySem.Str} {px py pz : Pos} {iter iter2 : Expr} {ifs1 ifs2 : List Expr} {scope : Scope} {pos spos : Pos} {cl : List (PySem.Str × Addr)} {src : D} {m₀ : Vars} {α β} (l : List α) (f : α → D) (p : α → Bool) (src2 : α → D) (l2 : α → List β) (f2 : α → β → D) (p2 : α → β → Bool) (g : α → β → D) (gs : List D)
    (hgs : (l.flatMap fun a => bif p a then (l2 a).flatMap (fun b => bif p2 a b then [g a b] else []) else []) = gs)
    (hA : A.handled = none) (hclos : closureFor scope env = pure cl) (hm₀ : Sees scope cl env m m₀) (hit : Ev w mg mb A env m iter src) (hI : Iter w A src (l.map f)) (hsz : gs.length ≤ sizeLine)
    (h1 : ∀ C, ∀ a ∈ l, Tests w mg mb A (compEnvC scope cl C env) ((x, f a) :: m₀) ifs1 (p a))
    (h2 : ∀ C, ∀ a ∈ l, p a = true → Ev w mg mb A (compEnvC scope cl C env) ((x, f a) :: m₀) iter2 (src2 a) ∧ Iter w A (src2 a) ((l2 a).map (f2 a)))
    (h3 : ∀ C, ∀ a ∈ l, p a = true → ∀ b ∈ l2 a, Tests w mg mb A (compEnvC scope cl C env) ((y, f2 a b) :: (x, f a) :: m₀) ifs2 (p2 a b))
    (h4 : ∀ C, ∀ a ∈ l, p a = true → ∀ b ∈ l2 a, p2 a b = true → Ev w mg mb A (compEnvC scope cl C env) ((y, f2 a b) :: (x, f a) :: m₀) elt (g a b))
    (hz : env.kindOf z = some .local) (hk : env.scope.kind = .function)
    (hsw : swapsWith (.ListComp elt [⟨.Name x px, iter, ifs1, 0⟩, ⟨.Name y py, iter2, ifs2, 0⟩] scope pos) (some (.Name z pz)) spos.line env = pure true)
    (hkind : scope.kind = .function) (hnames : ∀ y ∈ scope.names, y.2 = .local → scope.names.lookup y.1 = some .local) (hcell : ∀ y ∈ scope.names, y.2 ≠ .cell) (hx : scope.names.lookup x = Option.some .local) (hy : ∀ C, (compEnvC scope cl C env).kindOf y = some .local) (hyx : (y == x) = false)
    (hs : ∀ v, foldedSetIterable iter env v = pure v) (hs2 : ∀ C v, foldedSetIterable iter2 (compEnvC scope cl C env) v = pure v) :
    ExS w mg mb A env m (.Assign [.Name z pz] (.ListComp elt [⟨.Name x px, iter, ifs1, 0⟩, ⟨.Name y py, iter2, ifs2, 0⟩] scope pos) spos) (.next ((z, .list gs) :: m)) := by
  subst hgs
  rw [List.flatMap_def] at hsz ⊢
  exact ExS.assignComp hA hclos hm₀ hit hI (fun C => CLoop.two l f p src2 l2 f2 p2 g (hs2 C) (hy C) hyx (h1 C) (h2 C) (h3 C) (h4 C)) hsz hz hk hsw hkind hnames hcell hx hs (fun C g hg => by
    rw [List.mem_singleton] at hg; subst hg; exact ⟨_, _, _, rfl, hs2 C⟩)
end

end

section
open PySem PySem.Spec PySem.Calls PySem.W PyProof.Rows
set_option maxRecDepth 100000
set_option linter.all false
set_option maxHeartbeats 4000000
section
variable {w : World} {mg mb : PySem.Str → Option Value} {A : Around} {env : Env} {m : Vars}
theorem LSub.nil {m : Vars} : ∀ x d, List.lookup x ([] : Vars) = some d → m.lookup x = some d := fun x d h => by cases h
theorem LSub.cons {m m' : Vars} {y e} (h : m.lookup y = some e) (h' : ∀ x d, m'.lookup x = some d → m.lookup x = some d) : ∀ x d, List.lookup x ((y, e) :: m') = some d → m.lookup x = some d := fun x d hx => by
  by_cases q : x = y
  · subst q; rw [lookup_cons_eq] at hx; cases hx; exact h
  · rw [lookup_cons_ne q] at hx; exact h' x d hx
theorem Ex.cons3 (m₃ : Vars) {s1 s2 s3 ss o} (h : ∃ m1 m2, ExS w mg mb A env m s1 (.next m1) ∧ ExS w mg mb A env m1 s2 (.next m2) ∧ ExS w mg mb A env m2 s3 (.next m₃)) (h' : Ex w mg mb A env m₃ ss o) : Ex w mg mb A env m (s1 :: s2 :: s3 :: ss) o := by
  obtain ⟨_, _, h1, h2, h3⟩ := h
  exact Ex.cons h1 (Ex.cons h2 (Ex.cons h3 h'))
theorem Op2.imodN {a : Nat} {b : Int} (k : Nat) (hb : b = k) (h : k ≠ 0) : Op2 w mg mb A (binaryOp .Mod) (.int (a : Int)) (.int b) (.int ((a % k : Nat) : Int)) := by
  subst hb
  have := Op2.imod (w := w) (mg := mg) (mb := mb) (A := A) (a := a) (b := k) (by omega)
  rwa [Int.fmod_eq_emod_of_nonneg _ (by omega), ← Int.natCast_emod] at this
theorem Op2.idivN {a : Nat} {b : Int} (k : Nat) (hb : b = k) (h : k ≠ 0) (hs : k.log2 < 9000) : Op2 w mg mb A (binaryOp .FloorDiv) (.int (a : Int)) (.int b) (.int ((a / k : Nat) : Int)) := by
  subst hb
  have := Op2.ifloordiv (w := w) (mg := mg) (mb := mb) (A := A) (a := a) (b := k) (by omega) (by simpa using hs)
  rwa [Int.fdiv_eq_ediv_of_nonneg _ (by omega), ← Int.natCast_ediv] at this
theorem Op2.ipowN {a : Nat} {b : Int} (n : Nat) (hb : b = n) (h : n ≤ 1000000) (ha : a < 2 ^ 64) : Op2 w mg mb A (binaryOp .Pow) (.int (a : Int)) (.int b) (.int ((a ^ n : Nat) : Int)) := by
  subst hb
  have := Op2.ipow (w := w) (mg := mg) (mb := mb) (A := A) (a := a) (n := n) (by omega) (by omega) (by simpa using ha)
  rwa [Int.toNat_natCast, ← Int.natCast_pow] at this
theorem Ev.joinE {e : Expr} {y : PySem.Str} {k p apos pos} {ls : List (List Nat)} (hy : y = ofL []) (h : Ev w mg mb A env m e (.list (ls.map fun l => .str (ofL l)))) (hl : ls.flatten.length ≤ 2 ^ 20)
    (hbase : attributeBase (.Constant (.str y) k p) "join" env (eval (.Constant (.str y) k p) env) = eval (.Constant (.str y) k p) env) (he : starEach [e] env = [(false, eval e env)]) (hline : (apos.endLine == pos.line) = true) :
    Ev w mg mb A env m (.Call (.Attribute (.Constant (.str y) k p) "join" apos) [e] [] pos) (.str (ofL ls.flatten)) := by
  subst hy
  rw [← join_eq]
  refine Ev.meth1 F.plainAttrs_str F.slot_str_join F.type_str_join Ev.str Ty.str h ?_ hbase he hline
  have := OpL.join (w := w) (mg := mg) (mb := mb) (A := A) (joinOk_of ls hl)
  rwa [List.map_map] at this

def dictOfT (E : List (Nat × List Nat)) : List (PySem.Str × PySem.Str) := E.map fun p => (ofL [p.1], ofL p.2)
theorem dict_lookup (c : Nat) : ∀ E : List (Nat × List Nat), (dictOfT E).lookup (ofL [c]) = (E.lookup c).map ofL
  | [] => rfl
  | (k, z) :: r => by
    show List.lookup (ofL [c]) ((ofL [k], ofL z) :: dictOfT r) = _
    rw [List.lookup_cons, List.lookup_cons, dict_lookup c r, ofL_beq]
    by_cases h : c = k
    · subst h; simp
    · have h1 : (c == k) = false := by simpa using h
      have h2 : ¬ [c] = [k] := fun e => h (by simpa using e)
      rw [h1, decide_eq_false h2]

def IsD (f : Addr) : Prop := ∃ name params body scope, IsDef f name params body scope
theorem Ev.callG {x f np e es pos ds d} (g : Gl x (.ref f)) (df : IsD f) (eo : EOk env) (hx : env.kindOf x = some .globalImplicit) (ha : EvL w mg mb A env m (e :: es) ds) (ho : OpL w mg mb A (fun vs => call (.ref f) vs) ds d)
    (he : starEach (e :: es) env = (false, eval e env) :: starEach es env)
    (hd : (x == ("__debug__" : PySem.Str)) = false) : Ev w mg mb A env m (.Call (.Name x np) (e :: es) [] pos) d := by
  obtain ⟨_, _, _, _, df⟩ := df
  exact Ev.callF g df eo hx ha ho he hd
theorem Ev.callG0 {x f np pos d} (g : Gl x (.ref f)) (df : IsD f) (eo : EOk env) (hx : env.kindOf x = some .globalImplicit) (ho : OpL w mg mb A (fun vs => call (.ref f) vs) [] d)
    (hd : (x == ("__debug__" : PySem.Str)) = false) : Ev w mg mb A env m (.Call (.Name x np) [] [] pos) d := by
  obtain ⟨_, _, _, _, df⟩ := df
  exact Ev.callF0 g df eo hx ho hd
theorem isd_28 : IsD 28 := by
  (iterate 4 (apply Exists.intro))
  walk_at "def"
theorem isd_35 : IsD 35 := by
  (iterate 4 (apply Exists.intro))
  walk_at "def"
theorem isd_115 : IsD 115 := by
  (iterate 4 (apply Exists.intro))
  walk_at "def"
theorem isd_122 : IsD 122 := by
  (iterate 4 (apply Exists.intro))
  walk_at "def"
theorem isd_129 : IsD 129 := by
  (iterate 4 (apply Exists.intro))
  walk_at "def"
theorem isd_136 : IsD 136 := by
  (iterate 4 (apply Exists.intro))
  walk_at "def"
theorem isd_141 : IsD 141 := by
  (iterate 4 (apply Exists.intro))
  walk_at "def"
theorem isd_146 : IsD 146 := by
  (iterate 4 (apply Exists.intro))
  walk_at "def"
theorem isd_151 : IsD 151 := by
  (iterate 4 (apply Exists.intro))
  walk_at "def"
theorem isd_156 : IsD 156 := by
  (iterate 4 (apply Exists.intro))
  walk_at "def"
theorem isd_161 : IsD 161 := by
  (iterate 4 (apply Exists.intro))
  walk_at "def"
theorem written_contract {h : Nat} {l : List Nat} (hh : h < 3) (hl : l.length ≤ 1000) (hA : Room A 2) : OpL w mg mb A (fun vs => call (.ref 136) vs) [.int h, .str (ofL l)] (.str (ofL (l.flatMap (esc (Eh h))))) := by
  apply Contract.plain (f := 136) (ps := ["hand", "text"]) (n := 1) (hA := hA)
  case df => walk_at "def"
  case hbody =>
    intro A' L cdv hA'
    have hH := hA'.handled
    have hc : h = 0 ∨ h = 1 ∨ h = 2 := by omega
    rcases hc with rfl | rfl | rfl
    · with_reducible apply Ex.ret
      with_reducible apply ExS.ifT
      · with_reducible refine EvT.eq (b := ((0 : Nat) : Int) == 0) ?_ (by decide)
        walk_at "evt"
      · with_reducible exact Ex.ret (ExS.ret (Ev.callG gl_esc0 isd_115 (by walk_at "eok") (by walk_at "rf") (by walk_at "evl") (esc0_contract hl hA') (by walk_at "rf") (by decide)))
    · with_reducible apply Ex.cons
      · with_reducible refine ExS.ifF (EvT.eq (b := ((1 : Nat) : Int) == 0) ?_ (by decide)) Ex.nil
        walk_at "evt"
      with_reducible apply Ex.ret
      with_reducible apply ExS.ifT
      · with_reducible refine EvT.eq (b := ((1 : Nat) : Int) == 1) ?_ (by decide)
        walk_at "evt"
      · with_reducible exact Ex.ret (ExS.ret (Ev.callG gl_esc1 isd_122 (by walk_at "eok") (by walk_at "rf") (by walk_at "evl") (esc1_contract hl hA') (by walk_at "rf") (by decide)))
    · with_reducible apply Ex.cons
      · with_reducible refine ExS.ifF (EvT.eq (b := ((2 : Nat) : Int) == 0) ?_ (by decide)) Ex.nil
        walk_at "evt"
      with_reducible apply Ex.cons
      · with_reducible refine ExS.ifF (EvT.eq (b := ((2 : Nat) : Int) == 1) ?_ (by decide)) Ex.nil
        walk_at "evt"
      with_reducible exact Ex.ret (ExS.ret (Ev.callG gl_esc2 isd_129 (by walk_at "eok") (by walk_at "rf") (by walk_at "evl") (esc2_contract hl hA') (by walk_at "rf") (by decide)))
  case hbind => walk_at "bind2"
  case hnd => decide
  case hlen => rfl
  case hcell => decide
  case hloc => decide
  all_goals rfl

def S2T : List (Nat × List Nat) := [(38, aAmp), (60, aLt), (34, aQuot), (13, [38, 35, 120, 68, 59]), (10, [38, 35, 120, 65, 59]), (9, [38, 35, 120, 57, 59])]
theorem S2T_lookup (c : Nat) : S2T.lookup c = E2.lookup c := by
  unfold S2T E2
  simp only [List.lookup_cons]
  by_cases h1 : c = 38
  · subst h1; rfl
  by_cases h2 : c = 60
  · subst h2; rfl
  by_cases h3 : c = 34
  · subst h3; rfl
  by_cases h4 : c = 9
  · subst h4; rfl
  by_cases h5 : c = 10
  · subst h5; rfl
  by_cases h6 : c = 13
  · subst h6; rfl
  rw [beq_false_of_ne h1, beq_false_of_ne h2, beq_false_of_ne h3, beq_false_of_ne h4, beq_false_of_ne h5, beq_false_of_ne h6]
theorem Eh_le (h : Nat) : ∀ p ∈ Eh h, p.2.length ≤ 6 := by
  unfold Eh
  split
  · decide
  · split <;> decide
def Sh (h : Nat) : List (Nat × List Nat) := if h = 0 then E0 else if h = 1 then E1 else S2T
theorem Sh_esc (h : Nat) (c : Nat) : esc (Sh h) c = esc (Eh h) c := by
  unfold Sh Eh
  split
  · rfl
  · split
    · rfl
    · unfold esc; rw [S2T_lookup]

theorem Ev.nameAt {E : List (Nat × List Nat)} {cenv : Env} {c : Nat} {nm sg : PySem.Str} {m₀ : Vars} {p1 p2 p3 p4 p5 p6 p7}
    (h1 : ∀ p, Ev w mg mb A cenv m₀ (.Name nm p) (.dict (dictOfT E))) (h2 : ∀ p, Ev w mg mb A cenv m₀ (.Name sg p) (.str (ofL [c]))) (hm : behindInMarks .In (.Name nm p2) = false)
    (hs : ∀ a t, subscripted (.Name sg p5) false (.ref a) (.str (ofL [c]) t) = operate [.ref a, .str (ofL [c]) t] (getItem (.ref a) (.str (ofL [c]) t)) := by intro _ _; rfl) :
    Ev w mg mb A cenv m₀ (.IfExp (.Compare (.Name sg p1) [.In] [.Name nm p2] p3) (.Subscript (.Name nm p4) (.Name sg p5) p6) (.Name sg p7) p8) (.str (ofL (esc E c))) := by
  have e := dict_lookup c E
  refine Ev.ifexp (c := ((dictOfT E).lookup (ofL [c])).isSome) (EvT.cmp1 (h2 _) (h1 _) Op2.din hm) (fun hc => ?_) (fun hc => ?_)
  · rw [e, Option.isSome_map] at hc
    obtain ⟨z, hz⟩ := Option.isSome_iff_exists.mp hc
    rw [hz] at e
    have : esc E c = z := by unfold esc; rw [hz]
    rw [this]
    exact Ev.subDict (h1 _) (h2 _) e hs
  · rw [e, Option.isSome_map] at hc
    have : esc E c = [c] := by
      unfold esc
      cases q : E.lookup c with
      | none => rfl
      | some z => rw [q] at hc; cases hc
    rw [this]
    exact h2 _

theorem Ev.dictLit {E : List (Nat × List Nat)} {ks vs pos l} (h : DLit ks vs l) (hl : l = dictOfT E) (hn : (E.map (·.1)).Nodup) (h0 : ks ≠ []) (hlen : ks.length ≤ 15) : Ev w mg mb A env m (.Dict ks vs pos) (.dict (dictOfT E)) := by
  subst hl
  refine Ev.dict h ?_ h0 hlen
  unfold dictOfT
  rw [List.map_map]
  have : ((fun p : PySem.Str × PySem.Str => p.1) ∘ fun p : Nat × List Nat => (ofL [p.1], ofL p.2)) = fun p => ofL [p.1] := rfl
  rw [this]
  have e : (E.map fun p => ofL [p.1]) = (E.map (·.1)).map fun c => ofL [c] := by rw [List.map_map]; rfl
  rw [e]
  exact List.Pairwise.map _ (fun a b q q2 => q (by simpa using ofL_inj q2)) hn
local macro_rules
  | `(tactic| walk_at "dlit") => `(tactic| first | exact DLit.nil | (apply DLit.cons; walk_at "dlit"))

theorem spelled_contract {h : Nat} {l : List Nat} (hh : h < 3) (hl : l.length ≤ 1000) (hA : Room A 1) : OpL w mg mb A (fun vs => call (.ref 141) vs) [.int h, .str (ofL l)] (.str (ofL (l.flatMap (esc (Eh h))))) := by
  apply Contract.cells (f := 141) (ps := ["hand", "text"]) (n := 0) (hA := hA)
  case df => walk_at "def"
  case hbody =>
    intro A' L cdv hA'
    have hH := hA'.handled
    with_reducible refine Ex.cons3 [("names", .dict (dictOfT (Sh h))), ("text", .str (ofL l))] ?_ ?_
    · have hc : h = 0 ∨ h = 1 ∨ h = 2 := by omega
      rcases hc with rfl | rfl | rfl
      · (iterate 2 (apply Exists.intro))
        refine And.intro ?_ (And.intro ?_ ?_)
        · exact ExS.assign (Ev.dictLit (E := E1) (by walk_at "dlit") (by kernel_rfl) (by decide) (List.cons_ne_nil _ _) (by decide)) (.inr ⟨by walk_at "rf", by walk_at "rf"⟩) (by walk_at "rf") (by walk_at "rf")
        · apply ExS.ifT
          · refine EvT.eq (b := ((0 : Nat) : Int) == 0) ?_ (by decide)
            walk_at "evt"
          · apply Ex.one
            exact ExS.assign (Ev.dictLit (E := E0) (by walk_at "dlit") (by kernel_rfl) (by decide) (List.cons_ne_nil _ _) (by decide)) (.inr ⟨by walk_at "rf", by walk_at "rf"⟩) (by walk_at "rf") (by walk_at "rf")
        · apply ExS.post
          case h =>
            refine ExS.ifF (EvT.eq (b := ((0 : Nat) : Int) == 2) ?_ (by decide)) Ex.nil
            walk_at "evt"
          case hm => exact LSub.cons (by walk_at "rf") (LSub.cons (by walk_at "rf") LSub.nil)
      · (iterate 2 (apply Exists.intro))
        refine And.intro ?_ (And.intro ?_ ?_)
        · exact ExS.assign (Ev.dictLit (E := E1) (by walk_at "dlit") (by kernel_rfl) (by decide) (List.cons_ne_nil _ _) (by decide)) (.inr ⟨by walk_at "rf", by walk_at "rf"⟩) (by walk_at "rf") (by walk_at "rf")
        · refine ExS.ifF (EvT.eq (b := ((1 : Nat) : Int) == 0) ?_ (by decide)) Ex.nil
          walk_at "evt"
        · apply ExS.post
          case h =>
            refine ExS.ifF (EvT.eq (b := ((1 : Nat) : Int) == 2) ?_ (by decide)) Ex.nil
            walk_at "evt"
          case hm => exact LSub.cons (by walk_at "rf") (LSub.cons (by walk_at "rf") LSub.nil)
      · (iterate 2 (apply Exists.intro))
        refine And.intro ?_ (And.intro ?_ ?_)
        · exact ExS.assign (Ev.dictLit (E := E1) (by walk_at "dlit") (by kernel_rfl) (by decide) (List.cons_ne_nil _ _) (by decide)) (.inr ⟨by walk_at "rf", by walk_at "rf"⟩) (by walk_at "rf") (by walk_at "rf")
        · refine ExS.ifF (EvT.eq (b := ((2 : Nat) : Int) == 0) ?_ (by decide)) Ex.nil
          walk_at "evt"
        · apply ExS.post
          case h =>
            apply ExS.ifT
            · refine EvT.eq (b := ((2 : Nat) : Int) == 2) ?_ (by decide)
              walk_at "evt"
            · apply Ex.one
              exact ExS.assign (Ev.dictLit (E := S2T) (by walk_at "dlit") (by kernel_rfl) (by decide) (List.cons_ne_nil _ _) (by decide)) (.inr ⟨by walk_at "rf", by walk_at "rf"⟩) (by walk_at "rf") (by walk_at "rf")
          case hm => exact LSub.cons (by walk_at "rf") (LSub.cons (by walk_at "rf") LSub.nil)
    have e : l.flatMap (esc (Eh h)) = (l.map (esc (Sh h))).flatten := by
      rw [List.flatMap_def]; congr 1; exact (List.map_congr_left fun c _ => Sh_esc h c).symm
    have hlen := esc_length (Eh h) (Eh_le h) l
    rw [e] at hlen ⊢
    with_reducible apply Ex.ret
    with_reducible apply ExS.ret
    with_reducible apply Ev.joinE (ls := l.map (esc (Sh h)))
    case h =>
      rw [List.map_map]
      apply Ev.comp1 (l := l) (f := fun c => .str ⟨#[c]⟩) (g := fun c => .str (ofL (esc (Sh h) c))) (m₀ := [("names", .dict (dictOfT (Sh h)))])
      case hA => exact hH
      case hclos => walk_at "rf"
      case hm₀ => with_reducible exact Sees.cons (by walk_at "rf") (by walk_at "cf") (by walk_at "nl") (by walk_at "rf") Sees.nil
      case hit => walk_at "name"
      case hI =>
        have := Iter.str (w := w) (A := A') (x := ofL l) hH
        exact this
      case hsz => rw [sizeLine_eq]; omega
      case h =>
        intro C c _
        apply Ev.nameAt (c := c)
        · intro p; walk_at "name"
        · intro p; walk_at "name"
        · walk_at "rf"
      case hkind => walk_at "rf"
      case hnames => decide
      case hcell => decide
      case hx => walk_at "rf"
      case hs => intro _; walk_at "rf"
    case hy => kernel_rfl
    case hl => omega
    all_goals walk_at "rf"
  case hbind => walk_at "bind2"
  case hnd => decide
  case hlen => rfl
  case hnc => decide
  all_goals rfl
end

end

section
open PySem PySem.Spec PySem.Calls PySem.W PyProof.Rows
set_option maxRecDepth 100000
set_option linter.all false
set_option maxHeartbeats 4000000
section
variable {w : World} {mg mb : PySem.Str → Option Value} {A : Around} {env : Env} {m : Vars}
def rowsOf (h : Nat) : List (List Nat) := if h = 0 then [[60, 62], [38, 13, 10, 9], [34], [101, 39]] else if h = 1 then [[62], [38], [34], [60, 10, 9, 101]] else [[60], [38, 9, 10, 13], [34], [62, 101]]
def rowOf (h p : Nat) : List Nat := (rowsOf h)[p % 4]?.getD []
def signOf (h p : Nat) : Nat := (rowOf h p)[p / 4 % (rowOf h p).length]?.getD 0
def picksOf (x : Nat) : List Nat := (List.range (1 + x % 3)).map fun j => x / 3 / 16 ^ j % 16
def textOf (h x : Nat) : List Nat := (picksOf x).map (signOf h)
theorem rowsOf_length (h : Nat) : (rowsOf h).length = 4 := by unfold rowsOf; split; · rfl
                                                              · split <;> rfl
theorem rowOf_get (h p : Nat) : (rowsOf h)[p % 4]? = some (rowOf h p) := by
  have : p % 4 < (rowsOf h).length := by rw [rowsOf_length]; omega
  unfold rowOf
  rw [List.getElem?_eq_getElem this]; rfl
theorem rowOf_pos (h p : Nat) : 0 < (rowOf h p).length ∧ (rowOf h p).length ≤ 4 := by
  have key : ∀ r ∈ rowsOf h, 0 < r.length ∧ r.length ≤ 4 := by
    unfold rowsOf; split
    · decide
    · split <;> decide
  exact key _ (List.mem_of_getElem? (rowOf_get h p))
theorem signOf_get (h p : Nat) : (rowOf h p)[p / 4 % (rowOf h p).length]? = some (signOf h p) := by
  have : p / 4 % (rowOf h p).length < (rowOf h p).length := Nat.mod_lt _ (rowOf_pos h p).1
  unfold signOf
  rw [List.getElem?_eq_getElem this]; rfl

theorem Ev.rowAt {h p : Nat} {cenv : Env} {rw pk : PySem.Str} {m₀ : Vars} {p1 p2 p3 p4 p5 : Pos} {k : Nat} {i : Int}
    (h1 : ∀ pos, Ev w mg mb A cenv m₀ (.Name rw pos) (.list ((rowsOf h).map fun r => .str (ofL r)))) (h2 : ∀ pos, Ev w mg mb A cenv m₀ (.Name pk pos) (.int (p : Int))) (hi : i = 4) :
    Ev w mg mb A cenv m₀ (.Subscript (.Name rw p1) (.BinOp (.Name pk p2) .Mod (.Constant (.int i) k p3) p4) p5) (.str (ofL (rowOf h p))) := by
  subst hi
  refine Ev.sub (h1 _) (Ev.binop (h2 _) Ev.int (Op2.imodN 4 rfl (by decide))) (by omega) ?_ (by intro _ _; rfl) (by omega)
  rw [Int.toNat_natCast, List.getElem?_map, rowOf_get]; rfl
theorem small_range {a b : Int} (h1 : -1000000 ≤ a) (h2 : b ≤ 1000000) (h3 : a ≤ 1000000) (h4 : -1000000 ≤ b) : Builtin.Range.small a b 1 = true := by
  have e : Builtin.Range.rangeSize a b 1 = if a < b then b - a else 0 := rangeSize_one a b
  have e63 : (2 : Int) ^ 63 = 9223372036854775808 := by decide
  have fits : ∀ i : Int, -4000000 ≤ i → i ≤ 4000000 → Builtin.Range.rangeFitsLong i = true := fun i h h' => by
    unfold Builtin.Range.rangeFitsLong
    rw [Bool.and_eq_true, decide_eq_true_eq, decide_eq_true_eq, e63]; omega
  unfold Builtin.Range.small
  rw [e, fits a (by omega) (by omega), fits b (by omega) (by omega), fits 1 (by omega) (by omega), fits (if a < b then b - a else 0) (by split <;> omega) (by split <;> omega)]
  rw [if_pos (show (1 : Int) > 0 by decide), fits (b + (1 - 1)) (by omega) (by omega)]
  simp
theorem text_contract {h x : Nat} (hh : h < 3) (hx : x < 2 ^ 32) (hA : Room A 1) : OpL w mg mb A (fun vs => call (.ref 146) vs) [.int h, .int x] (.str (ofL (textOf h x))) := by
  apply Contract.cells (f := 146) (ps := ["hand", "x"]) (n := 0) (hA := hA)
  case df => walk_at "def"
  case hbody =>
    intro A' L cdv hA'
    have hH := hA'.handled
    apply Ex.cons
    · refine ExS.assign (d := .list ((rowsOf h).map fun r => .str (ofL r))) ?_ (by first | exact .inr ⟨by walk_at "rf", by walk_at "rf"⟩ | exact .inl (by walk_at "rf")) (by walk_at "rf") (by walk_at "rf")
      have hc : h = 0 ∨ h = 1 ∨ h = 2 := by omega
      rcases hc with rfl | rfl | rfl
      all_goals
        refine Ev.eq (Ev.sub (by walk_at "ev") (by walk_at "ev") (by decide) (by walk_at "rf") (by intro _ _; walk_at "rf") (by decide)) (by kernel_rfl)
    have hj3 : ∀ j ∈ List.range (1 + x % 3), j = 0 ∨ j = 1 ∨ j = 2 := by
      intro j hj
      have := List.mem_range.mp hj
      omega
    apply Ex.cons
    · apply ExS.assignComp1 (l := List.range (1 + x % 3)) (f := fun j => .int (0 + (j : Nat))) (g := fun j => .int ((x / 3 / 16 ^ j % 16 : Nat) : Int)) (m₀ := [("x", .int (x : Int))])
      case hA => exact hH
      case hclos => walk_at "rf"
      case hm₀ => exact Sees.cons (by walk_at "rf") (by walk_at "cf") (by walk_at "nl") (by walk_at "rf") Sees.nil
      case hit =>
        apply Ev.callT gl_range (by walk_at "eok") (by walk_at "rf") (he := by walk_at "rf") (hplain := by walk_at "rf") (hd := by decide) (ds := [.int ((1 + x % 3 : Nat) : Int)])
        · refine EvL.cons (Ev.eq (Ev.binop Ev.int (Ev.binop (by walk_at "name") Ev.int (Op2.imodN 3 rfl (by decide))) Op2.iadd) ?_) EvL.nil (by walk_at "rf")
          congr 1
        · exact OpL.range1
      case hI => exact Iter.range hH (by omega) (small_range (by omega) (by omega) (by omega) (by omega))
      case hsz => rw [sizeLine_eq, List.length_range]; omega
      case h =>
        intro C j hj
        have hp : (16 ^ j).log2 < 9000 ∧ 16 ^ j ≠ 0 := by rcases hj3 j hj with rfl | rfl | rfl <;> decide
        have hj2 : j ≤ 1000000 := by rcases hj3 j hj with rfl | rfl | rfl <;> decide
        refine Ev.binop (Ev.binop (Ev.binop (by walk_at "name") Ev.int (Op2.idivN 3 rfl (by decide) (by decide))) (Ev.binop Ev.int (by walk_at "name") (Op2.ipowN (a := 16) j (by omega) hj2 (by decide))) (Op2.idivN (16 ^ j) rfl hp.2 hp.1)) Ev.int (Op2.imodN 16 rfl (by decide))
      case hy => walk_at "rf"
      case hk => walk_at "rf"
      case hsw => walk_at "rf"
      case hkind => walk_at "rf"
      case hnames => decide
      case hcell => decide
      case hx => walk_at "rf"
      case hs => intro _; walk_at "rf"
    have e : textOf h x = ((picksOf x).map fun p => [signOf h p]).flatten := by
      unfold textOf
      generalize picksOf x = l
      induction l with
      | nil => rfl
      | cons p l ih => rw [List.map_cons, List.map_cons, List.flatten_cons, ih]; rfl
    rw [e]
    have hpl : (picksOf x).length ≤ 3 := by unfold picksOf; rw [List.length_map, List.length_range]; omega
    apply Ex.ret
    apply ExS.ret
    apply Ev.joinE (ls := (picksOf x).map fun p => [signOf h p])
    case h =>
      rw [List.map_map]
      apply Ev.comp1 (l := picksOf x) (f := fun p => .int (p : Int)) (g := fun p => .str (ofL [signOf h p])) (m₀ := [("rows", .list ((rowsOf h).map fun r => .str (ofL r)))])
      case hA => exact hH
      case hclos => walk_at "rf"
      case hm₀ => exact Sees.cons (by walk_at "rf") (by walk_at "cf") (by walk_at "nl") (by walk_at "rf") Sees.nil
      case hit => exact Ev.eq (by walk_at "name") (show D.list (List.map (fun j : Nat => D.int ((x / 3 / 16 ^ j % 16 : Nat) : Int)) (List.range (1 + x % 3))) = D.list ((picksOf x).map fun p : Nat => D.int (p : Int)) by unfold picksOf; rw [List.map_map]; rfl)
      case hI => exact Iter.list hH
      case hsz => rw [sizeLine_eq]; omega
      case h =>
        intro C p _
        have hr := rowOf_pos h p
        have hlt : p / 4 % (rowOf h p).length < (rowOf h p).length := Nat.mod_lt _ hr.1
        refine Ev.subStr (x := ofL (rowOf h p)) (k := ((p / 4 % (rowOf h p).length : Nat) : Int)) ?_ (Ev.binop (Ev.binop (by walk_at "name") Ev.int (Op2.idivN 4 rfl (by decide) (by decide))) (Ev.callB gl_len (by walk_at "eok") (by walk_at "rf") (EvL.cons ?_ EvL.nil (by walk_at "rf")) (OpL.lenStr (x := ofL (rowOf h p)) ?_) (by walk_at "rf") (by walk_at "rf") (by decide)) (Op2.imodN (rowOf h p).length ?_ ?_)) (by omega) ?_ (by intro _ _; walk_at "rf") (by omega)
        · exact Ev.rowAt (by intro _; walk_at "name") (by intro _; walk_at "name") (by decide)
        · exact Ev.rowAt (by intro _; walk_at "name") (by intro _; walk_at "name") (by decide)
        · rw [ofL_length]; omega
        · rw [ofL_length]
        · omega
        · rw [Int.toNat_natCast]
          show (rowOf h p).toArray[_]? = _
          rw [List.getElem?_toArray, signOf_get]
      case hkind => walk_at "rf"
      case hnames => decide
      case hcell => decide
      case hx => walk_at "rf"
      case hs => intro _; walk_at "rf"
    case hy => kernel_rfl
    case hl =>
      rw [← e]; unfold textOf; rw [List.length_map]; omega
    all_goals walk_at "rf"
  case hbind => walk_at "bind2"
  case hnd => decide
  case hlen => rfl
  case hnc => decide
  all_goals rfl
end

end

section
open PySem PySem.Spec PySem.Calls PySem.W PyProof.Rows
set_option maxRecDepth 100000
set_option linter.all false
set_option maxHeartbeats 4000000
section
variable {w : World} {mg mb : PySem.Str → Option Value} {A : Around} {env : Env} {m : Vars}
theorem bits64 {a : Int} (h : a.natAbs < 2 ^ 64) : Builtin.Int.intBits a ≤ 64 := by
  unfold Builtin.Int.intBits
  split
  · omega
  · rename_i h0
    have : a.natAbs ≠ 0 := fun e => h0 (by simpa using e)
    exact (Nat.log2_lt this).mpr h
theorem Op2.imulS {a b : Int} (h : a.natAbs < 2 ^ 64) : Op2 w mg mb A (binaryOp .Mult) (.int a) (.int b) (.int (a * b)) := Op2.imul (bits64 h)
theorem Op2.imulrS {a b : Int} (h : b.natAbs < 2 ^ 64) : Op2 w mg mb A (binaryOp .Mult) (.int a) (.int b) (.int (a * b)) := Op2.imulr (bits64 h)
theorem OpL.max2m {a b : Int} (hA : A.handled = none) : OpL w mg mb A (fun vs => call (.builtin "max") vs) [.int a, .int b] (.int (max a b)) :=
  OpL.eq (OpL.max2 hA) (by congr 1; split <;> omega)
theorem OpL.min2m {a b : Int} (hA : A.handled = none) : OpL w mg mb A (fun vs => call (.builtin "min") vs) [.int a, .int b] (.int (min a b)) :=
  OpL.eq (OpL.min2 hA) (by congr 1; split <;> omega)
theorem OpL.absN {a : Int} : OpL w mg mb A (fun vs => call (.builtin "abs") vs) [.int a] (.int (a.natAbs : Nat)) :=
  OpL.eq OpL.absInt (by congr 1; split <;> omega)
theorem Op2.quotI {a b : Int} (hA : A.handled = none) (ha : a.natAbs < 2 ^ 64) (hb : b ≠ 0) : Op2 w mg mb A (binaryOp .Div) (.int a) (.int b) (.flt (quot a b)) :=
  Op2.idiv hA (Nat.lt_of_lt_of_le ha (Nat.pow_le_pow_right (by decide) (by decide))) hb
theorem Op2.fimulS {a : UInt64} {n : Int} (h : n.natAbs < 2 ^ 64) : Op2 w mg mb A (binaryOp .Mult) (.flt a) (.int n) (.flt (Float64.mul a (Float64.ofInt n))) :=
  Op2.fimul (Nat.lt_of_lt_of_le h (Nat.pow_le_pow_right (by decide) (by decide)))
theorem Op2.fisubS {a : UInt64} {n : Int} (h : n.natAbs < 2 ^ 64) : Op2 w mg mb A (binaryOp .Sub) (.flt a) (.int n) (.flt (Float64.sub a (Float64.ofInt n))) :=
  Op2.fisub (Nat.lt_of_lt_of_le h (Nat.pow_le_pow_right (by decide) (by decide)))
theorem Ev.bcallB {x id np e pos a d} (g : Gl x (.builtin id)) (eo : EOk env) (hx : env.kindOf x = some .globalImplicit) (ha : Ev w mg mb A env m e a) (ho : OpL w mg mb A (fun vs => call (.builtin id) vs) [a] d)
    (he : starEach [e] env = [(false, eval e env)]) (hd : (x == ("__debug__" : PySem.Str)) = false) : Ev w mg mb A env m (.Call (.Name x np) [e] [] pos) d :=
  Ev.callB g eo hx (EvL.cons ha EvL.nil he) ho he rfl hd

local macro_rules
  | `(tactic| walk_at "opl") => `(tactic| first
    | with_reducible exact OpL.max3 (by assumption) | with_reducible exact OpL.min3 (by assumption) | with_reducible exact OpL.max2m (by assumption) | with_reducible exact OpL.min2m (by assumption)
    | with_reducible exact OpL.absN | with_reducible exact OpL.absFlt | with_reducible exact OpL.range1 | with_reducible exact OpL.range2
    | exact OpL.maxList (ns := [_, _, _]) (by assumption) (by assumption) (by assumption)
    | exact OpL.minList (ns := [_, _, _]) (by assumption) (by assumption) (by assumption))
  | `(tactic| walk_at "opi") => `(tactic| first
    | with_reducible exact Op2.iadd | with_reducible exact Op2.isub | with_reducible exact Op2.ieq | with_reducible exact Op2.ine | with_reducible exact Op2.ilt | with_reducible exact Op2.ile | with_reducible exact Op2.igt | with_reducible exact Op2.ige
    | (with_reducible apply Op2.imulS; decide) | (with_reducible apply Op2.imulrS; first | decide | omega) | (with_reducible apply Op2.quotI (by assumption); omega; (first | omega | decide))
    | (with_reducible apply Op2.fimulS; first | decide | omega) | (with_reducible apply Op2.fisubS; first | decide | omega) | with_reducible exact Op2.filt
    | (with_reducible apply Op2.ifloordiv; decide; decide) | (with_reducible apply Op2.imod; decide) | (with_reducible apply Op2.ipow; decide; decide; decide))
  | `(tactic| walk_at "asg0") => `(tactic| (with_reducible apply Ex.cons; (with_reducible apply ExS.assign (hx := .inl (by with_unfolding_all rfl)) (hk := by with_unfolding_all rfl) (hs := by with_unfolding_all rfl))))
  | `(tactic| walk_at "subk") => `(tactic| (with_reducible apply Ev.sub; walk_at "name"; exact Ev.int; decide; walk_at "rf"; (intro _ _; walk_at "rf"); decide))

abbrev wayN (P W : Int) (k : Nat) : Int := ((P - 2 * (0 + (k : Nat)) * W).natAbs : Nat)
abbrev fallN (P W : Int) (k : Nat) : Int := min (max (min (wayN P W k) (6 * W - wayN P W k) - W) 0) W

theorem minmax {W X : Int} (hW : 0 ≤ W) : min (max X 0) W = max 0 (min W X) := by omega
theorem place_light {a b c p : Int} (ha : 0 ≤ a ∧ a ≤ 16) (hb : 0 ≤ b ∧ b ≤ 16) (hc : 0 ≤ c ∧ c ≤ 16) (hok : okPlace a b c true = true) (hp : placeOf a b c true = some p) (hA : Room A 6) :
    OpL w mg mb A (fun vs => call (.ref 151) vs) [.list [.int a, .int b, .int c], .bool true] (.int p) := by
  apply Contract.cells (f := 151) (ps := ["parts", "light"]) (n := 5) (hA := hA)
  case df => walk_at "def"
  case hbody =>
    intro A' L cdv hA'
    have hH := hA'.handled
    unfold okPlace at hok
    unfold placeOf at hp
    simp only [cond_true] at hok hp
    have hM1 : max a (max b c) ∈ [a, b, c] := by simp only [List.mem_cons, List.not_mem_nil, or_false]; omega
    have hM2 : ∀ x ∈ [a, b, c], x ≤ max a (max b c) := by simp only [List.mem_cons, List.not_mem_nil, or_false]; rintro x (rfl | rfl | rfl) <;> omega
    have hm1 : min a (min b c) ∈ [a, b, c] := by simp only [List.mem_cons, List.not_mem_nil, or_false]; omega
    have hm2 : ∀ x ∈ [a, b, c], min a (min b c) ≤ x := by simp only [List.mem_cons, List.not_mem_nil, or_false]; rintro x (rfl | rfl | rfl) <;> omega
    have hHb : max a (max b c) ≤ 16 := by omega
    have hLb : 0 ≤ min a (min b c) := by omega
    have hHL : min a (min b c) ≤ max a (max b c) := by omega
    generalize max a (max b c) = H at *
    generalize min a (min b c) = Lo at *
    apply Ex.cons
    · apply ExS.assignTup (xs := ["high", "low"])
      case h =>
        exact Ev.tup (EvL.cons (Ev.bcallB gl_max (by walk_at "eok") (by walk_at "rf") (by walk_at "name") (OpL.maxList (ns := [a, b, c]) hH hM1 hM2) (by walk_at "rf") (by decide))
          (EvL.cons (Ev.bcallB gl_min (by walk_at "eok") (by walk_at "rf") (by walk_at "name") (OpL.minList (ns := [a, b, c]) hH hm1 hm2) (by walk_at "rf") (by decide)) EvL.nil (by walk_at "rf")) (by walk_at "rf")) (le_size (Nat.le_of_ble_eq_true rfl))
      case hA => exact hH
      case hxl => rfl
      case he => exact ⟨[_, _], rfl, rfl⟩
      case hx =>
        intro x hx
        rcases List.mem_cons.mp hx with rfl | hx
        · exact .inr ⟨by walk_at "rf", by walk_at "rf"⟩
        · rw [List.mem_singleton] at hx; subst hx
          exact .inl (by walk_at "rf")
      all_goals walk_at "rf"
    apply Ex.cons
    · apply ExS.assign (hx := .inr ⟨by walk_at "rf", by walk_at "rf"⟩) (hk := by walk_at "rf") (hs := by walk_at "rf")
      walk_at "ev"
    apply Ex.cons
    · apply ExS.ifT
      · exact EvT.value (by walk_at "name")
      · apply Ex.one
        apply ExS.assignTup (xs := ["hue", "level", "share"])
        case h =>
          apply Ev.callG gl_hls isd_28 (by walk_at "eok") (by walk_at "rf") (he := by walk_at "rf") (hd := by decide)
          case ho => exact hls_contract hok (Room.of_le hA' (by decide))
          case ha => exact EvL.cons (Ev.binop (by walk_at "subk") Ev.int (by walk_at "opi")) (EvL.cons (Ev.binop (by walk_at "subk") Ev.int (by walk_at "opi")) (EvL.cons (Ev.binop (by walk_at "subk") Ev.int (by walk_at "opi")) EvL.nil (by walk_at "rf")) (by walk_at "rf")) (by walk_at "rf")
        case hA => exact hH
        case hxl => rfl
        case he => exact ⟨[_, _, _], rfl, rfl⟩
        case hx =>
          intro x hx
          rcases List.mem_cons.mp hx with rfl | hx
          · exact .inl (by walk_at "rf")
          rcases List.mem_cons.mp hx with rfl | hx
          · exact .inl (by walk_at "rf")
          · rw [List.mem_singleton] at hx; subst hx
            exact .inl (by walk_at "rf")
        all_goals walk_at "rf"
    generalize (hlsV (quot a 16) (quot b 16) (quot c 16)).fst = hue at *
    generalize (hlsV (quot a 16) (quot b 16) (quot c 16)).snd.fst = level at *
    generalize (hlsV (quot a 16) (quot b 16) (quot c 16)).snd.snd = share at *
    cases hlev : feqB level (quot (H + Lo) 32)
    · rw [hlev] at hp
      exact absurd hp (by simp)
    rw [hlev] at hp
    simp only [Bool.not_true, cond_false] at hp
    apply Ex.cons
    · refine ExS.ifF (EvT.eq (b := !(feqB level (quot (H + Lo) 32))) ?_ (by rw [hlev]; rfl)) Ex.nil
      exact EvT.cmp1 (by walk_at "name") (Ev.ifexp (c := true) (EvT.value (by walk_at "name")) (fun _ => by walk_at "ev") (fun h => by cases h)) Op2.fne (by walk_at "rf")
    cases hw : (H - Lo == 0)
    case true =>
      rw [hw] at hp
      simp only [cond_true] at hp
      cases h1 : feqB hue 0
      · rw [h1] at hp; exact absurd hp (by simp)
      cases h2 : feqB share 0
      · rw [h1, h2] at hp; exact absurd hp (by simp)
      rw [h1, h2] at hp
      simp only [Bool.and_self, cond_true, Option.some.injEq] at hp
      subst hp
      apply Ex.ret
      apply ExS.ifT
      · refine EvT.eq (b := (H - Lo == 0)) ?_ hw
        walk_at "evt"
      · apply Ex.ret
        apply ExS.ret
        apply Ev.ifexp (c := (feqB hue 0 && (feqB share 0 && true)))
        · apply EvT.boolop
          refine AllT.and_cons (by walk_at "evt") fun _ => AllT.and_cons (by walk_at "evt") fun _ => AllT.and_nil
        · intro _; exact Ev.int
        · intro h; rw [h1, h2] at h; cases h
    rw [hw] at hp
    simp only [cond_false] at hp
    have hW : H - Lo ≠ 0 := by simpa using hw
    apply Ex.cons
    · refine ExS.ifF (EvT.eq (b := (H - Lo == 0)) ?_ hw) Ex.nil
      walk_at "evt"
    generalize hWe : H - Lo = W at *
    cases hdec : Float64.decode (Float64.add (Float64.mul (Float64.mul hue (Float64.ofInt 6)) (Float64.ofInt W)) f05) with
    | nan => rw [hdec] at hp; exact absurd hp (by simp)
    | inf _ => rw [hdec] at hp; exact absurd hp (by simp)
    | fin sg mm e =>
    rw [hdec] at hp
    simp only at hp
    apply Ex.cons
    · apply ExS.assign (hx := .inr ⟨by walk_at "rf", by walk_at "rf"⟩) (hk := by walk_at "rf") (hs := by walk_at "rf")
      apply Ev.callT gl_int (by walk_at "eok") (by walk_at "rf") (he := by walk_at "rf") (hplain := by walk_at "rf") (hd := by decide)
      case ha => exact EvL.cons (by walk_at "ev") EvL.nil (by walk_at "rf")
      case ho => exact OpL.intFlt hdec
    generalize Float64.truncOf sg mm e = P at *
    have hWb : 0 ≤ W ∧ W ≤ 16 := by omega
    rw [Bool.cond_eq_ite] at hp
    split at hp
    case isFalse => cases hp
    rename_i hc1
    simp only [Bool.and_eq_true, decide_eq_true_eq] at hc1
    obtain ⟨⟨⟨q1, q2⟩, q3⟩, q4, q5⟩ := hc1
    rw [Bool.cond_eq_ite] at hp
    split at hp
    case isFalse => cases hp
    rename_i hc2
    rw [Option.some.injEq] at hp
    subst hp
    rw [Bool.and_eq_true] at hc2
    -- ways
    apply Ex.cons
    · apply ExS.assignComp1 (l := List.range 3) (f := fun k => .int (0 + (k : Nat))) (g := fun k => .int (wayN P W k)) (m₀ := [("place", .int P), ("wide", .int W)])
      case hA => exact hH
      case hclos => walk_at "rf"
      case hm₀ => exact Sees.cons (by walk_at "rf") (by walk_at "cf") (by walk_at "nl") (by walk_at "rf") (Sees.cons (by walk_at "rf") (by walk_at "cf") (by walk_at "nl") (by walk_at "rf") Sees.nil)
      case hit => exact Ev.callT gl_range (by walk_at "eok") (by walk_at "rf") (EvL.cons Ev.int EvL.nil (by walk_at "rf")) OpL.range1 (by walk_at "rf") (by walk_at "rf") (by decide)
      case hI => exact Iter.range hH (by decide) (small_range (by decide) (by decide) (by decide) (by decide))
      case hsz => exact le_size (by decide)
      case h =>
        intro C k _
        exact Ev.bcallB gl_abs (by walk_at "eok") (by walk_at "rf") (Ev.binop (by walk_at "name") (Ev.binop (Ev.binop Ev.int (by walk_at "name") (Op2.imulS (by decide))) (by walk_at "name") (Op2.imulrS (by omega))) Op2.isub) OpL.absN (by walk_at "rf") (by decide)
      all_goals first | walk_at "rf" | decide | (intro _; walk_at "rf")
    -- falls
    apply Ex.cons
    · apply ExS.assignComp1 (l := List.range 3) (f := fun k => .int (wayN P W k)) (g := fun k => .int (fallN P W k)) (m₀ := [("wide", .int W)])
      case hA => exact hH
      case hclos => walk_at "rf"
      case hm₀ => exact Sees.cons (by walk_at "rf") (by walk_at "cf") (by walk_at "nl") (by walk_at "rf") Sees.nil
      case hit => walk_at "name"
      case hI => exact Iter.list hH
      case hsz => exact le_size (by decide)
      case h =>
        intro C k _
        walk_at "ev"
      all_goals first | walk_at "rf" | decide | (intro _; walk_at "rf")
    have hns : ((List.range 3).map fun k : Nat => H - fallN P W k) = [a, b, c] := by
      have w0 : wayN P W 0 = ((P - 2 * 0 * W).natAbs : Nat) := rfl
      have w1 : wayN P W 1 = ((P - 2 * 1 * W).natAbs : Nat) := rfl
      have w2 : wayN P W 2 = ((P - 2 * 2 * W).natAbs : Nat) := rfl
      show [H - fallN P W 0, H - fallN P W 1, H - fallN P W 2] = [a, b, c]
      unfold fallN
      rw [w0, w1, w2]
      rw [minmax hWb.1, minmax hWb.1, minmax hWb.1, q1, q2, q3]
    -- the test
    apply Ex.cons
    · refine ExS.ifF (EvT.eq (b := (!decide (((List.range 3).map fun k : Nat => H - fallN P W k) = [a, b, c])) || ((!(decide (0 ≤ P) && decide (P < 6 * W))) || false)) ?_ ?_) Ex.nil
      · apply EvT.boolop
        refine AllT.or_cons ?_ fun _ => AllT.or_cons ?_ fun _ => AllT.or_nil
        · apply EvT.cmp1 (hm := by walk_at "rf")
          case hl =>
            apply Ev.comp1 (l := List.range 3) (f := fun k => .int (fallN P W k)) (g := fun k => .int (H - fallN P W k)) (m₀ := [("high", .int H)])
            case hA => exact hH
            case hclos => walk_at "rf"
            case hm₀ => exact Sees.cons (by walk_at "rf") (by walk_at "cf") (by walk_at "nl") (by walk_at "rf") Sees.nil
            case hit => walk_at "name"
            case hI => exact Iter.list hH
            case hsz => exact le_size (by decide)
            case h =>
              intro C k _
              walk_at "ev"
            all_goals first | walk_at "rf" | decide | (intro _; walk_at "rf")
          case hr => walk_at "name"
          case ho => exact Op2.neInts (ns := (List.range 3).map fun k : Nat => H - fallN P W k) (ms := [a, b, c]) (by have := hA'.units; omega)
        · apply EvT.not
          exact EvT.chain2 Ev.int (by walk_at "name") Op2.ile (fun _ => by walk_at "ev") (fun _ => Op2.ilt) (by walk_at "rf")
      · rw [hns, decide_eq_true q4, decide_eq_true q5]; simp
    have hF : min (H + Lo) (32 - H - Lo) ≠ 0 := by omega
    walk_at "asg0"
    · exact Ev.ifexp (c := true) (d := .int (min (H + Lo) (32 - H - Lo))) (EvT.value (by walk_at "name")) (fun _ => by walk_at "ev") (fun h => by cases h)
    apply Ex.ret
    apply ExS.ret
    apply Ev.ifexp (c := feqB share (quot W (min (H + Lo) (32 - H - Lo))) && (fltB (Float64.mul (Float64.abs (Float64.sub (Float64.mul (Float64.mul hue (Float64.ofInt 6)) (Float64.ofInt W)) (Float64.ofInt P))) (Float64.ofInt (2 ^ 30))) 1 && true))
    · apply EvT.boolop
      refine AllT.and_cons ?_ fun _ => AllT.and_cons ?_ fun _ => AllT.and_nil
      · walk_at "evt"
      · exact EvT.cmp1 (Ev.binop (Ev.bcallB gl_abs (by walk_at "eok") (by walk_at "rf") (by walk_at "ev") OpL.absFlt (by walk_at "rf") (by decide)) (Ev.eq (Ev.binop Ev.int Ev.int (Op2.ipow (by decide) (by decide) (by decide))) (by rfl)) (Op2.fimulS (by decide))) Ev.int Op2.filt (by walk_at "rf")
    · intro _; walk_at "name"
    · intro h; rw [hc2.1, hc2.2] at h; cases h
  case hbind => walk_at "bind2"
  case hnd => decide
  case hlen => rfl
  case hnc => decide
  all_goals rfl
theorem place_dark {a b c p : Int} (ha : 0 ≤ a ∧ a ≤ 16) (hb : 0 ≤ b ∧ b ≤ 16) (hc : 0 ≤ c ∧ c ≤ 16) (hok : okPlace a b c false = true) (hp : placeOf a b c false = some p) (hA : Room A 6) :
    OpL w mg mb A (fun vs => call (.ref 151) vs) [.list [.int a, .int b, .int c], .bool false] (.int p) := by
  apply Contract.cells (f := 151) (ps := ["parts", "light"]) (n := 5) (hA := hA)
  case df => walk_at "def"
  case hbody =>
    intro A' L cdv hA'
    have hH := hA'.handled
    unfold okPlace at hok
    unfold placeOf at hp
    simp only [cond_false] at hok hp
    have hM1 : max a (max b c) ∈ [a, b, c] := by simp only [List.mem_cons, List.not_mem_nil, or_false]; omega
    have hM2 : ∀ x ∈ [a, b, c], x ≤ max a (max b c) := by simp only [List.mem_cons, List.not_mem_nil, or_false]; rintro x (rfl | rfl | rfl) <;> omega
    have hm1 : min a (min b c) ∈ [a, b, c] := by simp only [List.mem_cons, List.not_mem_nil, or_false]; omega
    have hm2 : ∀ x ∈ [a, b, c], min a (min b c) ≤ x := by simp only [List.mem_cons, List.not_mem_nil, or_false]; rintro x (rfl | rfl | rfl) <;> omega
    have hHb : max a (max b c) ≤ 16 := by omega
    have hLb : 0 ≤ min a (min b c) := by omega
    have hHL : min a (min b c) ≤ max a (max b c) := by omega
    generalize max a (max b c) = H at *
    generalize min a (min b c) = Lo at *
    apply Ex.cons
    · apply ExS.assignTup (xs := ["high", "low"])
      case h =>
        exact Ev.tup (EvL.cons (Ev.bcallB gl_max (by walk_at "eok") (by walk_at "rf") (by walk_at "name") (OpL.maxList (ns := [a, b, c]) hH hM1 hM2) (by walk_at "rf") (by decide))
          (EvL.cons (Ev.bcallB gl_min (by walk_at "eok") (by walk_at "rf") (by walk_at "name") (OpL.minList (ns := [a, b, c]) hH hm1 hm2) (by walk_at "rf") (by decide)) EvL.nil (by walk_at "rf")) (by walk_at "rf")) (le_size (Nat.le_of_ble_eq_true rfl))
      case hA => exact hH
      case hxl => rfl
      case he => exact ⟨[_, _], rfl, rfl⟩
      case hx =>
        intro x hx
        rcases List.mem_cons.mp hx with rfl | hx
        · exact .inr ⟨by walk_at "rf", by walk_at "rf"⟩
        · rw [List.mem_singleton] at hx; subst hx
          exact .inl (by walk_at "rf")
      all_goals walk_at "rf"
    apply Ex.cons
    · apply ExS.assign (hx := .inr ⟨by walk_at "rf", by walk_at "rf"⟩) (hk := by walk_at "rf") (hs := by walk_at "rf")
      walk_at "ev"
    apply Ex.cons
    · apply ExS.ifF
      · exact EvT.value (by walk_at "name")
      · apply Ex.one
        apply ExS.assignTup (xs := ["hue", "share", "level"])
        case h =>
          apply Ev.callG gl_hsv isd_35 (by walk_at "eok") (by walk_at "rf") (he := by walk_at "rf") (hd := by decide)
          case ho => exact hsv_contract hok (Room.of_le hA' (by decide))
          case ha => exact EvL.cons (Ev.binop (by walk_at "subk") Ev.int (by walk_at "opi")) (EvL.cons (Ev.binop (by walk_at "subk") Ev.int (by walk_at "opi")) (EvL.cons (Ev.binop (by walk_at "subk") Ev.int (by walk_at "opi")) EvL.nil (by walk_at "rf")) (by walk_at "rf")) (by walk_at "rf")
        case hA => exact hH
        case hxl => rfl
        case he => exact ⟨[_, _, _], rfl, rfl⟩
        case hx =>
          intro x hx
          rcases List.mem_cons.mp hx with rfl | hx
          · exact .inl (by walk_at "rf")
          rcases List.mem_cons.mp hx with rfl | hx
          · exact .inl (by walk_at "rf")
          · rw [List.mem_singleton] at hx; subst hx
            exact .inl (by walk_at "rf")
        all_goals walk_at "rf"
    generalize (hsvV (quot a 16) (quot b 16) (quot c 16)).fst = hue at *
    generalize (hsvV (quot a 16) (quot b 16) (quot c 16)).snd.snd = level at *
    generalize (hsvV (quot a 16) (quot b 16) (quot c 16)).snd.fst = share at *
    cases hlev : feqB level (quot H 16)
    · rw [hlev] at hp
      exact absurd hp (by simp)
    rw [hlev] at hp
    simp only [Bool.not_true, cond_false] at hp
    apply Ex.cons
    · refine ExS.ifF (EvT.eq (b := !(feqB level (quot H 16))) ?_ (by rw [hlev]; rfl)) Ex.nil
      exact EvT.cmp1 (by walk_at "name") (Ev.ifexp (c := false) (EvT.value (by walk_at "name")) (fun h => by cases h) (fun _ => by walk_at "ev")) Op2.fne (by walk_at "rf")
    cases hw : (H - Lo == 0)
    case true =>
      rw [hw] at hp
      simp only [cond_true] at hp
      cases h1 : feqB hue 0
      · rw [h1] at hp; exact absurd hp (by simp)
      cases h2 : feqB share 0
      · rw [h1, h2] at hp; exact absurd hp (by simp)
      rw [h1, h2] at hp
      simp only [Bool.and_self, cond_true, Option.some.injEq] at hp
      subst hp
      apply Ex.ret
      apply ExS.ifT
      · refine EvT.eq (b := (H - Lo == 0)) ?_ hw
        walk_at "evt"
      · apply Ex.ret
        apply ExS.ret
        apply Ev.ifexp (c := (feqB hue 0 && (feqB share 0 && true)))
        · apply EvT.boolop
          refine AllT.and_cons (by walk_at "evt") fun _ => AllT.and_cons (by walk_at "evt") fun _ => AllT.and_nil
        · intro _; exact Ev.int
        · intro h; rw [h1, h2] at h; cases h
    rw [hw] at hp
    simp only [cond_false] at hp
    have hW : H - Lo ≠ 0 := by simpa using hw
    apply Ex.cons
    · refine ExS.ifF (EvT.eq (b := (H - Lo == 0)) ?_ hw) Ex.nil
      walk_at "evt"
    generalize hWe : H - Lo = W at *
    cases hdec : Float64.decode (Float64.add (Float64.mul (Float64.mul hue (Float64.ofInt 6)) (Float64.ofInt W)) f05) with
    | nan => rw [hdec] at hp; exact absurd hp (by simp)
    | inf _ => rw [hdec] at hp; exact absurd hp (by simp)
    | fin sg mm e =>
    rw [hdec] at hp
    simp only at hp
    apply Ex.cons
    · apply ExS.assign (hx := .inr ⟨by walk_at "rf", by walk_at "rf"⟩) (hk := by walk_at "rf") (hs := by walk_at "rf")
      apply Ev.callT gl_int (by walk_at "eok") (by walk_at "rf") (he := by walk_at "rf") (hplain := by walk_at "rf") (hd := by decide)
      case ha => exact EvL.cons (by walk_at "ev") EvL.nil (by walk_at "rf")
      case ho => exact OpL.intFlt hdec
    generalize Float64.truncOf sg mm e = P at *
    have hWb : 0 ≤ W ∧ W ≤ 16 := by omega
    rw [Bool.cond_eq_ite] at hp
    split at hp
    case isFalse => cases hp
    rename_i hc1
    simp only [Bool.and_eq_true, decide_eq_true_eq] at hc1
    obtain ⟨⟨⟨q1, q2⟩, q3⟩, q4, q5⟩ := hc1
    rw [Bool.cond_eq_ite] at hp
    split at hp
    case isFalse => cases hp
    rename_i hc2
    rw [Option.some.injEq] at hp
    subst hp
    rw [Bool.and_eq_true] at hc2
    -- ways
    apply Ex.cons
    · apply ExS.assignComp1 (l := List.range 3) (f := fun k => .int (0 + (k : Nat))) (g := fun k => .int (wayN P W k)) (m₀ := [("place", .int P), ("wide", .int W)])
      case hA => exact hH
      case hclos => walk_at "rf"
      case hm₀ => exact Sees.cons (by walk_at "rf") (by walk_at "cf") (by walk_at "nl") (by walk_at "rf") (Sees.cons (by walk_at "rf") (by walk_at "cf") (by walk_at "nl") (by walk_at "rf") Sees.nil)
      case hit => exact Ev.callT gl_range (by walk_at "eok") (by walk_at "rf") (EvL.cons Ev.int EvL.nil (by walk_at "rf")) OpL.range1 (by walk_at "rf") (by walk_at "rf") (by decide)
      case hI => exact Iter.range hH (by decide) (small_range (by decide) (by decide) (by decide) (by decide))
      case hsz => exact le_size (by decide)
      case h =>
        intro C k _
        exact Ev.bcallB gl_abs (by walk_at "eok") (by walk_at "rf") (Ev.binop (by walk_at "name") (Ev.binop (Ev.binop Ev.int (by walk_at "name") (Op2.imulS (by decide))) (by walk_at "name") (Op2.imulrS (by omega))) Op2.isub) OpL.absN (by walk_at "rf") (by decide)
      all_goals first | walk_at "rf" | decide | (intro _; walk_at "rf")
    -- falls
    apply Ex.cons
    · apply ExS.assignComp1 (l := List.range 3) (f := fun k => .int (wayN P W k)) (g := fun k => .int (fallN P W k)) (m₀ := [("wide", .int W)])
      case hA => exact hH
      case hclos => walk_at "rf"
      case hm₀ => exact Sees.cons (by walk_at "rf") (by walk_at "cf") (by walk_at "nl") (by walk_at "rf") Sees.nil
      case hit => walk_at "name"
      case hI => exact Iter.list hH
      case hsz => exact le_size (by decide)
      case h =>
        intro C k _
        walk_at "ev"
      all_goals first | walk_at "rf" | decide | (intro _; walk_at "rf")
    have hns : ((List.range 3).map fun k : Nat => H - fallN P W k) = [a, b, c] := by
      have w0 : wayN P W 0 = ((P - 2 * 0 * W).natAbs : Nat) := rfl
      have w1 : wayN P W 1 = ((P - 2 * 1 * W).natAbs : Nat) := rfl
      have w2 : wayN P W 2 = ((P - 2 * 2 * W).natAbs : Nat) := rfl
      show [H - fallN P W 0, H - fallN P W 1, H - fallN P W 2] = [a, b, c]
      unfold fallN
      rw [w0, w1, w2]
      rw [minmax hWb.1, minmax hWb.1, minmax hWb.1, q1, q2, q3]
    -- the test
    apply Ex.cons
    · refine ExS.ifF (EvT.eq (b := (!decide (((List.range 3).map fun k : Nat => H - fallN P W k) = [a, b, c])) || ((!(decide (0 ≤ P) && decide (P < 6 * W))) || false)) ?_ ?_) Ex.nil
      · apply EvT.boolop
        refine AllT.or_cons ?_ fun _ => AllT.or_cons ?_ fun _ => AllT.or_nil
        · apply EvT.cmp1 (hm := by walk_at "rf")
          case hl =>
            apply Ev.comp1 (l := List.range 3) (f := fun k => .int (fallN P W k)) (g := fun k => .int (H - fallN P W k)) (m₀ := [("high", .int H)])
            case hA => exact hH
            case hclos => walk_at "rf"
            case hm₀ => exact Sees.cons (by walk_at "rf") (by walk_at "cf") (by walk_at "nl") (by walk_at "rf") Sees.nil
            case hit => walk_at "name"
            case hI => exact Iter.list hH
            case hsz => exact le_size (by decide)
            case h =>
              intro C k _
              walk_at "ev"
            all_goals first | walk_at "rf" | decide | (intro _; walk_at "rf")
          case hr => walk_at "name"
          case ho => exact Op2.neInts (ns := (List.range 3).map fun k : Nat => H - fallN P W k) (ms := [a, b, c]) (by have := hA'.units; omega)
        · apply EvT.not
          exact EvT.chain2 Ev.int (by walk_at "name") Op2.ile (fun _ => by walk_at "ev") (fun _ => Op2.ilt) (by walk_at "rf")
      · rw [hns, decide_eq_true q4, decide_eq_true q5]; simp
    have hF : H ≠ 0 := by omega
    walk_at "asg0"
    · exact Ev.ifexp (c := false) (d := .int H) (EvT.value (by walk_at "name")) (fun h => by cases h) (fun _ => by walk_at "ev")
    apply Ex.ret
    apply ExS.ret
    apply Ev.ifexp (c := feqB share (quot W (H)) && (fltB (Float64.mul (Float64.abs (Float64.sub (Float64.mul (Float64.mul hue (Float64.ofInt 6)) (Float64.ofInt W)) (Float64.ofInt P))) (Float64.ofInt (2 ^ 30))) 1 && true))
    · apply EvT.boolop
      refine AllT.and_cons ?_ fun _ => AllT.and_cons ?_ fun _ => AllT.and_nil
      · walk_at "evt"
      · exact EvT.cmp1 (Ev.binop (Ev.bcallB gl_abs (by walk_at "eok") (by walk_at "rf") (by walk_at "ev") OpL.absFlt (by walk_at "rf") (by decide)) (Ev.eq (Ev.binop Ev.int Ev.int (Op2.ipow (by decide) (by decide) (by decide))) (by rfl)) (Op2.fimulS (by decide))) Ev.int Op2.filt (by walk_at "rf")
    · intro _; walk_at "name"
    · intro h; rw [hc2.1, hc2.2] at h; cases h
  case hbind => walk_at "bind2"
  case hnd => decide
  case hlen => rfl
  case hnc => decide
  all_goals rfl

theorem place_contract {a b c p : Int} {light : Bool} (ha : 0 ≤ a ∧ a ≤ 16) (hb : 0 ≤ b ∧ b ≤ 16) (hc : 0 ≤ c ∧ c ≤ 16) (hok : okPlace a b c light = true) (hp : placeOf a b c light = some p) (hA : Room A 6) :
    OpL w mg mb A (fun vs => call (.ref 151) vs) [.list [.int a, .int b, .int c], .bool light] (.int p) := by
  cases light
  · exact place_dark ha hb hc hok hp hA
  · exact place_light ha hb hc hok hp hA
end

end

section
open PySem PySem.Spec PySem.Calls PySem.W PyProof.Rows
set_option maxRecDepth 100000
set_option linter.all false
set_option maxHeartbeats 4000000
section
variable {w : World} {mg mb : PySem.Str → Option Value} {A : Around} {env : Env} {m : Vars}
def lastN (way : List Nat) : Nat := way.getLast?.getD 0
def waysAt : Nat → List (List Nat)
  | 0 => [[0]]
  | n + 1 => (waysAt n).flatMap fun way => (List.range 4).flatMap fun j => bif lastN way / 2 ^ j % 2 == 0 then [way ++ [lastN way + 2 ^ j]] else []
abbrev natsD (l : List Nat) : D := .list (l.map fun n : Nat => D.int (n : Int))
theorem ways_facts : ∀ i, i < 4 → ∀ way ∈ waysAt i, way.length = i + 1 ∧ way[i]? = some (lastN way) ∧ lastN way < 16 ∧ i < 10 := by decide
theorem ways_len : ∀ i, i < 5 → (waysAt i).length ≤ 64 := by decide
theorem Ev.lastOf {e pos k} {way : List Nat} {i : Nat} {k1 p1 p2} (h : Ev w mg mb A env m e (natsD way)) (h1 : way.length = i + 1) (h2 : way[i]? = some (lastN way)) (hk : k = 1) :
    Ev w mg mb A env m (.Subscript e (.UnaryOp .USub (.Constant (.int k) k1 p1) p2) pos) (.int (lastN way : Nat)) := by
  subst hk
  refine Ev.subNeg h (Ev.neg Ev.int) (by decide) ?_ ?_ (by intro _ _; rfl) (by decide)
  · rw [List.length_map, h1]; omega
  · rw [List.length_map, h1, show (-1 + ((i + 1 : Nat) : Int)).toNat = i by omega, List.getElem?_map, h2]; rfl

theorem ways_contract (hA : Room A 1) : OpL w mg mb A (fun vs => call (.ref 161) vs) [] (.list ((waysAt 4).map natsD)) := by
  apply Contract.plain (f := 161) (ps := []) (n := 0) (hA := hA)
  case df => walk_at "def"
  case hbody =>
    intro A' L cdv hA'
    have hH := hA'.handled
    walk_at "asg"
    apply Ex.cons
    · apply ExS.for (x := "step") (src := .range 0 4) (ds := (List.range 4).map fun i : Nat => D.int (0 + i)) (ms := fun i => [("ways", .list ((waysAt i).map natsD))]) (k := 4) (o := .next [("ways", .list ((waysAt 4).map natsD))])
      case hA => exact hH
      case hit => exact Ev.callT gl_range (by walk_at "eok") (by walk_at "rf") (EvL.cons Ev.int EvL.nil (by walk_at "rf")) OpL.range1 (by walk_at "rf") (by walk_at "rf") (by decide)
      case hI => exact Iter.range hH (by decide) (small_range (by decide) (by decide) (by decide) (by decide))
      case hx => exact .inl (by walk_at "rf")
      case hkd => walk_at "rf"
      case hm => exact LSub.cons (by walk_at "rf") LSub.nil
      case hk => decide
      case hend => exact .inl ⟨by rfl, rfl⟩
      case hbody =>
        intro i d hi hd
        have hf := ways_facts i hi
        apply Ex.one
        apply ExS.post
        case h =>
          apply ExS.assignComp2 (l := waysAt i) (f := natsD) (p := fun _ => true) (src2 := fun _ => .range 0 4) (l2 := fun _ => List.range 4) (f2 := fun _ (j : Nat) => .int (0 + j)) (p2 := fun way j => lastN way / 2 ^ j % 2 == 0)
            (g := fun way j => natsD (way ++ [lastN way + 2 ^ j])) (gs := (waysAt (i + 1)).map natsD) (m₀ := [])
          case hgs =>
            show _ = ((waysAt i).flatMap _).map natsD
            rw [List.map_flatMap]
            congr 1; funext way
            rw [cond_true, List.map_flatMap]
            congr 1; funext j
            cases (lastN way / 2 ^ j % 2 == 0) <;> rfl
          case hA => exact hH
          case hclos => walk_at "rf"
          case hm₀ => exact Sees.nil
          case hit => walk_at "name"
          case hI => exact Iter.list hH
          case hsz => rw [List.length_map]; apply le_size; exact ways_len (i + 1) (by omega)
          case h1 => intro C a ha; exact .inl ⟨rfl, rfl⟩
          case h2 =>
            intro C a ha _
            exact ⟨Ev.callT gl_range (by walk_at "eok") (by walk_at "rf") (EvL.cons Ev.int EvL.nil (by walk_at "rf")) OpL.range1 (by walk_at "rf") (by walk_at "rf") (by decide), Iter.range hH (by decide) (small_range (by decide) (by decide) (by decide) (by decide))⟩
          case h3 =>
            intro C a ha _ j hj
            have hj4 := List.mem_range.mp hj
            have hp : (2 ^ j).log2 < 9000 ∧ 2 ^ j ≠ 0 := by
              rcases (by omega : j = 0 ∨ j = 1 ∨ j = 2 ∨ j = 3) with rfl | rfl | rfl | rfl <;> decide
            refine .inr ⟨_, rfl, EvT.eq (EvT.cmp1 (Ev.binop (Ev.binop (Ev.lastOf (by walk_at "name") (hf a ha).1 (hf a ha).2.1 rfl) (Ev.binop Ev.int (by walk_at "name") (Op2.ipowN (a := 2) j (by omega) (by omega) (by decide))) (Op2.idivN (2 ^ j) rfl hp.2 hp.1)) Ev.int (Op2.imodN 2 rfl (by decide))) Ev.int Op2.ieq (by walk_at "rf")) ?_⟩
            rw [Bool.eq_iff_iff, beq_iff_eq, beq_iff_eq]; omega
          case h4 =>
            intro C a ha _ j hj _
            have hj4 := List.mem_range.mp hj
            refine Ev.eq (Ev.binop (by walk_at "name") (Ev.list (EvL.cons (Ev.binop (Ev.lastOf (by walk_at "name") (hf a ha).1 (hf a ha).2.1 rfl) (Ev.binop Ev.int (by walk_at "name") (Op2.ipowN (a := 2) j (by omega) (by omega) (by decide))) Op2.iadd) EvL.nil (by walk_at "rf")) (le_size (Nat.le_of_ble_eq_true rfl))) (Op2.listAdd ?_)) ?_
            · rw [List.length_map, (hf a ha).1]; apply le_size; show i + 1 + 1 ≤ 64; omega
            · unfold natsD; rw [List.map_append]; rfl
          all_goals first | walk_at "rf" | decide | (intro _; walk_at "rf") | (intro _ _; walk_at "rf")
        case hm => exact LSub.cons (by walk_at "rf") LSub.nil
    exact Ex.ret (ExS.ret (by walk_at "name"))
  case hbind => walk_at "bind0"
  case hnd => decide
  case hlen => rfl
  case hcell => decide
  case hloc => decide
  all_goals rfl
end

end

section
open PySem PySem.Spec PySem.Calls PySem.W PyProof.Rows
set_option maxRecDepth 100000
set_option linter.all false

/-- a thing that this frame alone holds, and may change -/
inductive Ow where
  | lst (a : Addr) (l : List D)
  | inst (x dx C : Addr) (l : List (PySem.Str × D))
def Ow.ads : Ow → List Addr
  | .lst a _ => [a]
  | .inst x dx _ _ => [x, dx]
def InstLen (h : Heap) (dx : Addr) (k : Nat) : Prop := ∃ es n, h.get? dx = some (dictOf es n) ∧ es.length ≤ k
def Ow.Holds (w : World) (Z : Addr → Prop) (h : Heap) : Ow → Prop
  | .lst a l => ∃ vs : List Value, h.PlainList a vs.toArray ∧ RepL w Z h vs l
  | .inst x dx C l => ∃ mm, InstNs h x C mm dx ∧ RepF w Z h mm l ∧ InstLen h dx l.length ∧ Only mm (l.map (·.1))
theorem InstNs.kp {W : Addr → Prop} {h h' : Heap} {x C m dx} (i : InstNs h x C m dx) (k : Kp W h h') (hx : ¬ W x) (hd : ¬ W dx) : InstNs h' x C m dx :=
  let ⟨p, es, n, q, r⟩ := i
  ⟨k _ _ hx p, es, n, k _ _ hd q, r⟩
theorem Ow.Holds.kp {w : World} {Z W : Addr → Prop} {h h' : Heap} (k : Kp W h h') (hs : ∀ a, W a → Z a) : ∀ {o : Ow}, (∀ a ∈ o.ads, ¬ W a) → o.Holds w Z h → o.Holds w Z h'
  | .lst a l, hd, ⟨vs, p, r⟩ => ⟨vs, p.kp k (hd a (.head _)), RepL.kp k hs _ _ r⟩
  | .inst x dx C l, hd, ⟨mm, p, r, ⟨es, n, q, q2⟩, on⟩ => ⟨mm, p.kp k (hd x (.head _)) (hd dx (.tail _ (.head _))), RepF.kp k hs _ _ r, ⟨es, n, k _ _ (hd dx (.tail _ (.head _))) q, q2⟩, on⟩
theorem Ow.Holds.zz {w : World} {Z Z' : Addr → Prop} {h : Heap} (hs : ∀ a o, h.get? a = some o → Z' a → Z a) : ∀ {o : Ow}, o.Holds w Z h → o.Holds w Z' h
  | .lst a l, ⟨vs, p, r⟩ => ⟨vs, p, RepL.zz hs _ _ r⟩
  | .inst x dx C l, ⟨mm, p, r, q⟩ => ⟨mm, p, RepF.zz hs _ _ r, q⟩
theorem Ow.Holds.there {w : World} {Z : Addr → Prop} {h : Heap} : ∀ {o : Ow}, o.Holds w Z h → ∀ a ∈ o.ads, ∃ ob, h.get? a = some ob
  | .lst a l, ⟨vs, ⟨n, p⟩, r⟩, b, hb => by
    simp only [Ow.ads, List.mem_singleton] at hb; subst hb; exact ⟨_, p⟩
  | .inst x dx C l, ⟨mm, ⟨p, es, n, q, _⟩, r⟩, b, hb => by
    simp only [Ow.ads, List.mem_cons, List.not_mem_nil, or_false] at hb
    rcases hb with rfl | rfl
    · exact ⟨_, p⟩
    · exact ⟨_, q⟩

structure Gs (w : World) (mg mb : PySem.Str → Option Value) (h₀ : Heap) (Z F : Addr → Prop) (env : Env) (m : Vars) (os : List Ow) (h : Heap) : Prop where
  fs : Fs w mg mb h₀ Z env m h
  fz : ∀ a, F a → Z a ∧ ¬ Own env a ∧ h₀.get? a = none
  ow : ∀ o ∈ os, o.Holds w Z h ∧ ∀ a ∈ o.ads, Z a ∧ ¬ Own env a ∧ ¬ F a ∧ h₀.get? a = none
  nd : (os.flatMap Ow.ads).Nodup

def Zk (h₀ : Heap) (Z Z' : Addr → Prop) : Prop := ∀ a o, h₀.get? a = some o → Z a → Z' a
theorem Zk.refl {h₀ Z} : Zk h₀ Z Z := fun _ _ _ z => z
theorem Zk.trans {h₀ Z Z' Z''} (a : Zk h₀ Z Z') (b : Zk h₀ Z' Z'') : Zk h₀ Z Z'' := fun x o e z => b x o e (a x o e z)
/-- what a statement may change -/
abbrev Fr0 (h₀ : Heap) (F : Addr → Prop) : Addr → Prop := fun a => ¬ F a ∧ h₀.get? a = none

inductive OutG where
  | next (P : Vars → List Ow → Prop) | brk (P : Vars → List Ow → Prop) | ret (d : D)

section
variable {w : World} {mg mb : PySem.Str → Option Value} {A : Around} {env : Env} {m : Vars} {h₀ : Heap} {Z F : Addr → Prop} {os : List Ow}

theorem Gs.ownMv {m' h h'} (g : Gs w mg mb h₀ Z F env m os h) (k : Kp (Own env) h h') (f : Fs w mg mb h₀ Z env m' h') : Gs w mg mb h₀ Z F env m' os h' where
  fs := f
  fz := g.fz
  ow := fun o ho => ⟨(g.ow o ho).1.kp k (fun a z => (g.fs.own a z).1) fun a ha => ((g.ow o ho).2 a ha).2.1, (g.ow o ho).2⟩
  nd := g.nd
theorem Gs.keeps {h h'} (g : Gs w mg mb h₀ Z F env m os h) (k : ∀ b o, h.get? b = some o → h'.get? b = some o) : Gs w mg mb h₀ Z F env m os h' :=
  g.ownMv (fun b o _ e => k b o e) (g.fs.keeps k)
theorem Gs.weaken {m' h} (g : Gs w mg mb h₀ Z F env m os h) (hm : ∀ x d, m'.lookup x = some d → m.lookup x = some d) : Gs w mg mb h₀ Z F env m' os h := { g with fs := g.fs.weaken hm }
theorem Gs.other {W : Addr → Prop} {h h'} (g : Gs w mg mb h₀ Z F env m os h) (k : Kp W h h') (hw : ∀ a, W a → Z a) (hz : ∀ a, W a → ∃ o, h'.get? a = some o) (ho : ∀ a, W a → ¬ Own env a) (h0 : ∀ a, W a → h₀.get? a = none) (hd : ∀ o ∈ os, ∀ a ∈ o.ads, ¬ W a) : Gs w mg mb h₀ Z F env m os h' where
  fs := g.fs.other k hw hz ho h0
  fz := g.fz
  ow := fun o ho' => ⟨(g.ow o ho').1.kp k hw (hd o ho'), (g.ow o ho').2⟩
  nd := g.nd
theorem Own.fr0 {h} (g : Gs w mg mb h₀ Z F env m os h) : ∀ a, Own env a → Fr0 h₀ F a := fun a o => ⟨fun f => (g.fz a f).2.1 o, (g.fs.own a o).2⟩

def PostG (w : World) (mg mb : PySem.Str → Option Value) (h₀ : Heap) (Z F : Addr → Prop) (env : Env) : OutG → Flow → Shared → Prop
  | .next P, f, s => f = .next ∧ ∃ Z' m os, Zk h₀ Z Z' ∧ Gs w mg mb h₀ Z' F env m os s.heap ∧ P m os
  | .brk P, f, s => f = .brk ∧ ∃ Z' m os, Zk h₀ Z Z' ∧ Gs w mg mb h₀ Z' F env m os s.heap ∧ P m os
  | .ret d, f, s => ∃ v, f = .ret v ∧ ∃ Z', Zk h₀ Z Z' ∧ Rep w Z' s.heap v d ∧ ∃ m, Fs w mg mb h₀ Z' env m s.heap
theorem PostG.zk {Z'} (z : Zk h₀ Z Z') : ∀ {o : OutG} {f : Flow} {s : Shared}, PostG w mg mb h₀ Z' F env o f s → PostG w mg mb h₀ Z F env o f s
  | .next P, f, s, ⟨e, Z'', m, os, z', r⟩ => ⟨e, Z'', m, os, z.trans z', r⟩
  | .brk P, f, s, ⟨e, Z'', m, os, z', r⟩ => ⟨e, Z'', m, os, z.trans z', r⟩
  | .ret d, f, s, ⟨v, e, Z'', z', r⟩ => ⟨v, e, Z'', z.trans z', r⟩

structure GS (w : World) (mg mb : PySem.Str → Option Value) (A : Around) (env : Env) (m : Vars) (os : List Ow) (st : Stmt) (o : OutG) : Prop where
  run : ∀ (h₀ : Heap) (Z F : Addr → Prop) (s : Shared) (Q : Flow → Shared → Prop) (E : Value → Shared → Prop), 1 ≤ s.toks → Gs w mg mb h₀ Z F env m os s.heap →
    (∀ f s', Mv (Fr0 h₀ F) s s' → PostG w mg mb h₀ Z F env o f s' → Q f s') → wpAny (model prog w) A (exec st env) Q E s
structure GX (w : World) (mg mb : PySem.Str → Option Value) (A : Around) (env : Env) (m : Vars) (os : List Ow) (ss : List Stmt) (o : OutG) : Prop where
  run : ∀ (h₀ : Heap) (Z F : Addr → Prop) (s : Shared) (Q : Flow → Shared → Prop) (E : Value → Shared → Prop), 1 ≤ s.toks → Gs w mg mb h₀ Z F env m os s.heap →
    (∀ f s', Mv (Fr0 h₀ F) s s' → PostG w mg mb h₀ Z F env o f s' → Q f s') → wpAny (model prog w) A (execs ss env) Q E s

theorem GX.nil {P : Vars → List Ow → Prop} (hP : P m os) : GX w mg mb A env m os [] (.next P) := .mk fun h₀ Z F s Q E T g hQ =>
  wpAny_execs_nil (hQ _ _ (Mv.refl _ _ T) ⟨rfl, Z, m, os, Zk.refl, g, hP⟩)
theorem GX.cons {st ss P o} (h : GS w mg mb A env m os st (.next P)) (h' : ∀ m' os', P m' os' → GX w mg mb A env m' os' ss o) : GX w mg mb A env m os (st :: ss) o := .mk fun h₀ Z F s Q E T g hQ =>
  wpAny_execs_cons (h.run h₀ Z F s _ E T g fun f s' k p => by
    obtain ⟨rfl, Z', m', os', z, g', hp⟩ := p
    exact (h' m' os' hp).run h₀ Z' F s' _ E k.tok g' fun f s'' k' p' => hQ f s'' (k.trans k') (p'.zk z))
theorem GX.leave {st ss o} (h : GS w mg mb A env m os st o) (ho : ∀ P, o ≠ .next P) : GX w mg mb A env m os (st :: ss) o := .mk fun h₀ Z F s Q E T g hQ =>
  wpAny_execs_cons (h.run h₀ Z F s _ E T g fun f s' k p => by
    cases o with
    | next P => exact absurd rfl (ho P)
    | ret d => obtain ⟨v, rfl, r⟩ := p; exact hQ _ s' k ⟨v, rfl, r⟩
    | brk m' => obtain ⟨rfl, r⟩ := p; exact hQ _ s' k ⟨rfl, r⟩)
theorem GX.one {st o} (h : GS w mg mb A env m os st o) : GX w mg mb A env m os [st] o := by
  cases o with
  | next P => exact GX.cons h fun m' os' hp => GX.nil hp
  | ret d => exact GX.leave h fun _ e => by cases e
  | brk m' => exact GX.leave h fun _ e => by cases e
theorem GS.lift {st m' P} (h : ExS w mg mb A env m st (.next m')) (hP : P m' os) : GS w mg mb A env m os st (.next P) := .mk fun h₀ Z F s Q E T g hQ =>
  h.run h₀ Z s _ E T g.fs fun f s' k p => hQ f s' (k.mono (Own.fr0 g)) ⟨p.1, Z, m', os, Zk.refl, g.ownMv k.heap p.2, hP⟩
theorem GS.liftRet {st d} (h : ExS w mg mb A env m st (.ret d)) : GS w mg mb A env m os st (.ret d) := .mk fun h₀ Z F s Q E T g hQ =>
  h.run h₀ Z s _ E T g.fs fun f s' k p => by
    obtain ⟨v, e, r, m', f'⟩ := p
    exact hQ f s' (k.mono (Own.fr0 g)) ⟨v, e, Z, Zk.refl, r, m', f'⟩
theorem GS.mono {st} {P P' : Vars → List Ow → Prop} (h : GS w mg mb A env m os st (.next P)) (hp : ∀ m os, P m os → P' m os) : GS w mg mb A env m os st (.next P') := .mk fun h₀ Z F s Q E T g hQ =>
  h.run h₀ Z F s _ E T g fun f s' k p => by
    obtain ⟨e, Z', m', os', z, g', q⟩ := p
    exact hQ f s' k ⟨e, Z', m', os', z, g', hp _ _ q⟩

/-- owned things, read -/
def Vw (os : List Ow) (m vm : Vars) : Prop := ∀ x d, vm.lookup x = some d → (∃ a l, d = .list l ∧ Ow.lst a l ∈ os ∧ m.lookup x = some (.val (.ref a))) ∨ (∃ y dx C l, d = .obj C l ∧ Ow.inst y dx C l ∈ os ∧ m.lookup x = some (.val (.ref y)))
theorem Vw.nil : Vw os m [] := fun x d h => by cases h
theorem Vw.lst {x a l vm} (h : Ow.lst a l ∈ os) (hx : m.lookup x = some (.val (.ref a))) (v : Vw os m vm) : Vw os m ((x, .list l) :: vm) := fun y d hy => by
  by_cases q : y = x
  · subst q; rw [lookup_cons_eq] at hy; cases hy; exact .inl ⟨a, l, rfl, h, hx⟩
  · rw [lookup_cons_ne q] at hy; exact v y d hy
theorem Vw.inst {x y dx C l vm} (h : Ow.inst y dx C l ∈ os) (hx : m.lookup x = some (.val (.ref y))) (v : Vw os m vm) : Vw os m ((x, .obj C l) :: vm) := fun z d hy => by
  by_cases q : z = x
  · subst q; rw [lookup_cons_eq] at hy; cases hy; exact .inr ⟨y, dx, C, l, rfl, h, hx⟩
  · rw [lookup_cons_ne q] at hy; exact v z d hy
def Zv (os : List Ow) (Z : Addr → Prop) : Addr → Prop := fun a => Z a ∧ a ∉ os.flatMap Ow.ads
theorem mem_ads {o : Ow} {a : Addr} (h : o ∈ os) (ha : a ∈ o.ads) : a ∈ os.flatMap Ow.ads := List.mem_flatMap.mpr ⟨o, h, ha⟩
theorem Gs.view {h vm} (g : Gs w mg mb h₀ Z F env m os h) (v : Vw os m vm) : Fs w mg mb h₀ (Zv os Z) env (vm ++ m) h where
  base₀ := g.fs.base₀
  keep := g.fs.keep
  zin := fun a z => g.fs.zin a z.1
  vars := fun x d e => by
    rw [lookup_append] at e
    have sub : ∀ a o, h.get? a = some o → Zv os Z a → Z a := fun a o _ z => z.1
    cases q : vm.lookup x with
    | none =>
      rw [q, Option.none_or] at e
      obtain ⟨u, l, r⟩ := g.fs.vars x d e
      exact ⟨u, l, Rep.zz sub _ _ r⟩
    | some d' =>
      rw [q, Option.some_or] at e
      cases e
      rcases v x d q with ⟨a, l, rfl, ho, hx⟩ | ⟨y, dx, C, l, rfl, ho, hx⟩
      · obtain ⟨u, lk, r⟩ := g.fs.vars x _ hx
        obtain rfl := Rep_val.1 r
        obtain ⟨vs, p, rl⟩ := (g.ow _ ho).1
        exact ⟨_, lk, Rep_list.2 ⟨a, vs, rfl, fun z => z.2 (mem_ads ho (.head _)), p, RepL.zz sub _ _ rl⟩⟩
      · obtain ⟨u, lk, r⟩ := g.fs.vars x _ hx
        obtain rfl := Rep_val.1 r
        obtain ⟨mm, p, rl, _, on⟩ := (g.ow _ ho).1
        exact ⟨_, lk, by rw [Rep]; exact ⟨y, dx, mm, rfl, fun z => z.2 (mem_ads ho (.head _)), fun z => z.2 (mem_ads ho (.tail _ (.head _))), p, RepF.zz sub _ _ rl, on⟩⟩
  own := fun a o => ⟨⟨(g.fs.own a o).1, fun hm => by
    obtain ⟨ow, h1, h2⟩ := List.mem_flatMap.mp hm
    exact ((g.ow ow h1).2 a h2).2.1 o⟩, (g.fs.own a o).2⟩
  ns := g.fs.ns
  cell := g.fs.cell
  apart := g.fs.apart

/-- data that reaches no heap -/
def Scal (d : D) : Prop := ∀ (w : World) (Z Z' : Addr → Prop) (h h' : Heap) (v : Value), Rep w Z h v d → Rep w Z' h' v d
theorem Scal.int {i} : Scal (.int i) := fun w Z Z' h h' v r => by obtain ⟨t, rfl⟩ := Rep_int.1 r; exact rint
theorem Scal.str {i} : Scal (.str i) := fun w Z Z' h h' v r => by obtain ⟨t, rfl⟩ := Rep_str.1 r; exact rstr
theorem Scal.bool {i} : Scal (.bool i) := fun w Z Z' h h' v r => by obtain rfl := Rep_bool.1 r; exact rbool
theorem Scal.all {ds : List D} (hd : ∀ d ∈ ds, Scal d) {Z Z' h h'} : ∀ {vs : List Value}, RepL w Z h vs ds → RepL w Z' h' vs ds := by
  induction ds with
  | nil => intro vs r; cases vs with
    | nil => rw [RepL]; trivial
    | cons v vs => rw [RepL] at r; exact r.elim
  | cons d ds ih => intro vs r; cases vs with
    | nil => rw [RepL] at r; exact r.elim
    | cons v vs =>
      rw [RepL] at r ⊢
      exact ⟨hd d (.head _) _ _ _ _ _ _ r.1, ih (fun e he => hd e (.tail _ he)) r.2⟩

theorem GS.assignV {x value pos pos' d vm P} (v : Vw os m vm) (h : Ev w mg mb A env (vm ++ m) value d) (hd : Scal d) (hP : P ((x, d) :: m) os) (hx : env.kindOf x = some .local ∨ (env.kindOf x = some .cell ∧ (env.cells.lookup x).isSome = true)) (hk : env.scope.kind = .function)
    (hs : swapsWith value (some (.Name x pos')) pos.line env = pure false) : GS w mg mb A env m os (.Assign [.Name x pos'] value pos) (.next P) := .mk fun h₀ Z F s Q E T g hQ =>
  wpAny_Assign_Name (h.run (Zv os Z) s _ E T (g.view v).st fun u s' k r => (g.keeps k.heap).fs.store k.tok (hd _ _ _ _ _ _ r) hx hk fun s'' k' F' => hQ _ s'' (k.mv.trans (k'.mono (Own.fr0 g))) ⟨rfl, Z, _, os, Zk.refl, (g.keeps k.heap).ownMv k'.heap F', hP⟩) hs
theorem GS.ifV {t b el pos c vm o} (v : Vw os m vm) (ht : EvT w mg mb A env (vm ++ m) t c) (h1 : c = true → GX w mg mb A env m os b o) (h2 : c = false → GX w mg mb A env m os el o) : GS w mg mb A env m os (.If t b el pos) o := .mk fun h₀ Z F s Q E T g hQ =>
  wpAny_If (ht.run (Zv os Z) s _ E T (g.view v).st fun s' k => by
    cases c with
    | true => exact (h1 rfl).run h₀ Z F s' Q E k.tok (g.keeps k.heap) fun f s'' k' => hQ f s'' (k.mv.trans k')
    | false => exact (h2 rfl).run h₀ Z F s' Q E k.tok (g.keeps k.heap) fun f s'' k' => hQ f s'' (k.mv.trans k'))
end

end

section
open PySem PySem.Spec PySem.Calls PySem.W PyProof.Rows
set_option maxRecDepth 100000
set_option linter.all false
section
variable {w : World} {mg mb : PySem.Str → Option Value} {A : Around} {env : Env} {m : Vars} {h₀ : Heap} {Z F : Addr → Prop} {os : List Ow}

/-- an expression that makes a list of its own -/
structure EvF (w : World) (mg mb : PySem.Str → Option Value) (A : Around) (env : Env) (m : Vars) (e : Expr) (l : List D) : Prop where
  run : ∀ (Z : Addr → Prop) (s : Shared) (Q : Value → Shared → Prop) (E : Value → Shared → Prop), 1 ≤ s.toks → St w mg mb Z env m s.heap →
    (∀ a s' hp, Ks s s' → (∀ b o, s.heap.get? b = some o → hp.get? b = some o) → hp.get? a = none → (∀ b o, hp.get? b = some o → s'.heap.get? b = some o) → (∃ vs : List Value, s'.heap.PlainList a vs.toArray ∧ RepL w Z hp vs l) → Q (.ref a) s') → wpAny (model prog w) A (eval e env) Q E s
theorem EvF.list {es ds pos} (h : EvL w mg mb A env m es ds) (hl : ds.length ≤ 64) : EvF w mg mb A env m (.List es pos) ds := .mk fun Z s Q E T S hQ =>
  wpAny_List (h.run pos Z s _ E T S fun vs s' k r => ⟨by rw [RepL.length vs ds r]; exact le_size hl, hQ _ _ s'.heap (k.trans' (Ks.push _ _ k.tok)) k.heap (fresh_none _ _ (Nat.le_refl _)) (fun _ _ e => Heap.get?_push_of_some _ e) ⟨vs, ⟨_, Heap.get?_push_size _ rfl⟩, r⟩⟩)
theorem EvF.add {l r pos l1 l2} (h1 : Ev w mg mb A env m l (.list l1)) (h2 : Ev w mg mb A env m r (.list l2)) (hsz : l1.length + l2.length ≤ sizeLine) : EvF w mg mb A env m (.BinOp l .Add r pos) (l1 ++ l2) := .mk fun Z s Q E T S hQ =>
  wpAny_BinOp (h1.run Z s _ E T S fun u s₁ k₁ r₁ => h2.run Z s₁ _ E k₁.tok (S.keeps k₁.heap) fun v s₂ k₂ r₂ => by
    obtain ⟨a, vs, rfl, nz, pl, rl⟩ := Rep_list.1 (r₁.keeps k₂.heap)
    obtain ⟨b, us, rfl, nz', pl', rl'⟩ := Rep_list.1 r₂
    have e1 := RepL.length _ _ rl
    have e2 := RepL.length _ _ rl'
    obtain ⟨n, ho⟩ := pl
    obtain ⟨n2, ho2⟩ := pl'
    have e : vs.toArray ++ us.toArray = (vs ++ us).toArray := by simp
    refine concat_meets ⟨_, ho, rfl⟩ ⟨_, ho2, rfl⟩ noFill_list_add seq_list_add PySem.F.slot_list_add PySem.F.entry_list_add (PySem.F.args_list_add_2 _ _) (list_addW a b vs.toArray us.toArray n n2 none none #[] #[] (by simp; omega)) ⟨ho, ho2, ?_⟩
    rw [e]
    exact hQ _ _ s₂.heap ((k₁.trans' k₂).trans' (Ks.push s₂ _ k₂.tok)) (k₁.trans' k₂).heap (fresh_none _ _ (Nat.le_refl _)) (fun _ _ e => Heap.get?_push_of_some _ e) ⟨vs ++ us, ⟨_, Heap.get?_push_size _ rfl⟩, rl.append _ _ _ _ rl'⟩)

/-- x = a new list, from now on owned -/
theorem GS.newList {x value pos pos' l vm P} (v : Vw os m vm) (h : EvF w mg mb A env (vm ++ m) value l) (hl : (∀ d ∈ l, Scal d) ∨ vm = []) (hos : vm = [] → True) (hP : ∀ a, P ((x, .val (.ref a)) :: m) (.lst a l :: os))
    (hnv : ∀ d ∈ l, Scal d) (hx : env.kindOf x = some .local ∨ (env.kindOf x = some .cell ∧ (env.cells.lookup x).isSome = true)) (hk : env.scope.kind = .function)
    (hs : swapsWith value (some (.Name x pos')) pos.line env = pure false) : GS w mg mb A env m os (.Assign [.Name x pos'] value pos) (.next P) := .mk fun h₀ Z F s Q E T g hQ =>
  wpAny_Assign_Name (h.run (Zv os Z) s _ E T (g.view v).st fun a s' hp k kp ha kp' ⟨vs, pl, rl⟩ => by
    have g' := g.keeps k.heap
    have hsa : s.heap.get? a = none := by
      cases q : s.heap.get? a with
      | none => rfl
      | some o => rw [kp a o q] at ha; cases ha
    have h0a : h₀.get? a = none := by
      cases q : h₀.get? a with
      | none => rfl
      | some o => rw [g.fs.keep a o q] at hsa; cases hsa
    have nZ : ¬ Z a := fun z => by obtain ⟨o, e⟩ := g.fs.zin a z; rw [hsa] at e; cases e
    have nO : ¬ Own env a := fun z => nZ (g.fs.own a z).1
    have nF : ¬ F a := fun z => nZ (g.fz a z).1
    -- seen from the heap before, nothing reaches a
    have G1 : Gs w mg mb h₀ (fun b => Z b ∨ b = a) F env m os s'.heap := by
      have gs := g
      have ext : ∀ b o, s.heap.get? b = some o → (Z b ∨ b = a) → Z b := fun b o e z => z.elim id fun q => by subst q; rw [hsa] at e; cases e
      refine ⟨gs.fs.extend k.heap (fun b z => .inl z) ext fun b z nz => ?_, fun b f => ⟨.inl (gs.fz b f).1, (gs.fz b f).2⟩, fun o ho => ⟨?_, fun b hb => ?_⟩, gs.nd⟩
      · have : b = a := z.resolve_left nz
        subst this; obtain ⟨n, e⟩ := pl; exact ⟨_, e⟩
      · exact Ow.Holds.kp (Kp.of k.heap) (fun _ z => z.elim) (fun _ _ z => z) (Ow.Holds.zz ext (gs.ow o ho).1)
      · have := (gs.ow o ho).2 b hb; exact ⟨.inl this.1, this.2⟩
    refine G1.fs.store k.tok (d := .val (.ref a)) (Rep_val.2 rfl) hx hk fun s'' k' F' => ?_
    refine hQ _ s'' (k.mv.trans (k'.mono fun b z => ⟨fun f => (g.fz b f).2.1 z, (g.fs.own b z).2⟩)) ⟨rfl, fun b => Z b ∨ b = a, _, _, fun b o e z => .inl z, ?_, hP a⟩
    have G2 := G1.ownMv k'.heap F'
    refine ⟨G2.fs, G2.fz, fun o ho => ?_, ?_⟩
    · rcases List.mem_cons.mp ho with rfl | ho
      · refine ⟨⟨vs, pl.kp k'.heap nO, Scal.all hnv rl⟩, fun b hb => ?_⟩
        simp only [Ow.ads, List.mem_singleton] at hb
        subst hb
        exact ⟨.inr rfl, nO, nF, h0a⟩
      · exact G2.ow o ho
    · rw [List.flatMap_cons]
      show (a :: os.flatMap Ow.ads).Nodup
      refine List.nodup_cons.mpr ⟨fun hm => ?_, g.nd⟩
      obtain ⟨o, h1, h2⟩ := List.mem_flatMap.mp hm
      exact nZ ((g.ow o h1).2 a h2).1) hs
end

end

section
open PySem PySem.Spec PySem.Calls PySem.W PyProof.Rows PySem.Builtin PySem.Builtin.ObjectAttr
set_option maxRecDepth 100000
set_option linter.all false
section
variable {w : World} {mg mb : PySem.Str → Option Value} {A : Around} {env : Env} {m : Vars} {h₀ : Heap} {Z F : Addr → Prop} {os : List Ow}

theorem isStr_str (x y : PySem.Str) (t : Tok) : (Value.str x t).isStr y = (x == y) := rfl
theorem isStr_two {v : Value} {a b : PySem.Str} (h : v.isStr a = true) : v.isStr b = (a == b) := by
  cases v <;> first | cases h | skip
  simp only [Value.isStr, beq_iff_eq] at h ⊢
  subst h; rfl
theorem putL_val (name : PySem.Str) (hsh : Int) (t : Tok) (v : Value) (k : PySem.Str) : ∀ es : List DictEntry,
    ((putL name hsh (.str name t) v es).find? fun e => e.key.isStr k).map (·.val) = if k = name then some v else (es.find? fun e => e.key.isStr k).map (·.val)
  | [] => by
    show (List.find? _ [_]).map _ = _
    rw [List.find?_cons]
    dsimp only
    rw [isStr_str]
    by_cases q : k = name
    · subst q; simp
    · have : (name == k) = false := beq_false_of_ne fun e => q e.symm
      rw [this, if_neg q]
  | e :: r => by
    have ih := putL_val name hsh t v k r
    unfold putL
    by_cases c : e.key.isStr name = true
    · rw [if_pos c, List.find?_cons, List.find?_cons]
      dsimp only
      rw [isStr_two c (b := k)]
      by_cases q : k = name
      · subst q; simp
      · have : (name == k) = false := beq_false_of_ne fun e => q e.symm
        rw [this, if_neg q]
    · rw [if_neg c, List.find?_cons, List.find?_cons]
      by_cases q : k = name
      · subst q
        have : e.key.isStr k = false := by simpa using c
        rw [this]; exact ih
      · rw [if_neg q] at ih ⊢
        cases e.key.isStr k
        · exact ih
        · rfl
theorem putL_ref (name : PySem.Str) (hsh : Int) (t : Tok) (v : Value) : ∀ es : List DictEntry, es.any (·.refKey) = false → (putL name hsh (.str name t) v es).any (·.refKey) = false
  | [], _ => by simp [putL, DictEntry.refKey]
  | e :: r, h => by
    rw [List.any_cons, Bool.or_eq_false_iff] at h
    unfold putL
    split
    · rw [List.any_cons, Bool.or_eq_false_iff]; exact ⟨h.1, h.2⟩
    · rw [List.any_cons, Bool.or_eq_false_iff]; exact ⟨h.1, putL_ref name hsh t v r h.2⟩
theorem putL_len (name : PySem.Str) (hsh : Int) (k v : Value) : ∀ es : List DictEntry, (putL name hsh k v es).length ≤ es.length + 1
  | [] => Nat.le_refl _
  | e :: r => by
    unfold putL
    split
    · simp
    · have := putL_len name hsh k v r; simp; omega

theorem osa_plain {R : Result → Shared → Prop} {s : Shared} {K : Frag} {x dx C : Addr} {name : PySem.Str} {tk : Tok} {v : Value} {es : List DictEntry} {n : Nat} (X : K.In s.heap)
    (hx : s.heap.get? x = some (instObj C dx)) (D : s.heap.get? dx = some (dictOf es n)) (hp : plainOver K C = true) (ht : takerIn K C name = some none) (hh : hasDictIn K C = true)
    (hl : es.any (·.refKey) = false) (hz : es.length ≤ 100)
    (h : ∀ h', h'.get? dx = some (dictOf (putL name (PyData.keyHash w.params name) (.str name s.toks) v es) (putN name es n)) → Heap.SameBut dx s.heap h' → R (.ok (.ret .none)) { s with heap := h', toks := s.toks + 1 }) :
    codeAny (model prog w) A (.call (.builtin "object.__setattr__") ⟨[.ref x, .str name tk, v], []⟩) R s := by
  have I : PySem.W.InstAt s.heap x (instObj C dx) C (some (dictOf es n)) := ⟨hx, rfl, rfl, D⟩
  refine osa_open X I hp ht fun b => ?_
  obtain ⟨cd, hc, hd'⟩ := any_some hh
  refine wpAny_bind (wpAny_pure (wpAny_bind (wpAny_bind (wpAny_loadPart hx (wpAny_bind ((looks_clsIn X hc).here ?_))))))
  rw [hd']
  refine wpAny_pure (a := some dx) (wpAny_bind (wpAny_pure (wpAny_bind ?_)))
  unfold nsSet
  refine wpAny_bind (wpAny_bind (wpAny_askSetting (wpAny_pure (wpAny_bind (wpAny_mkText (wpAny_bind (wpAny_loadPart D ?_)))))))
  have c : (!es.toArray.any (·.key.isStr name) && es.toArray.any (·.refKey)) = false := by
    rw [← Array.any_toList, ← Array.any_toList]
    show (!es.any _ && es.any _) = false
    rw [hl, Bool.and_false]
  show wpAny _ _ (do if aRefKeyMayBeTheName name es.toArray then _ else _) _ _ _
  rw [aRefKeyMayBeTheName_at, c]
  refine wpAny_updatePart D ?_
  have e1 := putName_dict name (PyData.keyHash w.params name) (.str name s.toks) v es n
  have D' : (s.heap.update dx (Obj.putName name (PyData.keyHash w.params name) (.str name s.toks) v)).get? dx = some (dictOf (putL name (PyData.keyHash w.params name) (.str name s.toks) v es) (putN name es n)) := by
    rw [Heap.get?_update_self _ D (by rw [e1]; rfl), e1]
  refine wpAny_bind (wpAny_lookBehind D' (pastItsLine_dict (by rw [List.size_toArray, sizeLine_eq]; have := putL_len name (PyData.keyHash w.params name) (.str name s.toks) v es; omega)) ?_)
  exact wpAny_pure (h _ D' (Heap.SameBut.update ..))
theorem setAttr_plain {s : Shared} {Q : Unit → Shared → Prop} {E : Value → Shared → Prop} {K : Frag} {x dx C : Addr} {name : PySem.Str} {v : Value} {es : List DictEntry} {n : Nat} (X : K.In s.heap)
    (hx : s.heap.get? x = some (instObj C dx)) (D : s.heap.get? dx = some (dictOf es n)) (hs : findIn K (.ref C) "__setattr__" = some (some (.builtin "object.__setattr__"))) (hp : plainOver K C = true) (ht : takerIn K C name = some none) (hh : hasDictIn K C = true)
    (hl : es.any (·.refKey) = false) (hz : es.length ≤ 100)
    (h : ∀ h', h'.get? dx = some (dictOf (putL name (PyData.keyHash w.params name) (.str name (s.toks + 1)) v es) (putN name es n)) → Heap.SameBut dx s.heap h' → Q () { s with heap := h', toks := s.toks + 2 }) :
    wpAny (model prog w) A (setAttr (.ref x) name v) Q E s :=
  set_plain X (od := some (dictOf es n)) ⟨hx, rfl, rfl, D⟩ hs (osa_plain (s := { s with toks := s.toks + 1 }) X hx D hp ht hh hl hz fun h' d sb => h h' d sb)
end

end

section
open PySem PySem.Spec PySem.Calls PySem.W PyProof.Rows PySem.Builtin
set_option maxRecDepth 100000
set_option linter.all false
section
variable {w : World} {mg mb : PySem.Str → Option Value} {A : Around} {env : Env} {m : Vars} {h₀ : Heap} {Z F : Addr → Prop} {os : List Ow}

/-- one owned thing changed, nothing else -/
theorem Gs.put {pre post : List Ow} {o o' : Ow} {h h' : Heap} (g : Gs w mg mb h₀ Z F env m (pre ++ o :: post) h) (ha : o'.ads = o.ads) (W : Addr → Prop) (hW : ∀ a, W a → a ∈ o.ads) (k : Kp W h h') (hz : ∀ a, W a → ∃ ob, h'.get? a = some ob) (hh : o'.Holds w Z h') : Gs w mg mb h₀ Z F env m (pre ++ o' :: post) h' := by
  have ho : o ∈ pre ++ o :: post := List.mem_append_right _ (.head _)
  have hno := g.nd
  rw [List.flatMap_append, List.flatMap_cons] at hno
  have hdis : ∀ p ∈ pre ++ post, ∀ a ∈ p.ads, a ∉ o.ads := by
    intro p hp a h1 h2
    rcases List.mem_append.mp hp with q | q
    · have := (List.nodup_append.mp hno).2.2 a (mem_ads q h1) a (List.mem_append_left _ h2)
      exact this rfl
    · have := (List.nodup_append.mp (List.nodup_append.mp hno).2.1).2.2 a h2 a (mem_ads q h1)
      exact this rfl
  refine ⟨g.fs.other k (fun a z => ((g.ow o ho).2 a (hW a z)).1) hz (fun a z => ((g.ow o ho).2 a (hW a z)).2.1) fun a z => ((g.ow o ho).2 a (hW a z)).2.2.2, g.fz, fun p hp => ?_, ?_⟩
  · by_cases q : p ∈ pre ++ post
    · have hp' : p ∈ pre ++ o :: post := by
        rcases List.mem_append.mp q with r | r
        · exact List.mem_append_left _ r
        · exact List.mem_append_right _ (.tail _ r)
      exact ⟨(g.ow p hp').1.kp k (fun a z => ((g.ow o ho).2 a (hW a z)).1) fun a h1 h2 => hdis p q a h1 (hW a h2), (g.ow p hp').2⟩
    · have : p = o' := by
        rcases List.mem_append.mp hp with r | r
        · exact absurd (List.mem_append_left _ r) q
        · rcases List.mem_cons.mp r with r | r
          · exact r
          · exact absurd (List.mem_append_right _ r) q
      subst this
      exact ⟨hh, by rw [ha]; exact (g.ow o ho).2⟩
  · rw [List.flatMap_append, List.flatMap_cons, ha]; exact hno

theorem setItem_plain {s : Shared} {Q : Unit → Shared → Prop} {E : Value → Shared → Prop} {l : Addr} {items : Array Value} {k : Int} {t : Tok} {v : Value} (hl : s.heap.PlainList l items)
    (h0 : 0 ≤ k) (hfit : k < 2 ^ 63) (hn : k < items.size)
    (hQ : ∀ h', h'.PlainList l (items.setIfInBounds k.toNat v) → Heap.SameBut l s.heap h' → Q () { s with heap := h' }) :
    wpAny (model prog w) A (setItem (.ref l) (.int k t) v) Q E s := by
  obtain ⟨n, ho⟩ := id hl
  unfold setItem
  try with_reducible refine wpAny_holding ?_
  first | refine wpAny_bind (wpAny_pure ?_) | skip
  refine wpAny_bind (wpAny_sequenceKey hl.isList.typeIs (by decide) ?_)
  refine wpAny_bind (wpAny_callSpecial?_slot (name := Str.ofString "__setitem__") hl.isList.typeIs slot_list_setitem
    (wpAny_call_entry slot_list_setitem hl.isList.typeIs entry_list_setitem ?_ (args_list_setitem _ _ _)))
  show wpAny _ _ (Builtin.List.listSubscript? (.int k t) >>= _) _ _ s
  refine wpAny_bind (wpAny_listSubscript_int (fitsIndex_of h0 hfit) ?_)
  clear hfit
  obtain ⟨j, rfl⟩ := Int.eq_ofNat_of_zero_le h0
  have hj : j < items.size := by omega
  have hx' : items[j]? = some items[j] := Array.getElem?_eq_getElem hj
  show wpAny _ _ ((seqItemAt l j >>= fun r => pure (r.map (j, ·))) >>= _) _ _ s
  refine wpAny_bind (wpAny_bind (wpAny_seqItemAt ho rfl (wpAny_pure ?_)))
  rw [hx']
  show wpAny _ _ (setSeqItemAt l j v >>= _) _ _ s
  have e : ∃ n', Obj.mapSeq (·.setIfInBounds j v) { cls := .type "list", data := .seq items n } = { cls := .type "list", data := .seq (items.setIfInBounds j v) n' } := ⟨_, rfl⟩
  obtain ⟨n', e⟩ := e
  have hfin : (s.heap.update l (Obj.mapSeq (·.setIfInBounds j v))).PlainList l (items.setIfInBounds j v) :=
    ⟨n', by rw [Heap.get?_update_self _ ho (by rw [e]; rfl), e]⟩
  refine wpAny_bind (wpAny_setSeqItemAt ho rfl ?_)
  first
    | exact wpAny_bind (wpAny_pure (wpAny_pure ⟨.none, rfl, wpAny_pure (hQ _ hfin (Heap.SameBut.update ..))⟩))
    | exact wpAny_pure ⟨.none, rfl, wpAny_pure (hQ _ hfin (Heap.SameBut.update ..))⟩

theorem RepL.set {Z h} : ∀ {vs : List Value} {ds : List D} (i : Nat) {v d}, RepL w Z h vs ds → Rep w Z h v d → RepL w Z h (vs.set i v) (ds.set i d)
  | [], [], i, v, d, r, q => by simpa using r
  | u :: vs, e :: ds, 0, v, d, r, q => by
    rw [RepL] at r; simp only [List.set_cons_zero]; rw [RepL]; exact ⟨q, r.2⟩
  | u :: vs, e :: ds, i + 1, v, d, r, q => by
    rw [RepL] at r; simp only [List.set_cons_succ]; rw [RepL]; exact ⟨r.1, RepL.set i r.2 q⟩
  | [], _ :: _, _, _, _, r, _ => by rw [RepL] at r; exact r.elim
  | _ :: _, [], _, _, _, r, _ => by rw [RepL] at r; exact r.elim

/-- x[i] = value, x owned -/
theorem GS.setItem {x px idx pos' value pos a l d vm P} {k : Nat} {pre post : List Ow} (v : Vw (pre ++ .lst a l :: post) m vm) (hv : Ev w mg mb A env (vm ++ m) value d) (hd : Scal d) (hx : ∀ p, Ev w mg mb A env m (.Name x p) (.val (.ref a))) (hi : Ev w mg mb A env m idx (.int k)) (hkl : k < l.length) (hk63 : k < 2 ^ 60)
    (hP : P m (pre ++ .lst a (l.set k d) :: post)) (hs : swapsWith value (some (.Subscript (.Name x px) idx pos')) pos.line env = pure false) : GS w mg mb A env m (pre ++ .lst a l :: post) (.Assign [.Subscript (.Name x px) idx pos'] value pos) (.next P) := .mk fun h₀ Z F s Q E T g hQ =>
  wpAny_Assign_Subscript (hv.run (Zv _ Z) s _ E T (g.view v).st fun u s₁ k₁ ru => (hx px).run Z s₁ _ E k₁.tok (g.keeps k₁.heap).fs.st fun y s₂ k₂ ry => hi.run Z s₂ _ E k₂.tok (g.keeps (k₁.trans' k₂).heap).fs.st fun z s₃ k₃ rz => by
    obtain rfl := Rep_val.1 ry
    obtain ⟨t, rfl⟩ := Rep_int.1 rz
    have kk := (k₁.trans' k₂).trans' k₃
    have g3 := g.keeps kk.heap
    have hm : Ow.lst a l ∈ pre ++ .lst a l :: post := List.mem_append_right _ (.head _)
    obtain ⟨vs, pl, rl⟩ := (g3.ow _ hm).1
    have e1 := RepL.length _ _ rl
    refine setItem_plain pl (by omega) (by omega) (by rw [List.size_toArray]; omega) fun h' pl' sb => ?_
    have kp : Kp (fun b => b = a) s₃.heap h' := fun b o n e => sb.extBut b o n e
    rw [Int.toNat_natCast] at pl'
    have pl2 : h'.PlainList a (vs.set k u).toArray := by simpa using pl'
    have hz : ∀ b, b = a → ∃ ob, h'.get? b = some ob := fun b e => by subst e; obtain ⟨n, e⟩ := pl'; exact ⟨_, e⟩
    have ga := (g3.ow _ hm).2 a (.head _)
    have G := g3.put (o' := .lst a (l.set k d)) rfl (fun b => b = a) (fun b e => by subst e; exact .head _) kp hz ⟨vs.set k u, pl2, RepL.kp kp (fun b e => by subst e; exact ga.1) _ _ (RepL.set k rl (hd _ _ _ _ _ _ ru))⟩
    refine hQ _ _ (kk.mv.trans ⟨⟨h', s₃.toks, rfl⟩, fun b o n e => kp b o (fun q => n (by subst q; exact ⟨ga.2.2.1, ga.2.2.2⟩)) e, kk.tok⟩) ⟨rfl, Z, m, _, Zk.refl, G, hP⟩) hs

/-- x.append(e), x owned -/
theorem GS.append {x px apos e cpos pos a l d P} {pre post : List Ow} (hv : Ev w mg mb A env m e d) (hx : Ev w mg mb A env m (.Name x px) (.val (.ref a))) (hsz : l.length ≤ 64) (hP : P m (pre ++ .lst a (l ++ [d]) :: post))
    (hbase : attributeBase (.Name x px) "append" env (eval (.Name x px) env) = eval (.Name x px) env) (he : starEach [e] env = [(false, eval e env)]) (hline : (apos.endLine == cpos.line) = true)
    (hin : interactive env = false) (hs : swapsWith (.Call (.Attribute (.Name x px) "append" apos) [e] [] cpos) none pos.line env = pure false) :
    GS w mg mb A env m (pre ++ .lst a l :: post) (.Expr (.Call (.Attribute (.Name x px) "append" apos) [e] [] cpos) pos) (.next P) := .mk fun h₀ Z F s Q E T g hQ => by
  have hm : Ow.lst a l ∈ pre ++ .lst a l :: post := List.mem_append_right _ (.head _)
  refine wpAny_Expr_any ?_ hin hs
  refine Call_method1 hbase he hline (hx.run Z s _ E T g.fs.st fun y s₁ k₁ ry => ?_)
  obtain rfl := Rep_val.1 ry
  have g1 := g.keeps k₁.heap
  obtain ⟨vs, ⟨n, pl⟩, rl⟩ := (g1.ow _ hm).1
  refine ⟨"list", "list.append", PySem.F.plainAttrs_list, PySem.F.slot_list_append, PySem.F.type_list_append, ⟨_, pl, rfl⟩, fun b e => by cases e; exact ⟨_, pl, rfl⟩, ?_⟩
  refine callWith_builtin (by rfl) (evalArgs_plain ?_)
  have hl := (EvL.cons hv EvL.nil he).run cpos Z s₁ (fun vs' s₂ => wpAny (model prog w) A (call (.builtin "list.append") ([Value.ref a] ++ vs')) (fun _ => Q .next) E s₂) E k₁.tok g1.fs.st fun us s₂ k₂ r₂ => by
    match us, r₂ with
    | [u], r₂ =>
      rw [RepL] at r₂
      have ru := r₂.1
      have kk := k₁.trans' k₂
      have g2 := g.keeps kk.heap
      obtain ⟨vs, pl, rl⟩ := (g2.ow _ hm).1
      have e1 := RepL.length _ _ rl
      refine wpAny_list_append_plain pl (fun h' pl' sb => ?_) (by rw [List.size_toArray, e1]; exact le_size hsz)
      have kp : Kp (fun b => b = a) s₂.heap h' := fun b o n e => sb.extBut b o n e
      have pl2 : h'.PlainList a (vs ++ [u]).toArray := by simpa using pl'
      have hz : ∀ b, b = a → ∃ ob, h'.get? b = some ob := fun b e => by subst e; obtain ⟨n, e⟩ := pl'; exact ⟨_, e⟩
      have ga := (g2.ow _ hm).2 a (.head _)
      have G := g2.put (o' := .lst a (l ++ [d])) rfl (fun b => b = a) (fun b e => by subst e; exact .head _) kp hz ⟨vs ++ [u], pl2, RepL.kp kp (fun b e => by subst e; exact ga.1) _ _ (rl.snoc ru)⟩
      exact hQ _ _ (kk.mv.trans ⟨⟨h', s₂.toks, rfl⟩, fun b o n e => kp b o (fun q => n (by subst q; exact ⟨ga.2.2.1, ga.2.2.2⟩)) e, kk.tok⟩) ⟨rfl, Z, m, _, Zk.refl, G, hP⟩
    | [], r₂ => rw [RepL] at r₂; exact r₂.elim
    | _ :: _ :: _, r₂ => rw [RepL] at r₂; have := r₂.2; rw [RepL] at this; exact this.elim
  rw [he] at hl
  exact hl

/-- no more changes: an owned list is plain data from now on -/
theorem GX.release {x a l ss o} {pre post : List Ow} (hx : m.lookup x = some (.val (.ref a))) (h : GX w mg mb A env ((x, .list l) :: m) (pre ++ post) ss o) : GX w mg mb A env m (pre ++ .lst a l :: post) ss o := .mk fun h₀ Z F s Q E T g hQ => by
  have hm : Ow.lst a l ∈ pre ++ .lst a l :: post := List.mem_append_right _ (.head _)
  have ga := (g.ow _ hm).2 a (.head _)
  obtain ⟨vs, pl, rl⟩ := (g.ow _ hm).1
  have hno := g.nd
  rw [List.flatMap_append, List.flatMap_cons] at hno
  have sub : ∀ b o, s.heap.get? b = some o → (Z b ∧ b ≠ a) → Z b := fun b o _ z => z.1
  have G : Gs w mg mb h₀ (fun b => Z b ∧ b ≠ a) F env ((x, .list l) :: m) (pre ++ post) s.heap := by
    refine ⟨⟨g.fs.base₀, g.fs.keep, fun b z => g.fs.zin b z.1, fun y d e => ?_, fun b z => ⟨⟨(g.fs.own b z).1, fun q => by subst q; exact ga.2.1 z⟩, (g.fs.own b z).2⟩, g.fs.ns, g.fs.cell, g.fs.apart⟩, fun b f => ⟨⟨(g.fz b f).1, fun q => by subst q; exact ga.2.2.1 f⟩, (g.fz b f).2⟩, fun p hp => ?_, ?_⟩
    · by_cases q : y = x
      · subst q
        rw [lookup_cons_eq] at e; cases e
        obtain ⟨u, lk, r⟩ := g.fs.vars y _ hx
        obtain rfl := Rep_val.1 r
        exact ⟨_, lk, Rep_list.2 ⟨a, vs, rfl, fun z => z.2 rfl, pl, RepL.zz sub _ _ rl⟩⟩
      · rw [lookup_cons_ne q] at e
        obtain ⟨u, lk, r⟩ := g.fs.vars y d e
        exact ⟨u, lk, Rep.zz sub _ _ r⟩
    · have hp' : p ∈ pre ++ .lst a l :: post := by
        rcases List.mem_append.mp hp with r | r
        · exact List.mem_append_left _ r
        · exact List.mem_append_right _ (.tail _ r)
      refine ⟨Ow.Holds.zz sub (g.ow p hp').1, fun b hb => ?_⟩
      have gb := (g.ow p hp').2 b hb
      refine ⟨⟨gb.1, fun q => ?_⟩, gb.2⟩
      subst q
      rcases List.mem_append.mp hp with r | r
      · exact (List.nodup_append.mp hno).2.2 b (mem_ads r hb) b (List.mem_append_left _ (.head _)) rfl
      · exact (List.nodup_append.mp (List.nodup_append.mp hno).2.1).2.2 b (.head _) b (mem_ads r hb) rfl
    · rw [List.flatMap_append]
      refine List.Nodup.sublist ?_ hno
      exact List.Sublist.append_left (List.sublist_append_right _ _) _
  exact h.run h₀ _ F s Q E T G fun f s' k p => hQ f s' k (p.zk fun b o e z => ⟨z, fun q => by subst q; rw [ga.2.2.2] at e; cases e⟩)
end

end

section
open PySem PySem.Spec PySem.Calls PySem.W PyProof.Rows PySem.Builtin
set_option maxRecDepth 100000
set_option linter.all false
section
variable {w : World} {mg mb : PySem.Str → Option Value} {A : Around} {env : Env} {m : Vars} {h₀ : Heap} {Z F : Addr → Prop} {os : List Ow}

/-- x = a new list that may hold lists; nothing owned is read for it -/
theorem GS.newListN {x value pos pos' l P} (h : EvF w mg mb A env m value l) (hP : ∀ a, P ((x, .val (.ref a)) :: m) (.lst a l :: os))
    (hx : env.kindOf x = some .local ∨ (env.kindOf x = some .cell ∧ (env.cells.lookup x).isSome = true)) (hk : env.scope.kind = .function)
    (hs : swapsWith value (some (.Name x pos')) pos.line env = pure false) : GS w mg mb A env m os (.Assign [.Name x pos'] value pos) (.next P) := .mk fun h₀ Z F s Q E T g hQ =>
  wpAny_Assign_Name (h.run Z s _ E T g.fs.st fun a s' hp k kp ha kp' ⟨vs, pl, rl⟩ => by
    have hsa : s.heap.get? a = none := by
      cases q : s.heap.get? a with
      | none => rfl
      | some o => rw [kp a o q] at ha; cases ha
    have h0a : h₀.get? a = none := by
      cases q : h₀.get? a with
      | none => rfl
      | some o => rw [g.fs.keep a o q] at hsa; cases hsa
    have nZ : ¬ Z a := fun z => by obtain ⟨o, e⟩ := g.fs.zin a z; rw [hsa] at e; cases e
    have nO : ¬ Own env a := fun z => nZ (g.fs.own a z).1
    have nF : ¬ F a := fun z => nZ (g.fz a z).1
    have ext : ∀ b o, s.heap.get? b = some o → (Z b ∨ b = a) → Z b := fun b o e z => z.elim id fun q => by subst q; rw [hsa] at e; cases e
    have exth : ∀ b o, hp.get? b = some o → (Z b ∨ b = a) → Z b := fun b o e z => z.elim id fun q => by subst q; rw [ha] at e; cases e
    have G1 : Gs w mg mb h₀ (fun b => Z b ∨ b = a) F env m os s'.heap := by
      refine ⟨g.fs.extend k.heap (fun b z => .inl z) ext fun b z nz => ?_, fun b f => ⟨.inl (g.fz b f).1, (g.fz b f).2⟩, fun o ho => ⟨?_, fun b hb => ?_⟩, g.nd⟩
      · have : b = a := z.resolve_left nz
        subst this; obtain ⟨n, e⟩ := pl; exact ⟨_, e⟩
      · exact Ow.Holds.kp (Kp.of k.heap) (fun _ z => z.elim) (fun _ _ z => z) (Ow.Holds.zz ext (g.ow o ho).1)
      · have := (g.ow o ho).2 b hb; exact ⟨.inl this.1, this.2⟩
    refine G1.fs.store k.tok (d := .val (.ref a)) (Rep_val.2 rfl) hx hk fun s'' k' F' => ?_
    refine hQ _ s'' (k.mv.trans (k'.mono fun b z => ⟨fun f => (g.fz b f).2.1 z, (g.fs.own b z).2⟩)) ⟨rfl, fun b => Z b ∨ b = a, _, _, fun b o e z => .inl z, ?_, hP a⟩
    have G2 := G1.ownMv k'.heap F'
    refine ⟨G2.fs, G2.fz, fun o ho => ?_, ?_⟩
    · rcases List.mem_cons.mp ho with rfl | ho
      · refine ⟨⟨vs, pl.kp k'.heap nO, RepL.kp k'.heap (fun b z => (G1.fs.own b z).1) _ _ ((RepL.zz exth _ _ rl).keeps kp')⟩, fun b hb => ?_⟩
        simp only [Ow.ads, List.mem_singleton] at hb
        subst hb
        exact ⟨.inr rfl, nO, nF, h0a⟩
      · exact G2.ow o ho
    · rw [List.flatMap_cons]
      show (a :: os.flatMap Ow.ads).Nodup
      refine List.nodup_cons.mpr ⟨fun hm => ?_, g.nd⟩
      obtain ⟨o, h1, h2⟩ := List.mem_flatMap.mp hm
      exact nZ ((g.ow o h1).2 a h2).1) hs

/-- static facts of a class whose objects are plain -/
structure PlainCls (C : Addr) : Prop where
  set : ∀ P, findIn (Kf P) (.ref C) "__setattr__" = some (some (.builtin "object.__setattr__"))
  over : ∀ P, plainOver (Kf P) C = true
  dict : ∀ P, hasDictIn (Kf P) C = true
  get : ∀ P n, plainGet (Kf P) C n = true

theorem RepF.put {Z h mm l} {name : PySem.Str} {v : Value} (hn : name ∉ l.map (·.1)) : RepF w Z h mm l → RepF w Z h (fun k => if k = name then some v else mm k) l := by
  induction l with
  | nil => intro r; rw [RepF]; trivial
  | cons p l ih =>
    obtain ⟨y, d⟩ := p
    intro r
    rw [List.map_cons, List.mem_cons, not_or] at hn
    rw [RepF] at r ⊢
    obtain ⟨⟨u, e, q⟩, r⟩ := r
    exact ⟨⟨u, by rw [if_neg (fun z => hn.1 z.symm)]; exact e, q⟩, ih hn.2 r⟩

/-- self.name = value -/
theorem GS.setAttr {x px name pos' value pos y dx C l d P} {pre post : List Ow} (hc : PlainCls C) (ht : ∀ P, takerIn (Kf P) C name = some none) (hv : Ev w mg mb A env m value d) (hx : Ev w mg mb A env m (.Name x px) (.val (.ref y))) (hn : name ∉ l.map (·.1)) (hl : l.length ≤ 20)
    (hP : P m (pre ++ .inst y dx C ((name, d) :: l) :: post))
    (hs : swapsWith value (some (.Attribute (.Name x px) name pos')) pos.line env = pure false) : GS w mg mb A env m (pre ++ .inst y dx C l :: post) (.Assign [.Attribute (.Name x px) name pos'] value pos) (.next P) := .mk fun h₀ Z F s Q E T g hQ =>
  plainObj_wpAny_Assign_Attribute (hv.run Z s _ E T g.fs.st fun u s₁ k₁ ru => hx.run Z s₁ _ E k₁.tok (g.keeps k₁.heap).fs.st fun z s₂ k₂ rz => by
    obtain rfl := Rep_val.1 rz
    have kk := k₁.trans' k₂
    have g2 := g.keeps kk.heap
    have hm : Ow.inst y dx C l ∈ pre ++ .inst y dx C l :: post := List.mem_append_right _ (.head _)
    obtain ⟨mm, ⟨ix, es, n, D, hf, hr, hz⟩, rf, ⟨es', n', D', hz'⟩, on⟩ := (g2.ow _ hm).1
    have hes : es.length ≤ l.length := by
      rw [D] at D'
      have e : es = es' := by simpa [dictOf] using (congrArg (fun o : Option Obj => match o with | some ⟨_, _, .dict e _, _⟩ => e.toList | _ => []) D')
      rw [e]; exact hz'
    have hlen := putL_len name (PyData.keyHash w.params name) (.str name (s₂.toks + 1)) u es
    have gy := (g2.ow _ hm).2 y (.head _)
    have gd := (g2.ow _ hm).2 dx (.tail _ (.head _))
    have hyd : y ≠ dx := fun q => by subst q; rw [ix] at D; cases D
    refine setAttr_plain g2.fs.base.K ix D (hc.set _) (hc.over _) (ht _) (hc.dict _) hr (by omega) fun h' d' sb => ?_
    have kp : Kp (fun b => b = dx) s₂.heap h' := fun b o nb e => sb.extBut b o nb e
    have kpz : ∀ b, b = dx → Z b := fun b e => by subst e; exact gd.1
    have rf' := RepF.kp kp kpz mm l rf
    have ru' := Rep.kp kp kpz _ _ (ru.keeps k₂.heap)
    have ho : Ow.Holds w Z h' (.inst y dx C ((name, d) :: l)) := by
      refine ⟨fun k => if k = name then some u else mm k, ⟨kp _ _ hyd ix, _, _, d', fun k => ?_, putL_ref _ _ _ _ _ hr, ?_⟩, ?_⟩
      · rw [putL_val]
        show _ = if k = name then some u else mm k
        by_cases q : k = name
        · rw [if_pos q, if_pos q]
        · rw [if_neg q, if_neg q]; exact hf k
      · omega
      · refine ⟨?_, ⟨_, _, d', by rw [List.length_cons]; omega⟩, fun k hk => ?_⟩
        rotate_left
        · rw [List.map_cons, List.mem_cons, not_or] at hk
          show (if k = name then some u else mm k) = none
          rw [if_neg hk.1]; exact on k hk.2
        rw [RepF]; exact ⟨⟨u, by simp, ru'⟩, RepF.put hn rf'⟩
    have G := g2.put (o' := .inst y dx C ((name, d) :: l)) rfl (fun b => b = dx) (fun b e => by subst e; exact .tail _ (.head _)) kp (fun b e => by subst e; exact ⟨_, d'⟩) ho
    refine hQ _ _ (kk.mv.trans ⟨⟨h', s₂.toks + 2, rfl⟩, fun b o nb e => kp b o (fun q => nb (by subst q; exact ⟨gd.2.2.1, gd.2.2.2⟩)) e, Nat.le_add_left_of_le (by decide)⟩) ⟨rfl, Z, m, _, Zk.refl, G, hP⟩) hs
end

end

section
open PySem PySem.Spec PySem.Calls PySem.W PyProof.Rows PySem.Builtin
set_option maxRecDepth 100000
set_option linter.all false
section
variable {w : World} {mg mb : PySem.Str → Option Value} {A : Around} {env : Env} {m : Vars} {h₀ : Heap} {Z F : Addr → Prop} {os : List Ow}

theorem RepF.get {Z h mm} : ∀ {l : List (PySem.Str × D)} {x : PySem.Str} {d : D}, RepF w Z h mm l → l.lookup x = some d → ∃ v, mm x = some v ∧ Rep w Z h v d
  | (y, e) :: l, x, d, r, hx => by
    rw [RepF] at r
    by_cases q : x = y
    · subst q; rw [lookup_cons_eq] at hx; cases hx; exact r.1
    · rw [lookup_cons_ne q] at hx; exact RepF.get r.2 hx
def D.tame : D → Bool
  | .val _ => false
  | .none => true | .bool _ => true | .int _ => true | .flt _ => true | .str _ => true | .list _ => true | .tup _ => true | .dict _ => true | .obj _ _ => true | .range _ _ => true
theorem handed {Z h} : ∀ {d : D} {v : Value}, Rep w Z h v d → d.tame = true → handedIn v = true
  | .none, v, r, _ => by rw [Rep_none.1 r]; rfl
  | .bool b, v, r, _ => by rw [Rep_bool.1 r]; rfl
  | .int b, v, r, _ => by obtain ⟨t, rfl⟩ := Rep_int.1 r; rfl
  | .flt b, v, r, _ => by obtain ⟨t, rfl⟩ := Rep_flt.1 r; rfl
  | .str b, v, r, _ => by obtain ⟨t, rfl⟩ := Rep_str.1 r; rfl
  | .list b, v, r, _ => by obtain ⟨a, vs, rfl, _⟩ := Rep_list.1 r; rfl
  | .tup b, v, r, _ => by obtain ⟨a, vs, rfl, _⟩ := Rep_tup.1 r; rfl
  | .dict b, v, r, _ => by obtain ⟨a, vs, rfl, _⟩ := Rep_dict.1 r; rfl
  | .obj C b, v, r, _ => by rw [Rep] at r; obtain ⟨a, dx, mm, rfl, _⟩ := r; rfl
  | .range a b, v, r, _ => by rw [Rep] at r; obtain ⟨a, t, u, k, rfl, _⟩ := r; rfl
  | .val _, _, _, h => by cases h

theorem getL_of {es : List DictEntry} {name : PySem.Str} {v : Value} (h : (es.find? fun e => e.key.isStr name).map (·.val) = some v) : getL name es = some (some v) := by
  unfold getL
  cases q : es.find? fun e => e.key.isStr name with
  | none => rw [q] at h; cases h
  | some e => rw [q] at h; cases h; rfl
theorem getL_none {es : List DictEntry} {name : PySem.Str} (h : (es.find? fun e => e.key.isStr name).map (·.val) = none) (hr : es.any (·.refKey) = false) : getL name es = some none := by
  unfold getL
  cases q : es.find? fun e => e.key.isStr name with
  | none => dsimp only; rw [hr]; rfl
  | some e => rw [q] at h; cases h

/-- x.attr of a plain object -/
theorem Ev.attr {x px attr pos C l d} (hx : Ev w mg mb A env m (.Name x px) (.obj C l)) (hl : l.lookup attr = some d) (hc : PlainCls C) (ha : ∀ P, findIn (Kf P) (.ref C) attr = some none) (hd : d.tame = true) : Ev w mg mb A env m (.Attribute (.Name x px) attr pos) d := .mk fun Z s Q E T S hQ =>
  Attribute_name (hx.run Z s _ E T S fun v s₁ k₁ r => by
    have r' := r
    rw [Rep] at r'
    obtain ⟨y, dx, mm, rfl, _, _, ⟨ix, es, n, D, hf, hr, hz⟩, rf, on⟩ := r'
    obtain ⟨v, hv, rv⟩ := rf.get hl
    have I : PySem.W.InstAt s₁.heap y (instObj C dx) C (some (dictOf es n)) := ⟨ix, rfl, rfl, D⟩
    exact get_value (S.keeps k₁.heap).base.K I (plainGet_of (hc.get _ attr)).1 (findObj_own (hc.dict _) (ha _) rfl (by rw [lookIn_dict]; exact getL_of (by rw [hf]; exact hv))) (handed rv hd) (hQ _ _ (k₁.trans' (Ks.tk s₁ _ (Nat.le_add_left _ _))) rv))
/-- C.attr, a text that the class holds -/
theorem Ev.clsStr {x px attr pos C} {y : PySem.Str} (g : Gl x (.ref C)) (eo : EOk env) (hx : env.kindOf x = some .globalImplicit) (hr : ∀ P, readsIn (Kf P) C (.type "type") = true) (e : ∀ P, ∃ t, findCls (Kf P) (.ref C) (.type "type") attr = some (.val (.str y t))) (hd : (x == ("__debug__" : PySem.Str)) = false) : Ev w mg mb A env m (.Attribute (.Name x px) attr pos) (.str y) := .mk fun Z s Q E T S hQ =>
  Attribute_name (name_global g S.base (by
    obtain ⟨t, e⟩ := e w.params
    exact cls_value S.base.K (hr _) e rfl (hQ _ _ (Ks.tk s _ (Nat.le_add_left _ _)) rstr)) eo.kind hx eo.globals eo.builtins hd)

theorem WS_plain : PlainCls 97 where
  set := fun P => by kernel_rfl
  over := fun P => by kernel_rfl
  dict := fun P => by kernel_rfl
  get := fun P n => by kernel_rfl
theorem WS_S : ∀ P, ∃ t, findCls (Kf P) (.ref 97) (.type "type") "S" = some (.val (.str " " t)) := fun P => ⟨_, rfl⟩
theorem WS_T : ∀ P, ∃ t, findCls (Kf P) (.ref 97) (.type "type") "T" = some (.val (.str "\t" t)) := fun P => ⟨_, rfl⟩
theorem WS_reads : ∀ P, readsIn (Kf P) 97 (.type "type") = true := fun P => by kernel_rfl
theorem WS_raw : ∀ P, takerIn (Kf P) 97 "raw" = some none ∧ findIn (Kf P) (.ref 97) "raw" = some none := fun P => ⟨by kernel_rfl, by kernel_rfl⟩
theorem WS_n : ∀ P, takerIn (Kf P) 97 "n" = some none ∧ findIn (Kf P) (.ref 97) "n" = some none := fun P => ⟨by kernel_rfl, by kernel_rfl⟩
theorem WS_nt : ∀ P, takerIn (Kf P) 97 "nt" = some none ∧ findIn (Kf P) (.ref 97) "nt" = some none := fun P => ⟨by kernel_rfl, by kernel_rfl⟩
theorem WS_norm : ∀ P, takerIn (Kf P) 97 "norm" = some none ∧ findIn (Kf P) (.ref 97) "norm" = some none := fun P => ⟨by kernel_rfl, by kernel_rfl⟩
theorem WS_simple : ∀ P, takerIn (Kf P) 97 "is_simple" = some none ∧ findIn (Kf P) (.ref 97) "is_simple" = some none := fun P => ⟨by kernel_rfl, by kernel_rfl⟩
theorem WS_makes : ∀ P, makesIn (Kf P) 97 = true := fun P => by kernel_rfl
theorem WS_init : ∀ P, findIn (Kf P) (.ref 97) "__init__" = some (some (.ref 52)) := fun P => rfl
theorem WS_indent : ∀ P, findIn (Kf P) (.ref 97) "indent_level" = some (some (.ref 66)) := fun P => rfl
end

end

section
open PySem PySem.Spec PySem.Calls PySem.W PyProof.Rows PySem.Builtin
set_option maxRecDepth 100000
set_option linter.all false
section
variable {w : World} {mg mb : PySem.Str → Option Value} {A : Around} {env : Env} {m : Vars} {h₀ : Heap} {Z F : Addr → Prop} {os : List Ow}

/-- as Iter, and only the iterator itself is read -/
structure IterW (w : World) (A : Around) (d : D) (ds : List D) : Prop where
  run : ∀ (Z : Addr → Prop) (s : Shared) (v : Value) (Q E : Value → Shared → Prop), 1 ≤ s.toks → Rep w Z s.heap v d → (∀ I wr P K s₂, Ks s s₂ → Src w A Z ds s s₂ I wr wr P K → Q (.ref I) s₂) → wpAny (model prog w) A (pyIter v) Q E s

theorem IterW.range {a b : Int} {n : Nat} (hA : A.handled = none) (hn : n = (b - a).toNat) (h1 : Builtin.Range.small a b 1 = true) : IterW w A (.range a b) ((List.range n).map fun i : Nat => D.int (a + i)) := by
  refine ⟨?_⟩; intro Z s v Q E T r hQ
  rw [Rep] at r
  obtain ⟨ra, t, u, k, rfl, nz, ir⟩ := r
  have hrs : Builtin.Range.rangeSize a b 1 = (n : Int) := by
    rw [rangeSize_one]; split <;> omega
  refine wpAny_pyIter_range ir h1 ?_
  rw [hrs]
  refine hQ s.heap.objs.size [s.heap.objs.size] (fun i v => ∃ t, v = .int (a + i * 1) t) (fun i h => IsRangeIter h s.heap.objs.size (a + (i : Nat) * 1) ((n : Int) - (i : Nat)) 1) _ (Ks.push _ _ T) ⟨?_, ?_, ?_, ?_, ?_, ?_, ?_⟩
  · rw [List.length_map, List.length_range]
    exact Walks.range (prog := prog) (w := w) hA s.heap.objs.size a 1 n
  · have := Heap.get?_push_size s.heap (o := { cls := .type "range_iterator", data := .fields #[rawInt a, rawInt (n : Int), rawInt 1] }) rfl
    simpa using this
  · intro b hb; rw [List.mem_singleton] at hb; subst hb; rw [Heap.size_push]; exact Nat.lt_succ_self _
  · intro b hb; rw [List.mem_singleton] at hb; subst hb; exact fresh_none _ _ (Nat.le_refl _)
  · rintro i h e b hb; rw [List.mem_singleton] at hb; subst hb; exact ⟨_, e⟩
  · intro b hb hb'; exact absurd hb hb'
  · rintro i v d hd ⟨t, rfl⟩
    rw [List.getElem?_map] at hd
    cases q : (List.range n)[i]? with
    | none => rw [q] at hd; cases hd
    | some j =>
      rw [q] at hd
      rw [List.getElem?_range (by have := (List.getElem?_eq_some_iff.mp q).1; simpa using this)] at q
      cases q
      cases hd
      rw [Int.mul_one]
      exact rint

theorem IterW.str {x : PySem.Str} (hA : A.handled = none) : IterW w A (.str x) (x.cps.toList.map fun c => D.str ⟨#[c]⟩) := by
  refine ⟨?_⟩; intro Z s v Q E T0 r hQ
  obtain ⟨t, rfl⟩ := Rep_str.1 r
  have key : ∀ (T : String) (o : Obj), (s.heap.push o).IsStrIter s.heap.objs.size T x t 0 → (Walks prog w A s.heap.objs.size [s.heap.objs.size] [s.heap.objs.size] x.cps.size (SignAt x) (fun i h => h.IsStrIter s.heap.objs.size T x t i)) →
      Q (.ref s.heap.objs.size) { s with heap := s.heap.push o } := fun T o st W => by
    refine hQ s.heap.objs.size [s.heap.objs.size] (SignAt x) (fun i h => h.IsStrIter s.heap.objs.size T x t i) _ (Ks.push _ _ T0) ⟨?_, st, ?_, ?_, ?_, ?_, ?_⟩
    · rw [List.length_map, Array.length_toList]
      exact W
    · intro b hb; rw [List.mem_singleton] at hb; subst hb; rw [Heap.size_push]; exact Nat.lt_succ_self _
    · intro b hb; rw [List.mem_singleton] at hb; subst hb; exact fresh_none _ _ (Nat.le_refl _)
    · rintro i h ⟨o, e, _⟩ b hb; rw [List.mem_singleton] at hb; subst hb; exact ⟨o, e⟩
    · intro b hb hb'; exact absurd hb hb'
    · rintro i v d hd ⟨c, t, hc, rfl⟩
      rw [List.getElem?_map, Array.getElem?_toList, hc] at hd
      cases hd
      exact rstr
  cases ha : x.cps.all (· < 128)
  · exact wpAny_pyIter_wide ha (key _ _ ⟨_, Heap.get?_push_size _ rfl, rfl, rfl⟩ (Walks.strWide hA _ x t))
  · exact wpAny_pyIter_ascii ha (key _ _ ⟨_, Heap.get?_push_size _ rfl, rfl, rfl⟩ (Walks.strAscii hA _ x t))

theorem Gs.base {h} (g : Gs w mg mb h₀ Z F env m os h) : Base w mg mb h := g.fs.base

/-- for x in (a text or a range): the turns may change owned things -/
theorem GS.for {x px iter body pos src ds vm} {P : Nat → Vars → List Ow → Prop} {k : Nat} {o : OutG} (hA : A.handled = none) (v : Vw os m vm) (hit : Ev w mg mb A env (vm ++ m) iter src) (hI : IterW w A src ds) (hsc : ∀ d ∈ ds, Scal d)
    (hx : env.kindOf x = some .local ∨ (env.kindOf x = some .cell ∧ (env.cells.lookup x).isSome = true)) (hkd : env.scope.kind = .function)
    (hm : P 0 m os) (hk : k ≤ ds.length)
    (hbody : ∀ i d m os, i < k → ds[i]? = some d → P i m os → GX w mg mb A env ((x, d) :: m) os body (.next (P (i + 1))))
    (hend : (k = ds.length ∧ o = .next (P k)) ∨ (∃ d P', ds[k]? = some d ∧ o = .next P' ∧ ∀ m os, P k m os → GX w mg mb A env ((x, d) :: m) os body (.brk P')))
    (hs : ∀ x, foldedSetIterable iter env x = pure x) : GS w mg mb A env m os (.For (.Name x px) iter body [] pos) o := by
  refine ⟨?_⟩; intro h₀ Z F s Q E T g hQ
  refine wpAny_For (hit.run (Zv os Z) s _ E T (g.view v).st fun u s₁ k₁ r => hI.run (Zv os Z) s₁ u _ E k₁.tok r fun I wr Pi K s₂ k₂ src => ?_) hs
  have g₁ := g.keeps k₁.heap
  have g₂ := g.keeps (k₁.trans' k₂).heap
  have n1 : ∀ a, a ∈ wr → s₁.heap.get? a = none := src.new
  have n0 : ∀ a, a ∈ wr → s.heap.get? a = none := fun a q => by
    cases e : s.heap.get? a with
    | none => rfl
    | some o => have := k₁.heap a o e; rw [n1 a q] at this; cases this
  have nz : ∀ a, a ∈ wr → ¬ Z a := fun a q z => by obtain ⟨o, e⟩ := g.fs.zin a z; rw [n0 a q] at e; cases e
  have nh : ∀ a, a ∈ wr → h₀.get? a = none := fun a q => by
    cases e : h₀.get? a with
    | none => rfl
    | some o => have := g.fs.keep a o e; rw [n0 a q] at this; cases this
  -- the state with the iterator frozen
  have G₂ : Gs w mg mb h₀ (fun a => Z a ∨ a ∈ wr) (fun a => F a ∨ a ∈ wr) env m os s₂.heap := by
    have ext : ∀ a o, s₁.heap.get? a = some o → (Z a ∨ a ∈ wr) → Z a := fun a o e z => z.elim id fun q => by rw [n1 a q] at e; cases e
    refine ⟨g₁.fs.extend k₂.heap (fun a z => .inl z) ext fun a z q => src.alive 0 _ src.st a (z.resolve_left q), fun a f => ?_, fun o ho => ⟨?_, fun a ha => ?_⟩, g.nd⟩
    · rcases f with f | q
      · exact ⟨.inl (g.fz a f).1, (g.fz a f).2⟩
      · exact ⟨.inr q, fun o => nz a q (g.fs.own a o).1, nh a q⟩
    · exact Ow.Holds.kp (Kp.of k₂.heap) (fun _ z => z.elim) (fun _ _ z => z) (Ow.Holds.zz ext (g₁.ow o ho).1)
    · have := (g.ow o ho).2 a ha
      exact ⟨.inl this.1, this.2.1, fun f => f.elim this.2.2.1 fun q => nz a q this.1, this.2.2.2⟩
  obtain ⟨⟨h₂, tk₂, rfl⟩, k₂h, T₂⟩ := k₂
  have fin : ∀ (h' : Heap) (tk : Nat), 1 ≤ tk → Kp (fun a => Fr0 h₀ F a ∨ a ∈ wr) h₂ h' → Mv (Fr0 h₀ F) s { s₁ with heap := h', toks := tk } := fun h' tk tt kk => by
    obtain ⟨⟨h₁, tk₁, rfl⟩, k₁h, _⟩ := k₁
    refine ⟨⟨h', tk, rfl⟩, fun b o n e => kk b o (fun q => q.elim n fun q => ?_) (k₂h b o (k₁h b o e)), tt⟩
    rw [n0 b q] at e; cases e
  have unfreeze : ∀ {Z' m' os' h'}, Gs w mg mb h₀ Z' (fun a => F a ∨ a ∈ wr) env m' os' h' → Gs w mg mb h₀ Z' F env m' os' h' := fun G => ⟨G.fs, fun a f => G.fz a (.inl f), fun o ho => ⟨(G.ow o ho).1, fun a ha => let q := (G.ow o ho).2 a ha; ⟨q.1, q.2.1, fun f => q.2.2.1 (.inl f), q.2.2.2⟩⟩, G.nd⟩
  have zk0 : Zk h₀ Z (fun a => Z a ∨ a ∈ wr) := fun a o _ z => .inl z
  refine codeAny_forLoop (fun n s' => ∃ i h' tk Z' m' os', s' = { s₁ with heap := h', toks := tk } ∧ 1 ≤ tk ∧ i ≤ k ∧ n = ds.length + 1 - i ∧ K i h' ∧ Zk h₀ Z Z' ∧ Gs w mg mb h₀ Z' (fun a => F a ∨ a ∈ wr) env m' os' h' ∧ P i m' os' ∧ Kp (fun a => Fr0 h₀ F a ∨ a ∈ wr) h₂ h') ?_
    (ds.length + 1) ⟨0, h₂, tk₂, _, m, os, rfl, T₂, Nat.zero_le _, rfl, src.st, zk0, G₂, hm, Kp.refl _ _⟩
  rintro n s' ⟨i, h', tk, Z', m', os', rfl, tt, hik, rfl, hK, zk, G, hp, kk⟩
  have hwr : ∀ a, a ∈ wr → Z' a ∧ ¬ Own env a ∧ h₀.get? a = none := fun a q => G.fz a (.inr q)
  have step : ∀ {h₃ : Heap} {j}, K j h₃ → Kp (fun a => a ∈ wr) h' h₃ → Gs w mg mb h₀ Z' (fun a => F a ∨ a ∈ wr) env m' os' h₃ := fun hK₃ k₃ =>
    G.other k₃ (fun a q => (hwr a q).1) (fun a q => src.alive _ _ hK₃ a q) (fun a q => (hwr a q).2.1) (fun a q => (hwr a q).2.2) fun o ho a ha q => ((G.ow o ho).2 a ha).2.2.1 (.inr q)
  by_cases hlt : i < ds.length
  · refine tokd tt (src.walks.item i _ _ _ hlt hK fun v h₃ tk₃ hP hK₃ hk₃ T₃ => ?_)
    have k₃ : Kp (fun a => a ∈ wr) h' h₃ := hk₃
    have G₃ := step hK₃ k₃
    obtain ⟨d, hd⟩ : ∃ d, ds[i]? = some d := ⟨ds[i], by simp [hlt]⟩
    have rv : Rep w Z' h₃ v d := hsc d (List.mem_of_getElem? hd) _ _ _ _ _ _ (src.item i v d hd hP)
    refine wpAny_assign_Name (G₃.fs.store T₃ rv hx hkd fun s₄ k₄ F₄ => ?_)
    obtain ⟨⟨h₄, tk₄, rfl⟩, k₄h, T₄⟩ := k₄
    have G₄ := G₃.ownMv k₄h F₄
    have hK₄ : K (i + 1) h₄ := src.walks.frame _ _ _ hK₃ fun b hb o e => k₄h b o (hwr b hb).2.1 e
    have ko : ∀ a, Own env a → Fr0 h₀ F a := fun a o => ⟨fun f => (g.fz a f).2.1 o, (g.fs.own a o).2⟩
    have kk₄ : Kp (fun a => Fr0 h₀ F a ∨ a ∈ wr) h₂ h₄ := (kk.trans (k₃.mono fun _ q => .inr q)).trans (k₄h.mono fun a q => .inl (ko a q))
    have sub : ∀ a, Fr0 h₀ (fun a => F a ∨ a ∈ wr) a → Fr0 h₀ F a := fun a q => ⟨fun f => q.1 (.inl f), q.2⟩
    by_cases hik' : i < k
    · refine (hbody i d m' os' hik' hd hp).run h₀ _ _ _ _ _ T₄ G₄ fun f s₅ k₅ p => ?_
      obtain ⟨rfl, Z₅, m₅, os₅, zk₅, G₅, hp₅⟩ := p
      obtain ⟨⟨h₅, tk₅, rfl⟩, k₅h, T₅⟩ := k₅
      exact ⟨ds.length + 1 - (i + 1), by omega, i + 1, h₅, tk₅, Z₅, m₅, os₅, rfl, T₅, hik', rfl, src.walks.frame _ _ _ hK₄ fun b hb o e => k₅h b o (fun q => q.1 (.inr hb)) e, zk.trans zk₅, G₅, hp₅, kk₄.trans (k₅h.mono fun a q => .inl (sub a q))⟩
    · have hik2 : i = k := by omega
      subst hik2
      rcases hend with ⟨e, _⟩ | ⟨d', P', hd', rfl, hb⟩
      · omega
      · rw [hd] at hd'; cases hd'
        refine (hb m' os' hp).run h₀ _ _ _ _ _ T₄ G₄ fun f s₅ k₅ p => ?_
        obtain ⟨rfl, Z₅, m₅, os₅, zk₅, G₅, hp₅⟩ := p
        obtain ⟨⟨h₅, tk₅, rfl⟩, k₅h, T₅⟩ := k₅
        exact hQ _ _ (fin h₅ tk₅ T₅ (kk₄.trans (k₅h.mono fun a q => .inl (sub a q)))) ⟨rfl, Z₅, m₅, os₅, zk.trans zk₅, unfreeze G₅, hp₅⟩
  · have hin : i = ds.length := by omega
    have hkk : k = ds.length := by omega
    refine tokd tt (src.walks.done _ _ _ (hin ▸ hK) fun h₃ tk₃ hk₃ T₃ => ?_)
    have k₃ : Kp (fun a => a ∈ wr) h' h₃ := hk₃
    have U := unfreeze G
    have G₃ : Gs w mg mb h₀ (fun a => Z' a ∧ a ∉ wr) F env m' os' h₃ := by
      refine ⟨U.fs.done k₃ (fun a q => (hwr a q).1) (fun a z => z.1) (fun a z => z.2) (fun a o => ⟨(U.fs.own a o).1, fun q => (hwr a q).2.1 o⟩) (fun a q => (hwr a q).2.2), fun a f => ⟨⟨(U.fz a f).1, fun q => ?_⟩, (U.fz a f).2⟩, fun o ho => ⟨?_, fun a ha => ?_⟩, U.nd⟩
      · exact nz a q (g.fz a f).1
      · exact Ow.Holds.zz (fun a o _ z => z.1) ((U.ow o ho).1.kp k₃ (fun a q => (hwr a q).1) fun a ha q => ((G.ow o ho).2 a ha).2.2.1 (.inr q))
      · exact ⟨⟨((U.ow o ho).2 a ha).1, fun q => ((G.ow o ho).2 a ha).2.2.1 (.inr q)⟩, ((U.ow o ho).2 a ha).2⟩
    have zk' : Zk h₀ Z (fun a => Z' a ∧ a ∉ wr) := fun a o e z => ⟨zk a o e z, fun q => by rw [nh a q] at e; cases e⟩
    rcases hend with ⟨e, rfl⟩ | ⟨d', P', hd', _⟩
    · have eik : i = k := by omega
      exact wpAny_execs_nil (hQ _ _ (fin h₃ tk₃ T₃ (kk.trans (k₃.mono fun _ q => .inr q))) ⟨rfl, _, m', os', zk', G₃, eik ▸ hp⟩)
    · have := (List.getElem?_eq_some_iff.mp hd').1
      omega
end

end

section
open PySem PySem.Spec PySem.Calls PySem.W PyProof.Rows PySem.Builtin
set_option maxRecDepth 100000
set_option linter.all false
section
variable {w : World} {mg mb : PySem.Str → Option Value} {A : Around} {env : Env} {m : Vars} {h₀ : Heap} {Z F : Addr → Prop} {os : List Ow}

theorem under_make (A : Around) (C : Addr) (vals : List Value) : (A.under (.builtin "type.__call__" ⟨.ref C :: vals, []⟩)).handled = A.handled ∧ (A.under (.builtin "type.__call__" ⟨.ref C :: vals, []⟩)).depth ≤ A.depth + 1 ∧ (A.under (.builtin "type.__call__" ⟨.ref C :: vals, []⟩)).units ≤ A.units + 4 := by
  refine ⟨rfl, ?_, ?_⟩
  · exact Nat.le_of_eq (depth_under_make A C vals)
  · exact Nat.add_le_add_left (Nat.le_of_ble_eq_true rfl) _
theorem GX.weaken {m' ss o} (h : GX w mg mb A env m' os ss o) (hm : ∀ x d, m'.lookup x = some d → m.lookup x = some d) : GX w mg mb A env m os ss o := .mk fun h₀ Z F s Q E T g hQ =>
  h.run h₀ Z F s Q E T (g.weaken hm) hQ
theorem GS.brk {pos} {P : Vars → List Ow → Prop} (hP : P m os) : GS w mg mb A env m os (.Break pos) (.brk P) := .mk fun h₀ Z F s Q E T g hQ =>
  wpAny_Break (hQ _ _ (Mv.refl _ _ T) ⟨rfl, Z, m, os, Zk.refl, g, hP⟩)

/-- a method of the text: where it stands -/
structure IsMeth (f : Addr) (name qual : PySem.Str) (params : Arguments) (body : List Stmt) (scope : Scope) : Prop where
  ex : ∀ P : Params, ∃ oc od doc pm an cdv ct osl, (Kf P).lookup f = some ⟨oc, od, .func (fnOf name qual params body scope .none .none doc pm an cdv ct), osl⟩ ∧ codeIn (Kf P) cdv qual = true

theorem Contract.init {C fI : Addr} {name qual params body scope n} {self : PySem.Str} {ps : List PySem.Str} {ds : List D} {fields : List (PySem.Str × D)} (dm : IsMeth fI name qual params body scope) (hmk : ∀ P, makesIn (Kf P) C = true) (hin : ∀ P, findIn (Kf P) (.ref C) "__init__" = some (some (.ref fI))) (hfn : ∀ P, typeIn (Kf P) (.ref fI) = some (.type "function"))
    (hnd : (self :: ps).Nodup) (hlen : ps.length = ds.length)
    (hbind : ∀ doc pm an cdv ct v vs, vs.length = ds.length → bindArgs (fnOf name qual params body scope .none .none doc pm an cdv ct) ⟨v :: vs, []⟩ = pure ((self, v) :: ps.zip vs))
    (hcell : ∀ x ∈ scope.names, x.2 ≠ .cell) (hloc : ∀ x ∈ self :: ps, scope.names.lookup x = some .local) (hco : scope.isCoroutine = false) (hgen : scope.isGenerator = false) (hk : scope.kind = .function)
    (hbody : ∀ A' L cdv y dx, Room A' n → GX w mg mb A' (envOf qual scope L fI cdv) ((self, .val (.ref y)) :: ps.zip ds) [.inst y dx C []] body (.next fun m os => os = [.inst y dx C fields])) (hA : Room A (n + 2)) : OpL w mg mb A (fun vs => call (.ref C) vs) ds (.obj C fields) := by
  refine ⟨?_⟩; intro Z s vs Q E T B zi r hQ
  obtain ⟨oc, od, doc, pm, an, cdv, ct, osl, e, hc⟩ := dm.ex w.params
  have hl := RepL.length vs ds r
  refine wpAny_call ?_
  obtain ⟨hp, gs, dr, tk, oss⟩ := s
  refine make_core (makes_of B.K (hmk _)) (looks_findIn B.K (hin _)) (fun self => bind_fn B.K self (hfn _)) (.inl rfl) ?_
  generalize hH : (hp.push emptyDict).push (instObj C hp.objs.size) = H
  have s1 : (hp.push emptyDict).objs.size = hp.objs.size + 1 := Heap.size_push ..
  have s2 : H.objs.size = hp.objs.size + 2 := by rw [← hH, Heap.size_push, s1]
  have kH : ∀ b o, hp.get? b = some o → H.get? b = some o := fun b o e => by rw [← hH]; exact Heap.get?_push_of_some _ (Heap.get?_push_of_some _ e)
  have gx : H.get? (hp.objs.size + 1) = some (instObj C hp.objs.size) := by rw [← hH, ← s1]; exact Heap.get?_push_size _ rfl
  have gd : H.get? hp.objs.size = some emptyDict := by rw [← hH]; exact Heap.get?_push_of_some _ (Heap.get?_push_size _ rfl)
  have hmb : ∀ x ∈ (self, Value.ref (hp.objs.size + 1)) :: ps.zip vs, x.1 ∈ self :: ps := fun x hx => by
    rcases List.mem_cons.mp hx with rfl | hx
    · exact .head _
    · exact .tail _ (List.of_mem_zip hx).1
  refine codeAny_call_def (fd := fnOf name qual params body scope .none .none doc pm an cdv ct) (body := body) (binds := (self, .ref (hp.objs.size + 1)) :: ps.zip vs) (by have := hA.depth; have := (under_make A C vs).2.1; omega) (kH _ _ (B.K _ _ e)) rfl (B.nolimit.keeps kH) (codeRec_of (B.K.keeps kH) hc) rfl (BindsTo.of_eq (hbind _ _ _ _ _ _ vs hl)) hcell
    (fun x hx => hloc _ (hmb x hx)) (fun h₁ hns hk₁ => ?_) hco hgen hk
  have TT : 1 ≤ tk + ((self, Value.ref (hp.objs.size + 1)) :: ps.zip vs).length := Nat.le_add_right_of_le T
  have um := under_make A C vs
  have hroom : Room ((A.under (.builtin "type.__call__" ⟨.ref C :: vs, []⟩)).deeper (envOf qual scope H.objs.size fI cdv)) n := ⟨um.1.trans hA.handled, by have := hA.depth; show (A.under _).depth + 1 + n < _; omega, by have := hA.units; show (A.under _).units + 3 + 16 * n < _; omega⟩
  have fr : ∀ a, hp.objs.size ≤ a → hp.get? a = none := fun a ha => fresh_none _ _ ha
  have nz : ∀ a, hp.objs.size ≤ a → ¬ Z a := fun a ha z => by obtain ⟨o, e⟩ := zi a z; have := fr a ha; simp only at e; rw [this] at e; cases e
  have F0 : Fs w mg mb hp (fun a => Z a ∨ a = H.objs.size ∨ a = hp.objs.size + 1 ∨ a = hp.objs.size) (envOf qual scope H.objs.size fI cdv) ((self, .val (.ref (hp.objs.size + 1))) :: ps.zip ds) h₁ := by
    have nd' : (((self, Value.ref (hp.objs.size + 1)) :: ps.zip vs).map (·.1)).Nodup := by
      rw [List.map_cons, List.map_fst_zip (by omega)]; exact hnd
    have look : ∀ x v, (x, v) ∈ (self, Value.ref (hp.objs.size + 1)) :: ps.zip vs → Look (envOf qual scope H.objs.size fI cdv) h₁ x v := fun x v hx => by
      refine .inl ⟨hloc _ (hmb _ hx), _, hns, ?_⟩
      refine lookup_of_mem (l := ((self, Value.ref (hp.objs.size + 1)) :: ps.zip vs).reverse) ?_ (List.mem_reverse.mpr hx)
      rw [List.map_reverse]; exact (List.pairwise_reverse.mpr (nd'.imp fun h => h.symm))
    refine ⟨B, fun b o e => hk₁ _ _ (kH _ _ e), fun a z => ?_, fun x d' hx => ?_, fun a z => ?_, ⟨_, hns⟩, fun x c hx => (by cases hx), fun x y c hx => (by cases hx)⟩
    · rcases z with z | rfl | rfl | rfl
      · obtain ⟨o, q⟩ := zi a z; exact ⟨o, hk₁ _ _ (kH _ _ q)⟩
      · obtain ⟨o, _, _, q, _⟩ := hns; exact ⟨o, q⟩
      · exact ⟨_, hk₁ _ _ gx⟩
      · exact ⟨_, hk₁ _ _ gd⟩
    · by_cases q : x = self
      · subst q
        rw [lookup_cons_eq] at hx; cases hx
        exact ⟨_, look _ _ (.head _), Rep_val.2 rfl⟩
      · rw [lookup_cons_ne q] at hx
        obtain ⟨v, hv, rv⟩ := zip_lookup r hx
        refine ⟨v, look _ _ (.tail _ hv), Rep.keeps (Rep.zz (fun a o e z => ?_) _ _ rv) fun b o e => hk₁ _ _ (kH _ _ e)⟩
        rcases z with z | rfl | rfl | rfl
        · exact z
        · have e' : hp.get? H.objs.size = some o := e
          rw [fr H.objs.size (by omega)] at e'; cases e'
        · have e' : hp.get? (hp.objs.size + 1) = some o := e
          rw [fr (hp.objs.size + 1) (by omega)] at e'; cases e'
        · have e' : hp.get? hp.objs.size = some o := e
          rw [fr hp.objs.size (by omega)] at e'; cases e'
    · rcases z with rfl | ⟨x, hx⟩
      · exact ⟨.inr (.inl rfl), fr H.objs.size (by omega)⟩
      · cases hx
  have G0 : Gs w mg mb hp (fun a => Z a ∨ a = H.objs.size ∨ a = hp.objs.size + 1 ∨ a = hp.objs.size) nil (envOf qual scope H.objs.size fI cdv) ((self, .val (.ref (hp.objs.size + 1))) :: ps.zip ds) [.inst (hp.objs.size + 1) hp.objs.size C []] h₁ := by
    refine ⟨F0, fun a f => f.elim, fun o ho => ?_, ?_⟩
    · rw [List.mem_singleton] at ho
      subst ho
      refine ⟨⟨fun _ => none, ⟨hk₁ _ _ gx, [], 0, hk₁ _ _ gd, fun _ => rfl, rfl, by decide⟩, by rw [RepF]; trivial, ⟨[], 0, hk₁ _ _ gd, Nat.le_refl _⟩, fun _ _ => rfl⟩, fun a ha => ?_⟩
      simp only [Ow.ads, List.mem_cons, List.not_mem_nil, or_false] at ha
      rcases ha with rfl | rfl
      · refine ⟨.inr (.inr (.inl rfl)), fun o => ?_, fun f => f, fr _ (by omega)⟩
        rcases o with e | ⟨x, hx⟩
        · have : hp.objs.size + 1 = H.objs.size := e
          omega
        · cases hx
      · refine ⟨.inr (.inr (.inr rfl)), fun o => ?_, fun f => f, fr _ (by omega)⟩
        rcases o with e | ⟨x, hx⟩
        · have : hp.objs.size = H.objs.size := e
          omega
        · cases hx
    · simp [Ow.ads]
  refine wpAny_mono ((hbody _ _ _ _ _ hroom).run hp _ nil _ _ (fun _ _ => False) TT G0 fun fl s' k p => ?_) (fun _ _ q => q) (fun _ _ q => q.elim)
  obtain ⟨rfl, Z', m', os', zk, G, rfl⟩ := p
  obtain ⟨⟨h', tk', rfl⟩, _, kt⟩ := k
  refine ⟨rfl, hQ _ _ (Ks.of (s := ⟨hp, gs, dr, tk, oss⟩) kt G.fs.keep) ?_⟩
  obtain ⟨mm, i, rf, _, on⟩ := (G.ow _ (.head _)).1
  rw [Rep]
  refine ⟨_, _, mm, rfl, nz _ (by omega), nz _ (by omega), i, RepF.zz (fun a o e z => ?_) _ _ rf, on⟩
  obtain ⟨o, e⟩ := zi a z
  exact zk a o e (.inl z)
end

end

section
open PySem PySem.Spec PySem.Calls PySem.W PyProof.Rows PySem.Builtin
set_option maxRecDepth 100000
set_option linter.all false
section
variable {w : World} {mg mb : PySem.Str → Option Value} {A : Around} {env : Env} {m : Vars} {h₀ : Heap} {Z F : Addr → Prop} {os : List Ow}

theorem GX.consL {st ss m' o} (h : ExS w mg mb A env m st (.next m')) (h' : GX w mg mb A env m' os ss o) : GX w mg mb A env m os (st :: ss) o :=
  GX.cons (GS.lift (P := fun m'' os'' => m'' = m' ∧ os'' = os) h ⟨rfl, rfl⟩) (by rintro _ _ ⟨rfl, rfl⟩; exact h')
theorem GX.consRet {st ss d} (h : ExS w mg mb A env m st (.ret d)) : GX w mg mb A env m os (st :: ss) (.ret d) :=
  GX.leave (GS.liftRet h) fun _ e => by cases e
theorem GX.setAttr {x px name pos' value pos y dx C l d ss o} {pre post : List Ow} (hc : PlainCls C) (ht : ∀ P, takerIn (Kf P) C name = some none) (hv : Ev w mg mb A env m value d) (hx : Ev w mg mb A env m (.Name x px) (.val (.ref y))) (hn : name ∉ l.map (·.1)) (hl : l.length ≤ 20)
    (hs : swapsWith value (some (.Attribute (.Name x px) name pos')) pos.line env = pure false) (h : GX w mg mb A env m (pre ++ .inst y dx C ((name, d) :: l) :: post) ss o) : GX w mg mb A env m (pre ++ .inst y dx C l :: post) (.Assign [.Attribute (.Name x px) name pos'] value pos :: ss) o :=
  GX.cons (GS.setAttr (P := fun m'' os'' => m'' = m ∧ os'' = _) hc ht hv hx hn hl ⟨rfl, rfl⟩ hs) (by rintro _ _ ⟨rfl, rfl⟩; exact h)
theorem GX.setItem {x px idx pos' value pos a l d vm ss o} {k : Nat} {pre post : List Ow} (v : Vw (pre ++ .lst a l :: post) m vm) (hv : Ev w mg mb A env (vm ++ m) value d) (hd : Scal d) (hx : ∀ p, Ev w mg mb A env m (.Name x p) (.val (.ref a))) (hi : Ev w mg mb A env m idx (.int k)) (hkl : k < l.length) (hk63 : k < 2 ^ 60)
    (hs : swapsWith value (some (.Subscript (.Name x px) idx pos')) pos.line env = pure false) (h : GX w mg mb A env m (pre ++ .lst a (l.set k d) :: post) ss o) : GX w mg mb A env m (pre ++ .lst a l :: post) (.Assign [.Subscript (.Name x px) idx pos'] value pos :: ss) o :=
  GX.cons (GS.setItem (P := fun m'' os'' => m'' = m ∧ os'' = _) v hv hd hx hi hkl hk63 ⟨rfl, rfl⟩ hs) (by rintro _ _ ⟨rfl, rfl⟩; exact h)
theorem GX.newList {x value pos pos' l vm ss o} (v : Vw os m vm) (h : EvF w mg mb A env (vm ++ m) value l) (hl : ∀ d ∈ l, Scal d)
    (hx : env.kindOf x = some .local ∨ (env.kindOf x = some .cell ∧ (env.cells.lookup x).isSome = true)) (hk : env.scope.kind = .function)
    (hs : swapsWith value (some (.Name x pos')) pos.line env = pure false) (h' : ∀ a, GX w mg mb A env ((x, .val (.ref a)) :: m) (.lst a l :: os) ss o) : GX w mg mb A env m os (.Assign [.Name x pos'] value pos :: ss) o :=
  GX.cons (GS.newList (P := fun m'' os'' => ∃ a, m'' = (x, .val (.ref a)) :: m ∧ os'' = .lst a l :: os) v h (.inl hl) (fun _ => trivial) (fun a => ⟨a, rfl, rfl⟩) hl hx hk hs) (by rintro _ _ ⟨a, rfl, rfl⟩; exact h' a)
theorem GX.newListN {x value pos pos' l ss o} (h : EvF w mg mb A env m value l)
    (hx : env.kindOf x = some .local ∨ (env.kindOf x = some .cell ∧ (env.cells.lookup x).isSome = true)) (hk : env.scope.kind = .function)
    (hs : swapsWith value (some (.Name x pos')) pos.line env = pure false) (h' : ∀ a, GX w mg mb A env ((x, .val (.ref a)) :: m) (.lst a l :: os) ss o) : GX w mg mb A env m os (.Assign [.Name x pos'] value pos :: ss) o :=
  GX.cons (GS.newListN (P := fun m'' os'' => ∃ a, m'' = (x, .val (.ref a)) :: m ∧ os'' = .lst a l :: os) h (fun a => ⟨a, rfl, rfl⟩) hx hk hs) (by rintro _ _ ⟨a, rfl, rfl⟩; exact h' a)
theorem GX.append {x px apos e cpos pos a l d ss o} {pre post : List Ow} (hv : Ev w mg mb A env m e d) (hx : Ev w mg mb A env m (.Name x px) (.val (.ref a))) (hsz : l.length ≤ 64)
    (hbase : attributeBase (.Name x px) "append" env (eval (.Name x px) env) = eval (.Name x px) env) (he : starEach [e] env = [(false, eval e env)]) (hline : (apos.endLine == cpos.line) = true)
    (hin : interactive env = false) (hs : swapsWith (.Call (.Attribute (.Name x px) "append" apos) [e] [] cpos) none pos.line env = pure false) (h : GX w mg mb A env m (pre ++ .lst a (l ++ [d]) :: post) ss o) :
    GX w mg mb A env m (pre ++ .lst a l :: post) (.Expr (.Call (.Attribute (.Name x px) "append" apos) [e] [] cpos) pos :: ss) o :=
  GX.cons (GS.append (P := fun m'' os'' => m'' = m ∧ os'' = _) hv hx hsz ⟨rfl, rfl⟩ hbase he hline hin hs) (by rintro _ _ ⟨rfl, rfl⟩; exact h)
theorem ads_sub : ∀ {os' os : List Ow}, os'.Sublist os → (os'.flatMap Ow.ads).Sublist (os.flatMap Ow.ads)
  | _, _, .slnil => .slnil
  | _, _, .cons a h => by rw [List.flatMap_cons]; exact (ads_sub h).trans (List.sublist_append_right _ _)
  | _, _, .cons_cons a h => by rw [List.flatMap_cons, List.flatMap_cons]; exact List.Sublist.append_left (ads_sub h) _
theorem GX.drop {os' ss o} (hs : os'.Sublist os) (h : GX w mg mb A env m os' ss o) : GX w mg mb A env m os ss o := .mk fun h₀ Z F s Q E T g hQ =>
  h.run h₀ Z F s Q E T ⟨g.fs, g.fz, fun o ho => g.ow o (hs.subset ho), g.nd.sublist (ads_sub hs)⟩ hQ
theorem EvF.eq {e l l'} (h : EvF w mg mb A env m e l) (hl : l = l') : EvF w mg mb A env m e l' := hl ▸ h

theorem GX.setAttr0 {x px name pos' value pos y dx C l d ss o} {post : List Ow} (hc : PlainCls C) (ht : ∀ P, takerIn (Kf P) C name = some none) (hv : Ev w mg mb A env m value d) (hx : Ev w mg mb A env m (.Name x px) (.val (.ref y))) (hn : name ∉ l.map (·.1)) (hl : l.length ≤ 20)
    (hs : swapsWith value (some (.Attribute (.Name x px) name pos')) pos.line env = pure false) (h : GX w mg mb A env m (.inst y dx C ((name, d) :: l) :: post) ss o) : GX w mg mb A env m (.inst y dx C l :: post) (.Assign [.Attribute (.Name x px) name pos'] value pos :: ss) o :=
  GX.setAttr (pre := []) hc ht hv hx hn hl hs h
theorem GX.setItem0 {x px idx pos' value pos a l d vm ss o} {k : Nat} {post : List Ow} (v : Vw (.lst a l :: post) m vm) (hv : Ev w mg mb A env (vm ++ m) value d) (hd : Scal d) (hx : ∀ p, Ev w mg mb A env m (.Name x p) (.val (.ref a))) (hi : Ev w mg mb A env m idx (.int k)) (hkl : k < l.length) (hk63 : k < 2 ^ 60)
    (hs : swapsWith value (some (.Subscript (.Name x px) idx pos')) pos.line env = pure false) (h : GX w mg mb A env m (.lst a (l.set k d) :: post) ss o) : GX w mg mb A env m (.lst a l :: post) (.Assign [.Subscript (.Name x px) idx pos'] value pos :: ss) o :=
  GX.setItem (pre := []) v hv hd hx hi hkl hk63 hs h
theorem GX.append0 {x px apos e cpos pos a l d ss o} {post : List Ow} (hv : Ev w mg mb A env m e d) (hx : Ev w mg mb A env m (.Name x px) (.val (.ref a))) (hsz : l.length ≤ 64)
    (hbase : attributeBase (.Name x px) "append" env (eval (.Name x px) env) = eval (.Name x px) env) (he : starEach [e] env = [(false, eval e env)]) (hline : (apos.endLine == cpos.line) = true)
    (hin : interactive env = false) (hs : swapsWith (.Call (.Attribute (.Name x px) "append" apos) [e] [] cpos) none pos.line env = pure false) (h : GX w mg mb A env m (.lst a (l ++ [d]) :: post) ss o) :
    GX w mg mb A env m (.lst a l :: post) (.Expr (.Call (.Attribute (.Name x px) "append" apos) [e] [] cpos) pos :: ss) o :=
  GX.append (pre := []) hv hx hsz hbase he hline hin hs h
theorem GX.append1 {x px apos e cpos pos a l d ss o o1} {post : List Ow} (hv : Ev w mg mb A env m e d) (hx : Ev w mg mb A env m (.Name x px) (.val (.ref a))) (hsz : l.length ≤ 64)
    (hbase : attributeBase (.Name x px) "append" env (eval (.Name x px) env) = eval (.Name x px) env) (he : starEach [e] env = [(false, eval e env)]) (hline : (apos.endLine == cpos.line) = true)
    (hin : interactive env = false) (hs : swapsWith (.Call (.Attribute (.Name x px) "append" apos) [e] [] cpos) none pos.line env = pure false) (h : GX w mg mb A env m (o1 :: .lst a (l ++ [d]) :: post) ss o) :
    GX w mg mb A env m (o1 :: .lst a l :: post) (.Expr (.Call (.Attribute (.Name x px) "append" apos) [e] [] cpos) pos :: ss) o :=
  GX.append (pre := [o1]) hv hx hsz hbase he hline hin hs h
theorem GX.release0 {x a l ss o} {post : List Ow} (hx : m.lookup x = some (.val (.ref a))) (h : GX w mg mb A env ((x, .list l) :: m) post ss o) : GX w mg mb A env m (.lst a l :: post) ss o := GX.release (pre := []) hx h
end
structure Ws where
  cnt : List Nat
  b : Nat
  n : Nat
  nt : Nat
def grown (cnt : List Nat) (b : Nat) : List Nat := cnt ++ List.replicate (b + 1 - cnt.length) 0
def bump (cnt : List Nat) (b : Nat) : List Nat := (grown cnt b).set b ((grown cnt b).getD b 0 + 1)
def wsStep (x : Ws) (c : Nat) : Ws := bif c == 32 then { x with n := x.n + 1, b := x.b + 1 } else { cnt := bump x.cnt x.b, b := 0, n := x.n + 1, nt := x.nt + 1 }
def wsOf (l : List Nat) : Ws := l.foldl wsStep ⟨[], 0, 0, 0⟩
abbrev intsD (l : List Nat) : List D := l.map fun n : Nat => D.int (n : Int)
def wsFields (X : List Nat) (x : Ws) : List (PySem.Str × D) := [("is_simple", .bool (decide (x.cnt.length ≤ 1))), ("norm", .tup [.tup (intsD x.cnt), .int x.b]), ("nt", .int x.nt), ("n", .int x.n), ("raw", .str (ofL X))]
def wsVars (a y : Addr) (x : Ws) : Vars := [("count", .val (.ref a)), ("nt", .int x.nt), ("n", .int x.n), ("b", .int x.b), ("T", .str "\t"), ("S", .str " "), ("self", .val (.ref y))]
theorem grown_len {cnt b} : (grown cnt b).length = max cnt.length (b + 1) := by
  unfold grown; rw [List.length_append, List.length_replicate]; omega
theorem wsOf_bound (l : List Nat) : (wsOf l).b ≤ l.length ∧ (wsOf l).cnt.length ≤ l.length := by
  suffices h : ∀ (l : List Nat) (x : Ws) (k : Nat), x.b ≤ k → x.cnt.length ≤ k → (l.foldl wsStep x).b ≤ k + l.length ∧ (l.foldl wsStep x).cnt.length ≤ k + l.length by
    have := h l ⟨[], 0, 0, 0⟩ 0 (Nat.le_refl _) (Nat.le_refl _)
    unfold wsOf; omega
  intro l
  induction l with
  | nil => intro x k h1 h2; exact ⟨h1, h2⟩
  | cons c l ih =>
    intro x k h1 h2
    have := ih (wsStep x c) (k + 1) (by
      unfold wsStep; cases c == 32
      · exact Nat.zero_le _
      · show x.b + 1 ≤ k + 1; omega) (by
      unfold wsStep; cases c == 32
      · show (bump x.cnt x.b).length ≤ k + 1
        unfold bump; rw [List.length_set, grown_len]; omega
      · show x.cnt.length ≤ k + 1; omega)
    rw [List.foldl_cons, List.length_cons]; omega
theorem wsOf_snoc (l : List Nat) (c : Nat) : wsOf (l ++ [c]) = wsStep (wsOf l) c := by unfold wsOf; rw [List.foldl_append]; rfl

end

section
open PySem PySem.Spec PySem.Calls PySem.W PyProof.Rows
set_option maxRecDepth 100000
set_option linter.all false
set_option maxHeartbeats 4000000
section
variable {w : World} {mg mb : PySem.Str → Option Value} {A : Around} {env : Env} {m : Vars}
local macro_rules
  | `(tactic| walk_at "asg0") => `(tactic| (with_reducible apply ExS.assign (hx := .inl (by with_unfolding_all rfl)) (hk := by with_unfolding_all rfl) (hs := by with_unfolding_all rfl); walk_at "ev"))
  | `(tactic| walk_at "gasg") => `(tactic| (with_reducible apply GX.consL; walk_at "asg0"))
theorem str1_ne {c k : Nat} (h : c ≠ k) : ((⟨#[c]⟩ : PySem.Str) == ⟨#[k]⟩) = false := beq_false_of_ne fun e => h (by simpa using congrArg (fun x : PySem.Str => x.cps) e)
theorem LSub.skip {m m' : Vars} {y e} (h : ∀ x d, m'.lookup x = some d → m.lookup x = some d) (hy : y ∉ m'.map (·.1)) : ∀ x d, m'.lookup x = some d → List.lookup x ((y, e) :: m) = some d := fun x d hx => by
  by_cases q : x = y
  · subst q
    exact absurd (List.mem_map_of_mem (f := fun p : PySem.Str × D => p.1) (PySem.mem_of_lookup hx)) hy
  · rw [lookup_cons_ne q]; exact h x d hx
theorem wsVars_names {a y W} : ("ch" : PySem.Str) ∉ (wsVars a y W).map (·.1) := by show ("ch" : PySem.Str) ∉ (["count", "nt", "n", "b", "T", "S", "self"] : List PySem.Str); decide
theorem str1_eq {c k : Nat} (h : c = k) : ((⟨#[c]⟩ : PySem.Str) == ⟨#[k]⟩) = true := by subst h; exact beq_self_eq_true _
theorem wsStep32 {W} : wsStep W 32 = { W with n := W.n + 1, b := W.b + 1 } := rfl
theorem wsStep9 {W} : wsStep W 9 = { cnt := bump W.cnt W.b, b := 0, n := W.n + 1, nt := W.nt + 1 } := rfl
theorem nmem {l : List (PySem.Str × D)} {n : PySem.Str} (h : (l.map (·.1)).contains n = false) : n ∉ l.map (·.1) := fun q => by
  rw [List.contains_iff_mem.mpr q] at h; cases h
theorem flat1 {α} {x : α} : ∀ n, (List.replicate n [x]).flatten = List.replicate n x
  | 0 => rfl
  | n + 1 => by rw [List.replicate_succ, List.flatten_cons, flat1 n, List.replicate_succ]; rfl
theorem ws_contract {pre rest : List Nat} {c : Nat} (hp : ∀ x ∈ pre, x = 32 ∨ x = 9) (hc : c ≠ 32 ∧ c ≠ 9) (hl : pre.length ≤ 60) (hA : Room A 3) :
    OpL w mg mb A (fun vs => call (.ref 97) vs) [.str (ofL (pre ++ c :: rest))] (.obj 97 (wsFields (pre ++ c :: rest) (wsOf pre))) := by
  apply Contract.init (C := 97) (fI := 52) (self := "self") (ps := ["ws"]) (n := 1) (hA := hA)
  case dm => walk_at "def"
  case hmk => exact WS_makes
  case hin => exact WS_init
  case hfn => exact fun P => by kernel_rfl
  case hbody =>
    intro A' L cdv y dx hA'
    have hH := hA'.handled
    with_reducible refine GX.setAttr0 WS_plain (fun P => (WS_raw P).1) (d := .str (ofL (pre ++ c :: rest))) (by walk_at "name") (by walk_at "name") (nmem (by walk_at "rf")) (Nat.le_of_ble_eq_true (by walk_at "rf")) (by walk_at "rf") ?_
    apply GX.consL
    · apply ExS.assignSwap (xs := ["S", "T"]) (ds := [.str " ", .str "\t"])
      case h =>
        exact Ev.tup (EvL.cons (Ev.clsStr gl_WS (by walk_at "eok") (by walk_at "rf") WS_reads WS_S (by decide)) (EvL.cons (Ev.clsStr gl_WS (by walk_at "eok") (by walk_at "rf") WS_reads WS_T (by decide)) EvL.nil (by walk_at "rf")) (by walk_at "rf")) (le_size (Nat.le_of_ble_eq_true rfl))
      case hA => exact hH
      case hxl => rfl
      case hx =>
        intro x hx
        rcases List.mem_cons.mp hx with rfl | hx
        · exact .inl (by walk_at "rf")
        · rw [List.mem_singleton] at hx; subst hx
          exact .inl (by walk_at "rf")
      all_goals walk_at "rf"
    with_reducible refine GX.newList (l := []) Vw.nil (EvF.list EvL.nil (by decide)) (fun d hd => absurd hd List.not_mem_nil) (.inl (by walk_at "rf")) (by walk_at "rf") (by walk_at "rf") fun a => ?_
    with_reducible refine GX.consL (ExS.assign3 Ev.int (.inl (by walk_at "rf")) (.inl (by walk_at "rf")) (.inl (by walk_at "rf")) (by walk_at "rf") (by walk_at "rf") (by walk_at "rf")) ?_
    apply GX.cons
    · apply GS.for (x := "ch") (vm := [("self", .obj 97 [("raw", .str (ofL (pre ++ c :: rest)))])]) (src := .str (ofL (pre ++ c :: rest))) (ds := (pre ++ c :: rest).map fun c => D.str ⟨#[c]⟩) (k := pre.length)
        (P := fun i m os => ∃ a ex, (∀ x d, (wsVars a y (wsOf (pre.take i))).lookup x = some d → m.lookup x = some d) ∧ os = .lst a (intsD (wsOf (pre.take i)).cnt) :: (ex ++ [.inst y dx 97 [("raw", .str (ofL (pre ++ c :: rest)))]]))
        (o := .next fun m os => ∃ a ex, (∀ x d, (wsVars a y (wsOf pre)).lookup x = some d → m.lookup x = some d) ∧ os = .lst a (intsD (wsOf pre).cnt) :: (ex ++ [.inst y dx 97 [("raw", .str (ofL (pre ++ c :: rest)))]]))
      case hA => exact hH
      case v => exact Vw.inst (.tail _ (.head _)) (by walk_at "rf") Vw.nil
      case hit => exact Ev.attr (by walk_at "name") (by walk_at "rf") WS_plain (fun P => (WS_raw P).2) rfl
      case hI => exact IterW.str hH
      case hsc => intro d hd; obtain ⟨x, _, rfl⟩ := List.mem_map.mp hd; exact Scal.str
      case hx => exact .inl (by walk_at "rf")
      case hkd => walk_at "rf"
      case hm => exact ⟨a, [], LSub.cons (by walk_at "rf") (LSub.cons (by walk_at "rf") (LSub.cons (by walk_at "rf") (LSub.cons (by walk_at "rf") (LSub.cons (by walk_at "rf") (LSub.cons (by walk_at "rf") (LSub.cons (by walk_at "rf") LSub.nil)))))), rfl⟩
      case hk => rw [List.length_map, List.length_append]; omega
      case hs => intro _; walk_at "rf"
      case hend =>
        refine .inr ⟨.str ⟨#[c]⟩, _, ?_, rfl, ?_⟩
        · rw [List.getElem?_map, List.getElem?_append_right (Nat.le_refl _), Nat.sub_self]; rfl
        · rintro m os ⟨a', ex, hm', rfl⟩
          rw [List.take_length] at hm'
          rw [List.take_length]
          apply GX.one
          apply GS.ifV Vw.nil (c := false)
          case ht => exact EvT.eq (EvT.cmp1 (by walk_at "name") (Ev.name (hm' _ _ (by walk_at "rf")) (by walk_at "rf") (by decide) (by decide)) Op2.seq (by walk_at "rf")) (str1_ne hc.1)
          case h1 => intro e; cases e
          case h2 =>
            intro _
            apply GX.one
            apply GS.ifV Vw.nil (c := false)
            case ht => exact EvT.eq (EvT.cmp1 (by walk_at "name") (Ev.name (hm' _ _ (by walk_at "rf")) (by walk_at "rf") (by decide) (by decide)) Op2.seq (by walk_at "rf")) (str1_ne hc.2)
            case h1 => intro e; cases e
            case h2 => intro _; exact GX.one (GS.brk ⟨a', ex, LSub.skip hm' wsVars_names, rfl⟩)
      case hbody =>
        rintro i d m os hi hd ⟨a', ex, hm', rfl⟩
        have hd' : d = .str ⟨#[pre[i]]⟩ := by
          rw [List.getElem?_map, List.getElem?_append_left hi, List.getElem?_eq_getElem hi] at hd
          cases hd; rfl
        subst hd'
        have hbd := wsOf_bound (pre.take i)
        rw [List.length_take] at hbd
        have hst : wsOf (pre.take (i + 1)) = wsStep (wsOf (pre.take i)) pre[i] := by
          rw [List.take_succ_eq_append_getElem hi, wsOf_snoc]
        rw [hst]
        generalize wsOf (pre.take i) = W at *
        have hci := hp pre[i] (List.getElem_mem hi)
        refine GX.weaken (m' := ("ch", .str ⟨#[pre[i]]⟩) :: wsVars a' y W) ?_ (LSub.cons lookup_cons_eq (LSub.skip hm' wsVars_names))
        generalize pre[i] = ci at *
        unfold wsVars
        rcases hci with rfl | rfl
        · apply GX.consL
          · apply ExS.ifT
            case ht => exact EvT.eq (EvT.cmp1 (by walk_at "name") (by walk_at "name") Op2.seq (by walk_at "rf")) (str1_eq rfl)
            case h => apply Ex.cons (by walk_at "asg0"); apply Ex.cons (by walk_at "asg0"); exact Ex.nil
          refine GX.nil ⟨a', ex, ?_, rfl⟩
          rw [wsStep32]
          exact LSub.cons (by walk_at "rf") (LSub.cons (by walk_at "rf") (LSub.cons (by walk_at "rf") (LSub.cons (by walk_at "rf") (LSub.cons (by walk_at "rf") (LSub.cons (by walk_at "rf") (LSub.cons (by walk_at "rf") LSub.nil))))))
        · apply GX.one
          apply GS.ifV Vw.nil (c := false)
          case ht => exact EvT.eq (EvT.cmp1 (by walk_at "name") (by walk_at "name") Op2.seq (by walk_at "rf")) (str1_ne (by decide))
          case h1 => intro e; cases e
          case h2 =>
            intro _
            apply GX.one
            apply GS.ifV Vw.nil (c := true)
            case ht => exact EvT.eq (EvT.cmp1 (by walk_at "name") (by walk_at "name") Op2.seq (by walk_at "rf")) (str1_eq rfl)
            case h2 => intro e; cases e
            case h1 =>
              intro _
              walk_at "gasg"
              walk_at "gasg"
              apply GX.cons
              · apply GS.ifV (vm := [("count", .list (intsD W.cnt))]) (o := .next fun m os => ∃ a ex, (∀ x d, ([("count", .val (.ref a)), ("nt", .int (W.nt + 1)), ("n", .int (W.n + 1)), ("b", .int W.b), ("T", .str "\t"), ("S", .str " "), ("self", .val (.ref y))] : Vars).lookup x = some d → m.lookup x = some d) ∧ os = .lst a (intsD (grown W.cnt W.b)) :: (ex ++ [.inst y dx 97 [("raw", .str (ofL (pre ++ c :: rest)))]]))
                case v => exact Vw.lst List.mem_cons_self (by walk_at "rf") Vw.nil
                case ht => exact EvT.cmp1 (by walk_at "name") (Ev.callB gl_len (by walk_at "eok") (by walk_at "rf") (EvL.cons (by walk_at "name") EvL.nil (by walk_at "rf")) (OpL.lenList (by rw [List.length_map]; omega)) (by walk_at "rf") (by walk_at "rf") (by decide)) Op2.ige (by walk_at "rf")
                case h1 =>
                  intro hge
                  have hge := of_decide_eq_true hge
                  rw [List.length_map] at hge
                  have hkk : ((W.b : Int) - ((intsD W.cnt).length : Nat) + 1).toNat = W.b + 1 - W.cnt.length := by rw [List.length_map]; omega
                  with_reducible refine GX.newList (l := intsD (grown W.cnt W.b)) (vm := [("count", .list (intsD W.cnt))]) (Vw.lst List.mem_cons_self (by walk_at "rf") Vw.nil) ?_ ?_ (.inl (by walk_at "rf")) (by walk_at "rf") (by walk_at "rf") fun a2 => ?_
                  · refine EvF.eq (EvF.add (l2 := (List.replicate ((W.b : Int) - ((intsD W.cnt).length : Nat) + 1).toNat [D.int 0]).flatten) (by walk_at "name") (Ev.binop (Ev.list (EvL.cons Ev.int EvL.nil (by walk_at "rf")) (le_size (Nat.le_of_ble_eq_true rfl))) (Ev.binop (Ev.binop (by walk_at "name") (Ev.callB gl_len (by walk_at "eok") (by walk_at "rf") (EvL.cons (by walk_at "name") EvL.nil (by walk_at "rf")) (OpL.lenList (by rw [List.length_map]; omega)) (by walk_at "rf") (by walk_at "rf") (by decide)) Op2.isub) Ev.int Op2.iadd) (Op2.listMul ?_ ?_ ?_ rfl)) ?_) ?_
                    · rw [List.length_map]; omega
                    · rw [List.length_map]; omega
                    · rw [hkk]; show 1 * _ ≤ _; omega
                    · rw [hkk, flat1, List.length_replicate, List.length_map]; apply le_size; show _ + _ ≤ 64; omega
                    · rw [hkk]; unfold grown intsD; rw [List.map_append, List.map_replicate, flat1]; rfl
                  · intro d hd; obtain ⟨x, _, rfl⟩ := List.mem_map.mp hd; exact Scal.int
                  · exact GX.nil ⟨a2, .lst a' (intsD W.cnt) :: ex, LSub.cons (by walk_at "rf") (LSub.cons (by walk_at "rf") (LSub.cons (by walk_at "rf") (LSub.cons (by walk_at "rf") (LSub.cons (by walk_at "rf") (LSub.cons (by walk_at "rf") (LSub.cons (by walk_at "rf") LSub.nil)))))), rfl⟩
                case h2 =>
                  intro hlt
                  have hlt := of_decide_eq_false hlt
                  rw [List.length_map] at hlt
                  have hg : grown W.cnt W.b = W.cnt := by unfold grown; rw [show W.b + 1 - W.cnt.length = 0 by omega]; simp
                  rw [hg]
                  exact GX.nil ⟨a', ex, LSub.cons (by walk_at "rf") (LSub.cons (by walk_at "rf") (LSub.cons (by walk_at "rf") (LSub.cons (by walk_at "rf") (LSub.cons (by walk_at "rf") (LSub.cons (by walk_at "rf") (LSub.cons (by walk_at "rf") LSub.nil)))))), rfl⟩
              rintro m' os' ⟨a2, ex2, hm2, rfl⟩
              refine GX.weaken ?_ hm2
              have hgl : W.b < (intsD (grown W.cnt W.b)).length := by rw [List.length_map, grown_len]; omega
              with_reducible refine GX.setItem0 (k := W.b) (d := .int (((grown W.cnt W.b).getD W.b 0 : Nat) + 1)) (vm := [("count", .list (intsD (grown W.cnt W.b)))]) (Vw.lst List.mem_cons_self (by walk_at "rf") Vw.nil) ?_ Scal.int (fun p => by walk_at "name") (by walk_at "name") hgl (by omega) (by walk_at "rf") ?_
              · refine Ev.binop (Ev.sub (k := (W.b : Int)) (d := .int ((grown W.cnt W.b).getD W.b 0 : Nat)) (by walk_at "name") (by walk_at "name") (by omega) ?_) Ev.int Op2.iadd
                rw [Int.toNat_natCast, List.getElem?_map, List.getD_eq_getElem?_getD]
                rw [List.length_map] at hgl
                rw [List.getElem?_eq_getElem hgl]; rfl
              walk_at "gasg"
              refine GX.nil ⟨a2, ex2, ?_, ?_⟩
              · rw [wsStep9]
                exact LSub.cons (by walk_at "rf") (LSub.cons (by walk_at "rf") (LSub.cons (by walk_at "rf") (LSub.cons (by walk_at "rf") (LSub.cons (by walk_at "rf") (LSub.cons (by walk_at "rf") (LSub.cons (by walk_at "rf") LSub.nil))))))
              · rw [wsStep9]; show _ = Ow.lst a2 (intsD (bump W.cnt W.b)) :: _; unfold bump intsD; rw [List.map_set]; rfl
    rintro m' os' ⟨a', ex, hm', rfl⟩
    with_reducible refine GX.weaken ?_ hm'
    have hbd := wsOf_bound pre
    generalize wsOf pre = W at *
    unfold wsVars
    with_reducible refine GX.release0 (x := "count") (by walk_at "rf") (GX.drop (List.sublist_append_right _ _) ?_)
    with_reducible refine GX.setAttr0 WS_plain (fun P => (WS_n P).1) (d := .int W.n) (by walk_at "name") (by walk_at "name") (nmem (by walk_at "rf")) (Nat.le_of_ble_eq_true (by walk_at "rf")) (by walk_at "rf") ?_
    with_reducible refine GX.setAttr0 WS_plain (fun P => (WS_nt P).1) (d := .int W.nt) (by walk_at "name") (by walk_at "name") (nmem (by walk_at "rf")) (Nat.le_of_ble_eq_true (by walk_at "rf")) (by walk_at "rf") ?_
    with_reducible refine GX.setAttr0 WS_plain (fun P => (WS_norm P).1) (d := .tup [.tup (intsD W.cnt), .int W.b]) ?_ (by walk_at "name") (nmem (by walk_at "rf")) (Nat.le_of_ble_eq_true (by walk_at "rf")) (by walk_at "rf") ?_
    · exact Ev.tup (EvL.cons (Ev.callT gl_tuple (by walk_at "eok") (by walk_at "rf") (EvL.cons (by walk_at "name") EvL.nil (by walk_at "rf")) (OpL.tupleList (by rw [List.length_map]; apply le_size; omega)) (by walk_at "rf") (by walk_at "rf") (by decide)) (EvL.cons (by walk_at "name") EvL.nil (by walk_at "rf")) (by walk_at "rf")) (le_size (Nat.le_of_ble_eq_true rfl))
    with_reducible refine GX.setAttr0 WS_plain (fun P => (WS_simple P).1) (d := .bool (decide (W.cnt.length ≤ 1))) ?_ (by walk_at "name") (nmem (by walk_at "rf")) (Nat.le_of_ble_eq_true (by walk_at "rf")) (by walk_at "rf") ?_
    · refine Ev.eq (Ev.cmp1 (Ev.callB gl_len (by walk_at "eok") (by walk_at "rf") (EvL.cons (by walk_at "name") EvL.nil (by walk_at "rf")) (OpL.lenList (by rw [List.length_map]; omega)) (by walk_at "rf") (by walk_at "rf") (by decide)) Ev.int Op2.ile (by walk_at "rf")) ?_
      rw [List.length_map]; congr 1; exact decide_eq_decide.mpr (by omega)
    exact GX.nil rfl
  case hbind =>
    intro doc pm an cdv ct v vs hv
    match vs, hv with
    | [_], _ => rfl
  case hnd => decide
  case hlen => rfl
  case hcell => decide
  case hloc => decide
  all_goals rfl
end

end

section
open PySem PySem.Spec PySem.Calls PySem.W PyProof.Rows PySem.Builtin
set_option maxRecDepth 100000
set_option linter.all false
set_option maxHeartbeats 4000000
section
variable {w : World} {mg mb : PySem.Str → Option Value} {A : Around} {env : Env} {m : Vars}
theorem Contract.meth {f name qual params body scope n} {ps : List PySem.Str} {ds : List D} {d : D} (df : IsMeth f name qual params body scope) (hnd : ps.Nodup) (hlen : ps.length = ds.length)
    (hbind : ∀ doc pm an cdv ct vs, vs.length = ds.length → bindArgs (fnOf name qual params body scope .none .none doc pm an cdv ct) ⟨vs, []⟩ = pure (ps.zip vs))
    (hcell : ∀ x ∈ scope.names, x.2 ≠ .cell) (hloc : ∀ x ∈ ps, scope.names.lookup x = some .local) (hco : scope.isCoroutine = false) (hgen : scope.isGenerator = false) (hk : scope.kind = .function)
    (hbody : ∀ A' L cdv, Room A' n → Ex w mg mb A' (envOf qual scope L f cdv) (ps.zip ds) body (.ret d)) (hA : Room A (n + 1)) : OpL w mg mb A (fun vs => call (.ref f) vs) ds d := by
  refine ⟨?_⟩; intro Z s vs Q E T B zi r hQ
  obtain ⟨oc, od, doc, pm, an, cdv, ct, osl, e, hc⟩ := df.ex w.params
  have hl := RepL.length vs ds r
  refine wpAny_call ?_
  refine codeAny_call_def (fd := fnOf name qual params body scope .none .none doc pm an cdv ct) (body := body) (binds := ps.zip vs) (by have := hA.depth; omega) (B.K _ _ e) rfl B.nolimit (codeRec_of B.K hc) rfl (BindsTo.of_eq (hbind _ _ _ _ _ vs hl)) hcell
    (fun x hx => hloc _ (List.of_mem_zip hx).1) (fun h₁ hns hk₁ => ?_) hco hgen hk
  have TT : 1 ≤ s.toks + (ps.zip vs).length := Nat.le_add_right_of_le T
  have hroom : Room (A.deeper (envOf qual scope s.heap.objs.size f cdv)) n := ⟨hA.handled, by have := hA.depth; show A.depth + 1 + n < _; omega, by have := hA.units; show A.units + 3 + 16 * n < _; omega⟩
  have fresh : s.heap.get? s.heap.objs.size = none := by
    cases q : s.heap.get? s.heap.objs.size with
    | none => rfl
    | some o => exact absurd (Heap.lt_size q) (Nat.lt_irrefl _)
  have F : Fs w mg mb s.heap (fun a => Z a ∨ a = s.heap.objs.size) (envOf qual scope s.heap.objs.size f cdv) (ps.zip ds) h₁ := by
    refine ⟨B, hk₁, fun a z => ?_, fun x d' hx => ?_, fun a z => ?_, ⟨_, hns⟩, fun x c hx => (by cases hx), fun x y c hx => (by cases hx)⟩
    · rcases z with z | rfl
      · obtain ⟨o, q⟩ := zi a z; exact ⟨o, hk₁ _ _ q⟩
      · obtain ⟨o, _, _, q, _⟩ := hns; exact ⟨o, q⟩
    · obtain ⟨v, hv, rv⟩ := zip_lookup r hx
      refine ⟨v, .inl ⟨hloc _ (List.of_mem_zip hv).1, _, hns, ?_⟩, ?_⟩
      · have n' : ((ps.zip vs).map (·.1)).Nodup := by rw [List.map_fst_zip (by omega)]; exact hnd
        refine lookup_of_mem (l := (ps.zip vs).reverse) ?_ (List.mem_reverse.mpr hv)
        rw [List.map_reverse]; exact (List.pairwise_reverse.mpr (n'.imp fun h => h.symm))
      · refine Rep.keeps (Rep.zz (fun x o q z => ?_) _ _ rv) hk₁
        rcases z with z | rfl
        · exact z
        · rw [fresh] at q; cases q
    · rcases z with rfl | ⟨x, hx⟩
      · exact ⟨.inr rfl, fresh⟩
      · cases hx
  refine wpAny_mono ((hbody _ _ _ hroom).run s.heap _ _ _ (fun _ _ => False) TT F fun fl s' k p => ?_) (fun _ _ q => q) (fun _ _ q => q.elim)
  obtain ⟨v, rfl, rv, m', F'⟩ := p
  obtain ⟨⟨h', tk, rfl⟩, _, kt⟩ := k
  exact hQ v _ (Ks.of kt F'.keep) (Rep.zz (fun _ _ _ z => .inl z) _ _ rv)


/-- o.name(e, …), name a def of the class of o -/
theorem Ev.methodF {o e : Expr} {es : List Expr} {name : PySem.Str} {apos pos C l f ds r} {pl : Sem Bool} (hc : PlainCls C) (hf : ∀ P, findIn (Kf P) (.ref C) name = some (some (.ref f))) (ht : ∀ P, typeIn (Kf P) (.ref f) = some (.type "function")) (hkf : ∀ P, keepIn (Kf P) (.ref f) = true) (hn : name ∉ l.map (·.1))
    (ho : Ev w mg mb A env m o (.obj C l)) (ha : EvL w mg mb A env m (e :: es) ds) (hop : OpL w mg mb A (fun vs => call (.ref f) vs) (.obj C l :: ds) r)
    (hev : eval (.Call (.Attribute o name apos) (e :: es) [] pos) env = (do
      let ov ← eval o env
      standAt apos.atName
      let (f, first) ← holding [ov] (getMethod ov name pl)
      callWith pos f first (backTo pos (starEach (e :: es) env)) (backToKw pos (keywordEach [] env))) := by rfl)
    (he : starEach (e :: es) env = (false, eval e env) :: starEach es env := by rfl) (hplain : (backTo pos (starEach es env)).any (·.1) = false := by rfl) :
    Ev w mg mb A env m (.Call (.Attribute o name apos) (e :: es) [] pos) r := .mk fun Z s Q E T S hQ => by
  refine methodCall_KW (ho.run Z s _ E T S fun v s₁ k₁ r₁ => ?_) hev
  have r' := r₁
  rw [Rep] at r'
  obtain ⟨y, dx, mm, rfl, _, _, ⟨ix, es', n, D, hfn, hr, hz⟩, rf, on⟩ := r'
  have S₁ := S.keeps k₁.heap
  have I : PySem.W.InstAt s₁.heap y (instObj C dx) C (some (dictOf es' n)) := ⟨ix, rfl, rfl, D⟩
  have hpl := plainGet_of (hc.get w.params name)
  refine method_fn S₁.base.K I hpl.1 hpl.2 (hf _) (ht _) ?_ ?_
  · show (lookIn name (dictOf es' n)).map (·.isSome) = some false
    rw [lookIn_dict, getL_none (by rw [hfn]; exact on name hn) hr]; rfl
  · refine callWith_K S₁.base.K (hkf w.params) ?_ he hplain
    exact ha.run pos Z s₁ _ E k₁.tok S₁ fun vs s₂ k₂ r₂ => ⟨(S₁.keeps k₂.heap).base.K, hop.run Z s₂ (.ref y :: vs) Q E k₂.tok (S₁.keeps k₂.heap).base (S₁.keeps k₂.heap).zin (by rw [RepL]; exact ⟨r₁.keeps k₂.heap, r₂⟩) fun u s₃ k₃ r₃ => hQ u s₃ ((k₁.trans' k₂).trans' k₃) r₃⟩

theorem OpL.lenTup {l} (h : l.length ≤ 2 ^ 24 := by decide) : OpL w mg mb A (fun vs => call (.builtin "len") vs) [.tup l] (.int l.length) :=
  OpL.one (fun _ => rfl) fun Z s v Q E T B zi r hQ => by
    obtain ⟨a, vs, rfl, nz, pl, rl⟩ := Rep_tup.1 r
    have e := RepL.length _ _ rl
    have e2 : ((vs.toArray.size : Nat) : Int) = l.length := by rw [List.size_toArray, e]
    refine PyProof.Rows.len_tuple pl (by rw [e2]; omega) ?_
    rw [e2]
    exact hQ _ _ (Ks.tk s _ (Nat.le_add_left _ _)) rint
theorem Ev.subTup {value slice pos l d} {k : Int} (hv : Ev w mg mb A env m value (.tup l)) (hi : Ev w mg mb A env m slice (.int k)) (h0 : 0 ≤ k) (hd : l[k.toNat]? = some d)
    (hs : ∀ a t, subscripted slice false (.ref a) (.int k t) = operate [.ref a, .int k t] (getItem (.ref a) (.int k t)) := by intro _ _; rfl) (h1 : k < 2 ^ 63 := by omega) : Ev w mg mb A env m (.Subscript value slice pos) d := .mk fun Z s Q E T S hQ =>
  Subscript_ (hv.run Z s _ E T S fun v s₁ k₁ r₁ => hi.run Z s₁ _ E k₁.tok (S.keeps k₁.heap) fun u s₂ k₂ r₂ => by
    obtain ⟨a, vs, rfl, nz, pl, rl⟩ := Rep_tup.1 (r₁.keeps k₂.heap)
    obtain ⟨t, rfl⟩ := Rep_int.1 r₂
    obtain ⟨v', hv', r'⟩ := RepL.get' rl hd
    have hlt : k < (vs.toArray.size : Nat) := by
      have := (List.getElem?_eq_some_iff.mp hv').1
      rw [List.size_toArray]; omega
    exact tail_any pl.typeIs slot_tuple_getitem.lookup (PyProof.Rows.getItem_tuple pl (by omega) h1 (seqIndex_of h0 hlt) (by simpa using hv') (hQ _ _ (k₁.trans' k₂) r')) (hs _ _))

/-- what indent_level tells -/
def levSum (x : Ws) (size k : Nat) : Nat := ((List.range k).map fun i => (size + i) / size * x.cnt.getD (size + i) 0).sum
def levelAt (x : Ws) (size : Nat) : Nat := x.b + size * (levSum x size (x.cnt.length - size) + x.nt)
theorem levSum_succ {x size k} : levSum x size (k + 1) = levSum x size k + (size + k) / size * x.cnt.getD (size + k) 0 := by
  unfold levSum; rw [List.range_succ, List.map_append, List.sum_append]; simp
theorem indent_contract {X : List Nat} {W : Ws} {size : Nat} (h1 : 1 ≤ size) (h2 : size ≤ 3) (hl : W.cnt.length ≤ 60) (hA : Room A 2) :
    OpL w mg mb A (fun vs => call (.ref 66) vs) [.obj 97 (wsFields X W), .int size] (.int (levelAt W size : Nat)) := by
  apply Contract.meth (f := 66) (ps := ["self", "tabsize"]) (n := 1) (hA := hA)
  case df => walk_at "def"
  case hbody =>
    intro A' L cdv hA'
    have hH := hA'.handled
    apply Ex.cons
    · apply ExS.assignTup (xs := ["count", "trailing"]) (ds := [.tup (intsD W.cnt), .int W.b])
      case h => exact Ev.attr (by walk_at "name") (by walk_at "rf") WS_plain (fun P => (WS_norm P).2) rfl
      case hA => exact hH
      case hxl => rfl
      case he => exact ⟨[_, _], rfl, rfl⟩
      case hx =>
        intro x hx
        rcases List.mem_cons.mp hx with rfl | hx
        · exact .inl (by walk_at "rf")
        · rw [List.mem_singleton] at hx; subst hx
          exact .inl (by walk_at "rf")
      all_goals walk_at "rf"
    walk_at "asg"
    apply Ex.cons
    · apply ExS.for (x := "i") (src := .range size W.cnt.length) (ds := (List.range (W.cnt.length - size)).map fun i : Nat => D.int ((size : Nat) + i)) (k := W.cnt.length - size)
        (ms := fun i => [("il", .int (levSum W size i : Nat)), ("count", .tup (intsD W.cnt)), ("trailing", .int W.b), ("self", .obj 97 (wsFields X W)), ("tabsize", .int size)])
        (o := .next [("il", .int (levSum W size (W.cnt.length - size) : Nat)), ("count", .tup (intsD W.cnt)), ("trailing", .int W.b), ("self", .obj 97 (wsFields X W)), ("tabsize", .int size)])
      case hA => exact hH
      case hit =>
        refine Ev.eq (Ev.callT gl_range (by walk_at "eok") (by walk_at "rf") (EvL.cons (by walk_at "name") (EvL.cons (Ev.callB gl_len (by walk_at "eok") (by walk_at "rf") (EvL.cons (by walk_at "name") EvL.nil (by walk_at "rf")) (OpL.lenTup (by rw [List.length_map]; omega)) (by walk_at "rf") (by walk_at "rf") (by decide)) EvL.nil (by walk_at "rf")) (by walk_at "rf")) OpL.range2 (by walk_at "rf") (by walk_at "rf") (by decide)) ?_
        rw [List.length_map]
      case hI => exact Iter.range hH (by omega) (small_range (by omega) (by omega) (by omega) (by omega))
      case hx => exact .inl (by walk_at "rf")
      case hkd => walk_at "rf"
      case hm => exact LSub.cons (by walk_at "rf") (LSub.cons (by walk_at "rf") (LSub.cons (by walk_at "rf") (LSub.cons (by walk_at "rf") (LSub.cons (by walk_at "rf") LSub.nil))))
      case hk => rw [List.length_map, List.length_range]; omega
      case hend => exact .inl ⟨by rw [List.length_map, List.length_range], rfl⟩
      case hbody =>
        intro i d hi hd
        have hd' : d = .int ((size + i : Nat) : Int) := by
          rw [List.getElem?_map, List.getElem?_range hi] at hd
          cases hd; rfl
        subst hd'
        apply Ex.one
        apply ExS.post
        case h =>
          apply ExS.assign (hx := .inl (by walk_at "rf")) (hk := by walk_at "rf") (hs := by walk_at "rf")
          refine Ev.eq (c := .int (levSum W size (i + 1) : Nat)) (Ev.binop (by walk_at "name") (Ev.binop (Ev.binop (by walk_at "name") (by walk_at "name") (Op2.idivN size rfl (by omega) ?_)) (Ev.subTup (k := ((size + i : Nat) : Int)) (d := .int (W.cnt.getD (size + i) 0 : Nat)) (by walk_at "name") (by walk_at "name") (by omega) ?_) (Op2.imulS ?_)) Op2.iadd) ?_
          · exact Nat.lt_of_le_of_lt (Nat.log2_le_self _) (by omega)
          · rw [Int.toNat_natCast, List.getElem?_map, List.getD_eq_getElem?_getD, List.getElem?_eq_getElem (by omega)]; rfl
          · have : (size + i) / size ≤ size + i := Nat.div_le_self _ _
            rw [Int.natAbs_natCast]
            omega
          · rw [levSum_succ]; push_cast; rfl
        case hm => exact LSub.cons (by walk_at "rf") (LSub.cons (by walk_at "rf") (LSub.cons (by walk_at "rf") (LSub.cons (by walk_at "rf") (LSub.cons (by walk_at "rf") LSub.nil))))
      all_goals first | walk_at "rf" | (intro _; walk_at "rf")
    apply Ex.ret
    apply ExS.ret
    refine Ev.eq (Ev.binop (by walk_at "name") (Ev.binop (by walk_at "name") (Ev.binop (by walk_at "name") (Ev.attr (d := .int W.nt) (by walk_at "name") (by walk_at "rf") WS_plain (fun P => (WS_nt P).2) rfl) Op2.iadd) (Op2.imulS (by omega))) Op2.iadd) ?_
    unfold levelAt; push_cast; rfl
  case hbind => walk_at "bind2"
  case hnd => decide
  case hlen => rfl
  case hcell => decide
  case hloc => decide
  all_goals rfl
end

end

section
open PySem PySem.Spec PySem.Calls PySem.W PyProof.Rows
set_option maxRecDepth 100000
set_option linter.all false
def pieceOf (k : Nat) : List Nat := List.replicate k 32 ++ [9]
def leadOf (kinds : List Nat) (behind : Nat) : List Nat := (kinds.map pieceOf).flatten ++ List.replicate behind 32
theorem blanks_fold (k : Nat) : ∀ W : Ws, (List.replicate k 32).foldl wsStep W = { W with n := W.n + k, b := W.b + k } := by
  induction k with
  | zero => intro W; rfl
  | succ k ih =>
    intro W
    rw [List.replicate_succ, List.foldl_cons, wsStep32, ih]
    simp only [Ws.mk.injEq, true_and, and_true]
    omega
theorem piece_fold (k : Nat) (W : Ws) (hb : W.b = 0) : (pieceOf k).foldl wsStep W = { cnt := bump W.cnt k, b := 0, n := W.n + k + 1, nt := W.nt + 1 } := by
  unfold pieceOf
  rw [List.foldl_append, blanks_fold]
  show wsStep _ 9 = _
  rw [wsStep9]
  simp only [hb, Nat.zero_add]
theorem grown_getD (cnt : List Nat) (b j : Nat) : (grown cnt b).getD j 0 = cnt.getD j 0 := by
  unfold grown
  rw [List.getD_eq_getElem?_getD, List.getD_eq_getElem?_getD]
  by_cases h : j < cnt.length
  · rw [List.getElem?_append_left h]
  · rw [List.getElem?_append_right (by omega), List.getElem?_eq_none (l := cnt) (by omega), List.getElem?_replicate]
    split <;> rfl
theorem bump_getD (cnt : List Nat) (b j : Nat) : (bump cnt b).getD j 0 = cnt.getD j 0 + (if j = b then 1 else 0) := by
  unfold bump
  rw [List.getD_eq_getElem?_getD, List.getElem?_set]
  by_cases h : j = b
  · subst h
    rw [if_pos rfl, if_pos (by rw [grown_len]; omega), if_pos rfl, grown_getD]; rfl
  · rw [if_neg (fun e => h e.symm), if_neg h, ← List.getD_eq_getElem?_getD, grown_getD]; rfl
theorem bump_len (cnt : List Nat) (b : Nat) : (bump cnt b).length = max cnt.length (b + 1) := by unfold bump; rw [List.length_set, grown_len]
theorem lead_fold : ∀ (kinds : List Nat), (∀ k ∈ kinds, k ≤ 2) → ∀ W : Ws, W.b = 0 → W.cnt.length ≤ 3 →
    ((kinds.map pieceOf).flatten.foldl wsStep W).b = 0 ∧ ((kinds.map pieceOf).flatten.foldl wsStep W).cnt.length ≤ 3 ∧ ((kinds.map pieceOf).flatten.foldl wsStep W).nt = W.nt + kinds.length ∧ ∀ j, ((kinds.map pieceOf).flatten.foldl wsStep W).cnt.getD j 0 = W.cnt.getD j 0 + kinds.count j
  | [], _, W, h1, h2 => ⟨h1, h2, rfl, fun j => rfl⟩
  | k :: kinds, hk, W, h1, h2 => by
    have hk2 := hk k (.head _)
    rw [List.map_cons, List.flatten_cons, List.foldl_append, piece_fold k W h1]
    obtain ⟨a, b, c, d⟩ := lead_fold kinds (fun x hx => hk x (.tail _ hx)) { cnt := bump W.cnt k, b := 0, n := W.n + k + 1, nt := W.nt + 1 } rfl (by rw [bump_len]; omega)
    refine ⟨a, b, by rw [c, List.length_cons]; dsimp only; omega, fun j => ?_⟩
    rw [d j]
    dsimp only
    rw [bump_getD, List.count_cons]
    simp only [beq_iff_eq]
    have : (if k = j then 1 else 0) = (if j = k then 1 else 0) := by split <;> split <;> omega
    omega
theorem lead_ws {kinds : List Nat} {behind : Nat} (hk : ∀ k ∈ kinds, k ≤ 2) : (wsOf (leadOf kinds behind)).b = behind ∧ (wsOf (leadOf kinds behind)).cnt.length ≤ 3 ∧ (wsOf (leadOf kinds behind)).nt = kinds.length ∧ ∀ j, (wsOf (leadOf kinds behind)).cnt.getD j 0 = kinds.count j := by
  obtain ⟨a, b, c, d⟩ := lead_fold kinds hk ⟨[], 0, 0, 0⟩ rfl (by decide)
  unfold wsOf leadOf
  rw [List.foldl_append, blanks_fold]
  refine ⟨by dsimp only; omega, b, by simpa using c, fun j => ?_⟩
  rw [d j]; simp
theorem levSum1 : ∀ (cnt : List Nat) (b n nt : Nat), cnt.length ≤ 3 → levSum ⟨cnt, b, n, nt⟩ 1 (cnt.length - 1) = cnt.getD 1 0 + 2 * cnt.getD 2 0
  | [], _, _, _, _ => rfl
  | [x], _, _, _, _ => rfl
  | [x, y], _, _, _, _ => by simp [levSum, List.range_succ]
  | [x, y, z], _, _, _, _ => by simp [levSum, List.range_succ]
  | _ :: _ :: _ :: _ :: _, _, _, _, h => absurd h (by simp)
theorem levSum2 : ∀ (cnt : List Nat) (b n nt : Nat), cnt.length ≤ 3 → levSum ⟨cnt, b, n, nt⟩ 2 (cnt.length - 2) = cnt.getD 2 0
  | [], _, _, _, _ => rfl
  | [x], _, _, _, _ => rfl
  | [x, y], _, _, _, _ => rfl
  | [x, y, z], _, _, _, _ => by simp [levSum, List.range_succ]
  | _ :: _ :: _ :: _ :: _, _, _, _, h => absurd h (by simp)
theorem levSum3 : ∀ (cnt : List Nat) (b n nt : Nat), cnt.length ≤ 3 → levSum ⟨cnt, b, n, nt⟩ 3 (cnt.length - 3) = 0
  | [], _, _, _, _ => rfl
  | [x], _, _, _, _ => rfl
  | [x, y], _, _, _, _ => rfl
  | [x, y, z], _, _, _, _ => rfl
  | _ :: _ :: _ :: _ :: _, _, _, _, h => absurd h (by simp)
def colAt (kinds : List Nat) : Nat → Nat
  | 1 => kinds.count 1 + 2 * kinds.count 2 + kinds.length
  | 2 => 2 * (kinds.count 2 + kinds.length)
  | _ => 3 * kinds.length
theorem level_lead {kinds : List Nat} {behind size : Nat} (hk : ∀ k ∈ kinds, k ≤ 2) (hs : size = 1 ∨ size = 2 ∨ size = 3) : levelAt (wsOf (leadOf kinds behind)) size = behind + colAt kinds size := by
  obtain ⟨a, b, c, d⟩ := lead_ws (behind := behind) hk
  have d1 := d 1
  have d2 := d 2
  unfold levelAt
  generalize wsOf (leadOf kinds behind) = W at *
  obtain ⟨cnt, bb, n, nt⟩ := W
  dsimp only at a b c d1 d2 ⊢
  subst a c
  rcases hs with rfl | rfl | rfl
  · rw [levSum1 cnt _ _ _ b, d1, d2]; simp only [colAt]; omega
  · rw [levSum2 cnt _ _ _ b, d2]; simp only [colAt]
  · rw [levSum3 cnt _ _ _ b]; simp only [colAt]; omega
theorem count_all : ∀ (kinds : List Nat), (∀ k ∈ kinds, k ≤ 2) → kinds.length = kinds.count 0 + kinds.count 1 + kinds.count 2
  | [], _ => rfl
  | k :: kinds, h => by
    have := count_all kinds fun x hx => h x (.tail _ hx)
    have hk := h k (.head _)
    rw [List.length_cons, List.count_cons, List.count_cons, List.count_cons]
    rcases (by omega : k = 0 ∨ k = 1 ∨ k = 2) with rfl | rfl | rfl <;> simp <;> omega
theorem lead_signs {kinds : List Nat} {behind : Nat} : ∀ x ∈ leadOf kinds behind, x = 32 ∨ x = 9 := fun x hx => by
  unfold leadOf at hx
  rcases List.mem_append.mp hx with h | h
  · obtain ⟨l, hl, hx⟩ := List.mem_flatten.mp h
    obtain ⟨k, _, rfl⟩ := List.mem_map.mp hl
    unfold pieceOf at hx
    rcases List.mem_append.mp hx with h | h
    · exact .inl (List.mem_replicate.mp h).2
    · exact .inr (List.mem_singleton.mp h)
  · exact .inl (List.mem_replicate.mp h).2
theorem lead_pieces_len : ∀ (kinds : List Nat), (∀ k ∈ kinds, k ≤ 2) → (kinds.map pieceOf).flatten.length ≤ 3 * kinds.length
  | [], _ => Nat.le_refl _
  | k :: kinds, h => by
    have := lead_pieces_len kinds fun x hx => h x (.tail _ hx)
    have hk := h k (.head _)
    rw [List.map_cons, List.flatten_cons, List.length_append, List.length_cons]
    have : (pieceOf k).length = k + 1 := by unfold pieceOf; simp
    omega
theorem lead_len {kinds : List Nat} {behind : Nat} (hk : ∀ k ∈ kinds, k ≤ 2) (hl : kinds.length ≤ 12) (hb : behind ≤ 2) : (leadOf kinds behind).length ≤ 38 := by
  have := lead_pieces_len kinds hk
  unfold leadOf; rw [List.length_append, List.length_replicate]; omega
theorem mul_blank {k : Nat} (hk : k ≤ 2) : Txt.mul (ofL [32]) (k : Int) = ofL (List.replicate k 32) := by
  rcases (by omega : k = 0 ∨ k = 1 ∨ k = 2) with rfl | rfl | rfl <;> decide

end

section
open PySem PySem.Spec PySem.Calls PySem.W PyProof.Rows
set_option maxRecDepth 100000
set_option linter.all false
set_option maxHeartbeats 4000000
section
variable {w : World} {mg mb : PySem.Str → Option Value} {A : Around} {env : Env} {m : Vars}
theorem Ev.callC {x np e es pos ds d} {C : Addr} (g : Gl x (.ref C)) (hkf : ∀ P, keepIn (Kf P) (.ref C) = true) (eo : EOk env) (hx : env.kindOf x = some .globalImplicit) (ha : EvL w mg mb A env m (e :: es) ds) (ho : OpL w mg mb A (fun vs => call (.ref C) vs) ds d)
    (he : starEach (e :: es) env = (false, eval e env) :: starEach es env) (hplain : (backTo pos (starEach es env)).any (·.1) = false)
    (hd : (x == ("__debug__" : PySem.Str)) = false) : Ev w mg mb A env m (.Call (.Name x np) (e :: es) [] pos) d := .mk fun Z s Q E T S hQ =>
  wpAny_Call_ofName (name_global g S.base (callWith_K (first := []) S.base.K (hkf w.params) (ha.run pos Z s _ E T S fun vs s' k r => ⟨(S.keeps k.heap).base.K, ho.run Z s' vs Q E k.tok (S.base.keeps k.heap) (S.keeps k.heap).zin r fun v s'' k' r' => hQ v s'' (k.trans' k') r'⟩) he hplain) eo.kind hx eo.globals eo.builtins hd)

theorem mul_blankE {k : Nat} {e1 e2 pos} {y : PySem.Str} {k1 p1} (hy : y = ofL [32]) (hk : k ≤ 2) (h : Ev w mg mb A env m e2 (.int k)) (he1 : e1 = .Constant (.str y) k1 p1) : Ev w mg mb A env m (.BinOp e1 .Mult e2 pos) (.str (ofL (List.replicate k 32))) := by
  subst hy he1
  exact Ev.eq (Ev.binop Ev.str h (Op2.strMul (by rw [ofL_length]; decide) (by omega) (by omega))) (by rw [mul_blank hk])

theorem lights_contract {kinds : List Nat} {behind : Nat} (hk : ∀ k ∈ kinds, k ≤ 2) (hl : kinds.length ≤ 12) (hb : behind ≤ 2) (hA : Room A 5) :
    OpL w mg mb A (fun vs => call (.ref 156) vs) [natsD kinds, .int behind] (.list [.int (kinds.count 0 : Nat), .int (kinds.count 1 : Nat), .int (kinds.count 2 : Nat)]) := by
  apply Contract.cells (f := 156) (ps := ["kinds", "behind"]) (n := 4) (hA := hA)
  case df => walk_at "def"
  case hbody =>
    intro A' L cdv hA'
    have hH := hA'.handled
    have hws := lead_ws (behind := behind) hk
    have hll := lead_len hk hl hb
    have hlen : (leadOf kinds behind ++ 120 :: [32, 9]).length ≤ 41 := by rw [List.length_append]; simp only [List.length_cons, List.length_nil]; omega
    apply Ex.cons
    · apply ExS.assign (d := .obj 97 (wsFields (leadOf kinds behind ++ 120 :: [32, 9]) (wsOf (leadOf kinds behind)))) (hx := .inr ⟨by walk_at "rf", by walk_at "rf"⟩) (hk := by walk_at "rf") (hs := by walk_at "rf")
      refine Ev.callC gl_WS (fun P => by kernel_rfl) (by walk_at "eok") (by walk_at "rf") (EvL.cons ?_ EvL.nil (by walk_at "rf")) (ws_contract lead_signs ⟨by decide, by decide⟩ (by omega) (hA'.of_le (by decide))) (by walk_at "rf") (by walk_at "rf") (by decide)
      refine Ev.eq (b := .str (ofL (kinds.map pieceOf).flatten ++ ofL (List.replicate behind 32) ++ ("x \t" : PySem.Str))) (Ev.binop (Ev.binop ?_ (mul_blankE rfl hb (by walk_at "name") rfl) (Op2.strAdd ?_)) Ev.str (Op2.strAdd ?_)) ?_
      · apply Ev.joinE (ls := kinds.map pieceOf)
        case hy => rfl
        case h =>
          rw [List.map_map]
          apply Ev.comp1 (l := kinds) (f := fun k : Nat => .int (k : Int)) (g := fun k : Nat => .str (ofL (pieceOf k))) (m₀ := [])
          case hA => exact hH
          case hclos => walk_at "rf"
          case hm₀ => exact Sees.nil
          case hit => walk_at "name"
          case hI => exact Iter.list hH
          case hsz => rw [sizeLine_eq]; omega
          case h =>
            intro C k hkk
            have hk2 := hk k hkk
            refine Ev.eq (Ev.binop (mul_blankE rfl hk2 (by walk_at "name") rfl) Ev.str (Op2.strAdd ?_)) ?_
            · apply le_size; rw [ofL_length, List.length_replicate]; show k + 1 ≤ 64; omega
            · show D.str (ofL (List.replicate k 32) ++ ofL [9]) = _
              rw [ofL_append]; rfl
          all_goals first | walk_at "rf" | decide | (intro _; walk_at "rf")
        case hl => have := lead_pieces_len kinds hk; omega
        all_goals walk_at "rf"
      · have := lead_pieces_len kinds hk
        apply le_size; rw [ofL_length, ofL_length, List.length_replicate]; omega
      · have := lead_pieces_len kinds hk
        apply le_size; rw [ofL_append, ofL_length, List.length_append, List.length_replicate]; show _ + 3 ≤ 64; omega
      · show D.str (_ ++ ofL [120, 32, 9]) = _
        rw [ofL_append, ofL_append]; rfl
    apply Ex.cons
    · apply ExS.assignComp1 (l := [1, 2, 3]) (f := fun k : Nat => .int (k : Int)) (g := fun k : Nat => .int (colAt kinds k : Nat)) (src := .tup ([1, 2, 3].map fun k : Nat => .int (k : Int))) (m₀ := [("behind", .int behind), ("lead", .obj 97 (wsFields (leadOf kinds behind ++ 120 :: [32, 9]) (wsOf (leadOf kinds behind))))])
      case hA => exact hH
      case hclos => walk_at "rf"
      case hm₀ => exact Sees.cons (by walk_at "rf") (by walk_at "cf") (by walk_at "nl") (by walk_at "rf") (Sees.cons (by walk_at "rf") (by walk_at "cf") (by walk_at "nl") (by walk_at "rf") Sees.nil)
      case hit => exact Ev.tup (EvL.cons Ev.int (EvL.cons Ev.int (EvL.cons Ev.int EvL.nil (by walk_at "rf")) (by walk_at "rf")) (by walk_at "rf")) (le_size (Nat.le_of_ble_eq_true rfl))
      case hI => exact Iter.tup hH
      case hsz => exact le_size (Nat.le_of_ble_eq_true rfl)
      case h =>
        intro C size hsz
        have hsz : size = 1 ∨ size = 2 ∨ size = 3 := by simpa using hsz
        refine Ev.eq (Ev.binop (Ev.methodF (f := 66) WS_plain WS_indent (fun P => by kernel_rfl) (fun P => by kernel_rfl) (nmem (by walk_at "rf")) (by walk_at "name") (EvL.cons (by walk_at "name") EvL.nil (by walk_at "rf")) (indent_contract (W := wsOf (leadOf kinds behind)) (size := size) (by omega) (by omega) (by omega) (hA'.of_le (by decide))) (by walk_at "rf") (by walk_at "rf") (by walk_at "rf")) (by walk_at "name") Op2.isub) ?_
        rw [level_lead hk hsz]; congr 1; omega
      all_goals first | walk_at "rf" | decide | (intro _; walk_at "rf")
    have c1 : colAt kinds 1 = kinds.count 1 + 2 * kinds.count 2 + kinds.length := rfl
    have c2 : colAt kinds 2 = 2 * (kinds.count 2 + kinds.length) := rfl
    have c3 : colAt kinds 3 = 3 * kinds.length := rfl
    have hcount := count_all kinds hk
    apply Ex.cons
    · apply ExS.assign (d := .int (kinds.length : Nat)) (hx := .inl (by walk_at "rf")) (hk := by walk_at "rf") (hs := by walk_at "rf")
      refine Ev.eq (Ev.binop (Ev.sub (k := 2) (d := .int (colAt kinds 3 : Nat)) (by walk_at "name") Ev.int (by decide) (by walk_at "rf") (by intro _ _; walk_at "rf") (by decide)) Ev.int (Op2.idivN 3 rfl (by decide) (by decide))) ?_
      congr 1; omega
    apply Ex.cons
    · apply ExS.assign (d := .int (kinds.count 2 : Nat)) (hx := .inl (by walk_at "rf")) (hk := by walk_at "rf") (hs := by walk_at "rf")
      refine Ev.eq (Ev.binop (Ev.binop (Ev.sub (k := 1) (d := .int (colAt kinds 2 : Nat)) (by walk_at "name") Ev.int (by decide) (by walk_at "rf") (by intro _ _; walk_at "rf") (by decide)) Ev.int (Op2.idivN 2 rfl (by decide) (by decide))) (by walk_at "name") Op2.isub) ?_
      congr 1; omega
    apply Ex.cons
    · apply ExS.assign (d := .int (kinds.count 1 : Nat)) (hx := .inl (by walk_at "rf")) (hk := by walk_at "rf") (hs := by walk_at "rf")
      refine Ev.eq (Ev.binop (Ev.binop (Ev.sub (k := 0) (d := .int (colAt kinds 1 : Nat)) (by walk_at "name") Ev.int (by decide) (by walk_at "rf") (by intro _ _; walk_at "rf") (by decide)) (by walk_at "name") Op2.isub) (Ev.binop Ev.int (by walk_at "name") (Op2.imulS (by decide))) Op2.isub) ?_
      congr 1; omega
    apply Ex.ret
    apply ExS.ret
    refine Ev.eq (Ev.list (EvL.cons (Ev.binop (Ev.binop (by walk_at "name") (by walk_at "name") Op2.isub) (by walk_at "name") Op2.isub) (EvL.cons (by walk_at "name") (EvL.cons (by walk_at "name") EvL.nil (by walk_at "rf")) (by walk_at "rf")) (by walk_at "rf")) (le_size (Nat.le_of_ble_eq_true rfl))) ?_
    congr 3; omega
  case hbind => walk_at "bind2"
  case hnd => decide
  case hlen => rfl
  all_goals first | rfl | decide
end

end

section
open PySem PySem.Spec PySem.Calls PySem.W PyProof.Rows
set_option maxRecDepth 100000
set_option linter.all false
/-- 12 more than what the steps of a lot come to, the steps given with 3 more each -/
def lotVal (a b c d lot : Nat) : Nat := (bif lot % 2 == 1 then a else 3) + (bif lot / 2 % 2 == 1 then b else 3) + (bif lot / 4 % 2 == 1 then c else 3) + (bif lot / 8 % 2 == 1 then d else 3)
def line5 (p q r s : Nat) : List Nat := [12, p, q, r, s]
def pos5 (l : List Nat) : Nat := l.countP fun v => Nat.blt 12 v
def argGo : List Nat → Nat → Nat → Nat → Nat
  | [], _, _, b => b
  | v :: r, i, m, b => bif Nat.blt m v then argGo r (i + 1) v i else argGo r (i + 1) m b
def argOf : List Nat → Nat
  | [] => 0
  | v :: r => argGo r 1 v 0
def lines (a b c d : Nat) : List (List Nat) := (waysAt 4).map fun way => way.map (lotVal a b c d)
def score (f : List Nat → Nat) : List (List Nat) → Nat
  | [] => 0
  | l :: r => 64 ^ f l + score f r
def lines24 (a b c d : Nat) : List (List Nat) := [
  line5 (a + 9) (a + b + 6) (a + b + c + 3) (a + b + c + d),
  line5 (a + 9) (a + b + 6) (a + b + d + 3) (a + b + c + d),
  line5 (a + 9) (a + c + 6) (a + b + c + 3) (a + b + c + d),
  line5 (a + 9) (a + c + 6) (a + c + d + 3) (a + b + c + d),
  line5 (a + 9) (a + d + 6) (a + b + d + 3) (a + b + c + d),
  line5 (a + 9) (a + d + 6) (a + c + d + 3) (a + b + c + d),
  line5 (b + 9) (a + b + 6) (a + b + c + 3) (a + b + c + d),
  line5 (b + 9) (a + b + 6) (a + b + d + 3) (a + b + c + d),
  line5 (b + 9) (b + c + 6) (a + b + c + 3) (a + b + c + d),
  line5 (b + 9) (b + c + 6) (b + c + d + 3) (a + b + c + d),
  line5 (b + 9) (b + d + 6) (a + b + d + 3) (a + b + c + d),
  line5 (b + 9) (b + d + 6) (b + c + d + 3) (a + b + c + d),
  line5 (c + 9) (a + c + 6) (a + b + c + 3) (a + b + c + d),
  line5 (c + 9) (a + c + 6) (a + c + d + 3) (a + b + c + d),
  line5 (c + 9) (b + c + 6) (a + b + c + 3) (a + b + c + d),
  line5 (c + 9) (b + c + 6) (b + c + d + 3) (a + b + c + d),
  line5 (c + 9) (c + d + 6) (a + c + d + 3) (a + b + c + d),
  line5 (c + 9) (c + d + 6) (b + c + d + 3) (a + b + c + d),
  line5 (d + 9) (a + d + 6) (a + b + d + 3) (a + b + c + d),
  line5 (d + 9) (a + d + 6) (a + c + d + 3) (a + b + c + d),
  line5 (d + 9) (b + d + 6) (a + b + d + 3) (a + b + c + d),
  line5 (d + 9) (b + d + 6) (b + c + d + 3) (a + b + c + d),
  line5 (d + 9) (c + d + 6) (a + c + d + 3) (a + b + c + d),
  line5 (d + 9) (c + d + 6) (b + c + d + 3) (a + b + c + d)]
theorem ways_lit : waysAt 4 = [[0,1,3,7,15],[0,1,3,11,15],[0,1,5,7,15],[0,1,5,13,15],[0,1,9,11,15],[0,1,9,13,15],[0,2,3,7,15],[0,2,3,11,15],[0,2,6,7,15],[0,2,6,14,15],[0,2,10,11,15],[0,2,10,14,15],[0,4,5,7,15],[0,4,5,13,15],[0,4,6,7,15],[0,4,6,14,15],[0,4,12,13,15],[0,4,12,14,15],[0,8,9,11,15],[0,8,9,13,15],[0,8,10,11,15],[0,8,10,14,15],[0,8,12,13,15],[0,8,12,14,15]] := by decide
theorem lotVal0 (a b c d : Nat) : lotVal a b c d 0 = 12 := rfl
theorem lotVal1 (a b c d : Nat) : lotVal a b c d 1 = a + 9 := by
  show a + 3 + 3 + 3 = _
  omega
theorem lotVal2 (a b c d : Nat) : lotVal a b c d 2 = b + 9 := by
  show 3 + b + 3 + 3 = _
  omega
theorem lotVal3 (a b c d : Nat) : lotVal a b c d 3 = a + b + 6 := by
  show a + b + 3 + 3 = _
  omega
theorem lotVal4 (a b c d : Nat) : lotVal a b c d 4 = c + 9 := by
  show 3 + 3 + c + 3 = _
  omega
theorem lotVal5 (a b c d : Nat) : lotVal a b c d 5 = a + c + 6 := by
  show a + 3 + c + 3 = _
  omega
theorem lotVal6 (a b c d : Nat) : lotVal a b c d 6 = b + c + 6 := by
  show 3 + b + c + 3 = _
  omega
theorem lotVal7 (a b c d : Nat) : lotVal a b c d 7 = a + b + c + 3 := by
  show a + b + c + 3 = _
  omega
theorem lotVal8 (a b c d : Nat) : lotVal a b c d 8 = d + 9 := by
  show 3 + 3 + 3 + d = _
  omega
theorem lotVal9 (a b c d : Nat) : lotVal a b c d 9 = a + d + 6 := by
  show a + 3 + 3 + d = _
  omega
theorem lotVal10 (a b c d : Nat) : lotVal a b c d 10 = b + d + 6 := by
  show 3 + b + 3 + d = _
  omega
theorem lotVal11 (a b c d : Nat) : lotVal a b c d 11 = a + b + d + 3 := by
  show a + b + 3 + d = _
  omega
theorem lotVal12 (a b c d : Nat) : lotVal a b c d 12 = c + d + 6 := by
  show 3 + 3 + c + d = _
  omega
theorem lotVal13 (a b c d : Nat) : lotVal a b c d 13 = a + c + d + 3 := by
  show a + 3 + c + d = _
  omega
theorem lotVal14 (a b c d : Nat) : lotVal a b c d 14 = b + c + d + 3 := by
  show 3 + b + c + d = _
  omega
theorem lotVal15 (a b c d : Nat) : lotVal a b c d 15 = a + b + c + d := rfl
theorem lines_eq (a b c d : Nat) : lines a b c d = lines24 a b c d := by
  unfold lines
  rw [ways_lit]
  simp only [List.map_cons, List.map_nil, lotVal0, lotVal1, lotVal2, lotVal3, lotVal4, lotVal5, lotVal6, lotVal7, lotVal8, lotVal9, lotVal10, lotVal11, lotVal12, lotVal13, lotVal14, lotVal15]
  rfl
def saOk (a b c d : Nat) : Bool := Nat.beq (score pos5 (lines24 a b c d)) (score argOf (lines24 a b c d))
def saFrom (a : Nat) : Bool := (List.range 7).all fun b => (List.range 7).all fun c => (List.range 7).all fun d => saOk a b c d
set_option maxHeartbeats 4000000
theorem sa0 : saFrom 0 = true := by decide +kernel
theorem sa1 : saFrom 1 = true := by decide +kernel
theorem sa2 : saFrom 2 = true := by decide +kernel
theorem sa3 : saFrom 3 = true := by decide +kernel
theorem sa4 : saFrom 4 = true := by decide +kernel
theorem sa5 : saFrom 5 = true := by decide +kernel
theorem sa6 : saFrom 6 = true := by decide +kernel
theorem sa_all {a b c d : Nat} (ha : a < 7) (hb : b < 7) (hc : c < 7) (hd : d < 7) : score pos5 (lines a b c d) = score argOf (lines a b c d) := by
  have h : saFrom a = true := by
    rcases (by omega : a = 0 ∨ a = 1 ∨ a = 2 ∨ a = 3 ∨ a = 4 ∨ a = 5 ∨ a = 6) with rfl | rfl | rfl | rfl | rfl | rfl | rfl
    · exact sa0
    · exact sa1
    · exact sa2
    · exact sa3
    · exact sa4
    · exact sa5
    · exact sa6
  have h := List.all_eq_true.mp h b (List.mem_range.mpr hb)
  have h := List.all_eq_true.mp h c (List.mem_range.mpr hc)
  have h := List.all_eq_true.mp h d (List.mem_range.mpr hd)
  rw [lines_eq]
  exact Nat.eq_of_beq_eq_true h
/-- equal scores: the same numbers, each as often -/
theorem score_counts (f : List Nat → Nat) : ∀ ls : List (List Nat), (∀ l ∈ ls, f l ≤ 4) → score f ls = (ls.map f).count 0 + 64 * (ls.map f).count 1 + 4096 * (ls.map f).count 2 + 262144 * (ls.map f).count 3 + 16777216 * (ls.map f).count 4
  | [], _ => rfl
  | l :: r, h => by
    have ih := score_counts f r fun x hx => h x (.tail _ hx)
    have hl := h l (.head _)
    unfold score
    rw [ih, List.map_cons, List.count_cons, List.count_cons, List.count_cons, List.count_cons, List.count_cons]
    generalize f l = k at *
    rcases (by omega : k = 0 ∨ k = 1 ∨ k = 2 ∨ k = 3 ∨ k = 4) with rfl | rfl | rfl | rfl | rfl <;> simp <;> omega
theorem score_perm (f g : List Nat → Nat) (ls : List (List Nat)) (hf : ∀ l ∈ ls, f l ≤ 4) (hg : ∀ l ∈ ls, g l ≤ 4) (hl : ls.length ≤ 24) (h : score f ls = score g ls) : (ls.map f).Perm (ls.map g) := by
  rw [score_counts f ls hf, score_counts g ls hg] at h
  have lf : ∀ k, (ls.map f).count k ≤ 24 := fun k => Nat.le_trans List.count_le_length (by rw [List.length_map]; exact hl)
  have lg : ∀ k, (ls.map g).count k ≤ 24 := fun k => Nat.le_trans List.count_le_length (by rw [List.length_map]; exact hl)
  have a0 := lf 0; have a1 := lf 1; have a2 := lf 2; have a3 := lf 3; have a4 := lf 4
  have b0 := lg 0; have b1 := lg 1; have b2 := lg 2; have b3 := lg 3; have b4 := lg 4
  rw [List.perm_iff_count]
  intro k
  by_cases hk : k ≤ 4
  · rcases (by omega : k = 0 ∨ k = 1 ∨ k = 2 ∨ k = 3 ∨ k = 4) with rfl | rfl | rfl | rfl | rfl <;> omega
  · rw [List.count_eq_zero.mpr fun hm => ?_, List.count_eq_zero.mpr fun hm => ?_]
    · obtain ⟨l, hl, rfl⟩ := List.mem_map.mp hm; exact hk (hg l hl)
    · obtain ⟨l, hl, rfl⟩ := List.mem_map.mp hm; exact hk (hf l hl)
theorem lines_len {a b c d} : (lines a b c d).length = 24 := by rw [lines_eq]; rfl
theorem line_len {a b c d} : ∀ l ∈ lines a b c d, l.length = 5 := by
  rw [lines_eq]; intro l hl
  simp only [lines24, List.mem_cons, List.not_mem_nil, or_false] at hl
  rcases hl with rfl | rfl | rfl | rfl | rfl | rfl | rfl | rfl | rfl | rfl | rfl | rfl | rfl | rfl | rfl | rfl | rfl | rfl | rfl | rfl | rfl | rfl | rfl | rfl <;> rfl
theorem argGo_lt : ∀ (l : List Nat) (i m b : Nat), b < i → argGo l i m b < i + l.length
  | [], i, m, b, h => by unfold argGo; simpa using h
  | v :: r, i, m, b, h => by
    unfold argGo
    rw [List.length_cons]
    cases Nat.blt m v
    · have := argGo_lt r (i + 1) m b (by omega); rw [cond_false]; omega
    · have := argGo_lt r (i + 1) v i (by omega); rw [cond_true]; omega
theorem argOf_lt {l : List Nat} (h : l ≠ []) : argOf l < l.length := by
  cases l with
  | nil => exact absurd rfl h
  | cons v r => have := argGo_lt r 1 v 0 (by decide); show argGo r 1 v 0 < _; rw [List.length_cons]; omega
/-- the place of the first greatest -/
theorem argGo_spec : ∀ (l pre : List Nat) (m b : Nat), pre[b]? = some m → (∀ j, j < b → ∀ x, pre[j]? = some x → x < m) → (∀ x ∈ pre, x ≤ m) →
    ∃ M, (pre ++ l)[argGo l pre.length m b]? = some M ∧ (∀ j, j < argGo l pre.length m b → ∀ x, (pre ++ l)[j]? = some x → x < M) ∧ ∀ x ∈ pre ++ l, x ≤ M
  | [], pre, m, b, h1, h2, h3 => ⟨m, by simpa [argGo] using h1, by simpa [argGo] using h2, by simpa using h3⟩
  | v :: r, pre, m, b, h1, h2, h3 => by
    have hb : b < pre.length := (List.getElem?_eq_some_iff.mp h1).1
    have e : pre ++ v :: r = (pre ++ [v]) ++ r := by simp
    have el : (pre ++ [v]).length = pre.length + 1 := by simp
    unfold argGo
    cases q : Nat.blt m v
    · rw [cond_false, e, ← el]
      have q' : v ≤ m := by
        have : ¬ m < v := fun hh => by
          have : Nat.blt m v = true := by unfold Nat.blt; exact Nat.ble_eq_true_of_le hh
          rw [this] at q; cases q
        omega
      refine argGo_spec r (pre ++ [v]) m b ?_ (fun j hj x hx => ?_) fun x hx => ?_
      · rw [List.getElem?_append_left hb]; exact h1
      · rw [List.getElem?_append_left (by omega)] at hx; exact h2 j hj x hx
      · rcases List.mem_append.mp hx with hx | hx
        · exact h3 x hx
        · rw [List.mem_singleton.mp hx]; exact q'
    · rw [cond_true, e, ← el]
      have q' : m < v := Nat.le_of_ble_eq_true q
      refine argGo_spec r (pre ++ [v]) v pre.length ?_ (fun j hj x hx => ?_) fun x hx => ?_
      · rw [List.getElem?_append_right (Nat.le_refl _), Nat.sub_self]; rfl
      · rw [List.getElem?_append_left hj] at hx
        have := h3 x (List.mem_of_getElem? hx); omega
      · rcases List.mem_append.mp hx with hx | hx
        · have := h3 x hx; omega
        · rw [List.mem_singleton.mp hx]; exact Nat.le_refl _
theorem argOf_spec {l : List Nat} (h : l ≠ []) : ∃ M, l[argOf l]? = some M ∧ (∀ j, j < argOf l → ∀ x, l[j]? = some x → x < M) ∧ ∀ x ∈ l, x ≤ M := by
  cases l with
  | nil => exact absurd rfl h
  | cons v r =>
    have := argGo_spec r [v] v 0 rfl (fun j hj => absurd hj (Nat.not_lt_zero _)) (fun x hx => by rw [List.mem_singleton.mp hx]; exact Nat.le_refl _)
    simpa [argOf] using this
theorem pos5_le {l : List Nat} : pos5 l ≤ l.length := List.countP_le_length
theorem pos5_line_le {a b c d} : ∀ l ∈ lines a b c d, pos5 l ≤ 4 := by
  rw [lines_eq]; intro l hl
  have key : ∀ p q r s, pos5 (line5 p q r s) ≤ 4 := fun p q r s => by
    unfold pos5 line5
    rw [List.countP_cons]
    have : ([p, q, r, s].countP fun v => Nat.blt 12 v) ≤ 4 := List.countP_le_length
    have e : Nat.blt 12 12 = false := by decide
    rw [e]
    simpa using this
  simp only [lines24, List.mem_cons, List.not_mem_nil, or_false] at hl
  rcases hl with rfl | rfl | rfl | rfl | rfl | rfl | rfl | rfl | rfl | rfl | rfl | rfl | rfl | rfl | rfl | rfl | rfl | rfl | rfl | rfl | rfl | rfl | rfl | rfl <;> exact key _ _ _ _
theorem sa_perm {a b c d : Nat} (ha : a < 7) (hb : b < 7) (hc : c < 7) (hd : d < 7) : ((lines a b c d).map pos5).Perm ((lines a b c d).map argOf) :=
  score_perm _ _ _ pos5_line_le (fun l hl => by
    have e := line_len l hl
    have := argOf_lt (l := l) (fun q => by rw [q] at e; cases e)
    omega) (by rw [lines_len]; decide) (sa_all ha hb hc hd)

end

section
open PySem PySem.Spec PySem.Calls PySem.W PyProof.Rows
set_option maxRecDepth 100000
set_option linter.all false
def namePieces (l : List Nat) : List (List Nat) := (sp 38 l).tail
def nameLen (p : List Nat) : Nat := ((sp 59 p).headD []).length
def namesOf (l : List Nat) : List Nat := (namePieces l).map fun p => nameLen p - 2
def pageOf (h x : Nat) : List Nat := (textOf h x).flatMap (esc (Eh h))
def pageOk (l : List Nat) : Bool := (namePieces l).all (fun p => Nat.ble 2 (nameLen p) && Nat.ble (nameLen p) 4) && Nat.ble (namePieces l).length 3 && Nat.ble l.length 18
def alph (h : Nat) : List Nat := (rowsOf h).flatten
def chk1 (h : Nat) : Bool := (alph h).all fun a => pageOk ([a].flatMap (esc (Eh h)))
def chk2 (h : Nat) : Bool := (alph h).all fun a => (alph h).all fun b => pageOk ([a, b].flatMap (esc (Eh h)))
def chk3 (h : Nat) : Bool := (alph h).all fun a => (alph h).all fun b => (alph h).all fun c => pageOk ([a, b, c].flatMap (esc (Eh h)))
set_option maxHeartbeats 4000000
theorem chk_1 : ∀ h, h < 3 → chk1 h = true := by decide +kernel
theorem chk_2 : ∀ h, h < 3 → chk2 h = true := by decide +kernel
theorem chk_3 : ∀ h, h < 3 → chk3 h = true := by decide +kernel
theorem signOf_mem {h : Nat} (hh : h < 3) (p : Nat) : signOf h p ∈ alph h := by
  have hr := rowOf_pos h p
  have h1 := signOf_get (h := h) (p := p)
  unfold alph
  exact List.mem_flatten.mpr ⟨rowOf h p, List.mem_of_getElem? (rowOf_get h p), List.mem_of_getElem? h1⟩
theorem page_ok {h x : Nat} (hh : h < 3) : pageOk (pageOf h x) = true := by
  unfold pageOf textOf picksOf
  have m := signOf_mem hh
  rcases (by omega : x % 3 = 0 ∨ x % 3 = 1 ∨ x % 3 = 2) with e | e | e <;> rw [e]
  · exact List.all_eq_true.mp (chk_1 h hh) _ (m _)
  · exact List.all_eq_true.mp (List.all_eq_true.mp (chk_2 h hh) _ (m _)) _ (m _)
  · exact List.all_eq_true.mp (List.all_eq_true.mp (List.all_eq_true.mp (chk_3 h hh) _ (m _)) _ (m _)) _ (m _)
theorem page_names {h x : Nat} (hh : h < 3) : (∀ p ∈ namePieces (pageOf h x), 2 ≤ nameLen p ∧ nameLen p ≤ 4) ∧ (namePieces (pageOf h x)).length ≤ 3 ∧ (pageOf h x).length ≤ 18 := by
  have := page_ok (x := x) hh
  unfold pageOk at this
  rw [Bool.and_eq_true, Bool.and_eq_true, List.all_eq_true] at this
  refine ⟨fun p hp => ?_, Nat.le_of_ble_eq_true this.1.2, Nat.le_of_ble_eq_true this.2⟩
  have := this.1.1 p hp
  rw [Bool.and_eq_true] at this
  exact ⟨Nat.le_of_ble_eq_true this.1, Nat.le_of_ble_eq_true this.2⟩
theorem names_le {h x : Nat} (hh : h < 3) : (∀ k ∈ namesOf (pageOf h x), k ≤ 2) ∧ (namesOf (pageOf h x)).length ≤ 3 := by
  obtain ⟨a, b, c⟩ := page_names (x := x) hh
  refine ⟨fun k hk => ?_, by unfold namesOf; rw [List.length_map]; exact b⟩
  obtain ⟨p, hp, rfl⟩ := List.mem_map.mp hk
  have := a p hp; omega

end

section
open PySem PySem.Spec PySem.Calls PySem.W PyProof.Rows
set_option maxRecDepth 100000
set_option linter.all false
def kindsLot (N : Nat → List Nat) (lot : Nat) : List Nat := (List.range 4).flatMap fun j => bif lot / 2 ^ j % 2 == 1 then N j else []
def stp (N : Nat → List Nat) (turn pair j : Nat) : Int := frontOf ((N j).count 0 : Nat) ((N j).count 1 : Nat) ((N j).count 2 : Nat) pair turn
def lv (N : Nat → List Nat) (turn pair lot : Nat) : Nat := lotVal (3 + stp N turn pair 0).toNat (3 + stp N turn pair 1).toNat (3 + stp N turn pair 2).toNat (3 + stp N turn pair 3).toNat lot
def Names (N : Nat → List Nat) : Prop := ∀ j, (∀ k ∈ N j, k ≤ 2) ∧ (N j).length ≤ 3
theorem kindsLot_eq (N : Nat → List Nat) (lot : Nat) : kindsLot N lot = (bif lot % 2 == 1 then N 0 else []) ++ ((bif lot / 2 % 2 == 1 then N 1 else []) ++ ((bif lot / 4 % 2 == 1 then N 2 else []) ++ (bif lot / 8 % 2 == 1 then N 3 else []))) := by
  simp [kindsLot, List.range_succ]
theorem kindsLot_le {N lot} (hN : Names N) : ∀ k ∈ kindsLot N lot, k ≤ 2 := fun k hk => by
  unfold kindsLot at hk
  obtain ⟨j, _, h⟩ := List.mem_flatMap.mp hk
  cases q : (lot / 2 ^ j % 2 == 1)
  · rw [q, cond_false] at h; cases h
  · rw [q, cond_true] at h; exact (hN j).1 k h
theorem len_bif {b : Bool} {l : List Nat} : (bif b then l else []).length = bif b then l.length else 0 := by cases b <;> rfl
theorem count_bif {b : Bool} {l : List Nat} {k : Nat} : (bif b then l else []).count k = bif b then l.count k else 0 := by cases b <;> rfl
theorem bif_le {b : Bool} {n : Nat} (h : n ≤ 3) : (bif b then n else 0) ≤ 3 * b.toNat := by cases b <;> simp [h]
theorem bits_le : ∀ lot, lot < 16 → (lot % 2 == 1).toNat + ((lot / 2 % 2 == 1).toNat + ((lot / 4 % 2 == 1).toNat + (lot / 8 % 2 == 1).toNat)) ≤ 4 ∧ (lot % 3 ≠ 0 → (lot % 2 == 1).toNat + ((lot / 2 % 2 == 1).toNat + ((lot / 4 % 2 == 1).toNat + (lot / 8 % 2 == 1).toNat)) ≤ 3) := by decide
theorem kindsLot_len {N lot} (hN : Names N) (h2 : lot < 16) : (kindsLot N lot).length ≤ 12 ∧ (lot % 3 ≠ 0 → (kindsLot N lot).length ≤ 9) := by
  rw [kindsLot_eq, List.length_append, List.length_append, List.length_append, len_bif, len_bif, len_bif, len_bif]
  have hs := Nat.add_le_add (bif_le (b := (lot % 2 == 1)) (hN 0).2) (Nat.add_le_add (bif_le (b := (lot / 2 % 2 == 1)) (hN 1).2) (Nat.add_le_add (bif_le (b := (lot / 4 % 2 == 1)) (hN 2).2) (bif_le (b := (lot / 8 % 2 == 1)) (hN 3).2)))
  rw [← Nat.mul_add, ← Nat.mul_add, ← Nat.mul_add] at hs
  have hb := bits_le lot h2
  exact ⟨Nat.le_trans hs (Nat.mul_le_mul_left 3 hb.1), fun q => Nat.le_trans hs (Nat.mul_le_mul_left 3 (hb.2 q))⟩
theorem kindsLot_count {N lot} (k : Nat) : (kindsLot N lot).count k = (bif lot % 2 == 1 then (N 0).count k else 0) + ((bif lot / 2 % 2 == 1 then (N 1).count k else 0) + ((bif lot / 4 % 2 == 1 then (N 2).count k else 0) + (bif lot / 8 % 2 == 1 then (N 3).count k else 0))) := by
  rw [kindsLot_eq, List.count_append, List.count_append, List.count_append, count_bif, count_bif, count_bif, count_bif]
theorem front_small {a b c pair turn : Nat} (h : a + b + c ≤ 3) (hp : pair < 3) (ht : turn < 2) : -3 ≤ frontOf a b c pair turn ∧ frontOf a b c pair turn ≤ 3 := by
  rcases (by omega : pair = 0 ∨ pair = 1 ∨ pair = 2) with rfl | rfl | rfl <;> rcases (by omega : turn = 0 ∨ turn = 1) with rfl | rfl <;> simp [frontOf, pick3] <;> omega
theorem stp_small {N turn pair j} (hN : Names N) (hp : pair < 3) (ht : turn < 2) : -3 ≤ stp N turn pair j ∧ stp N turn pair j ≤ 3 :=
  front_small (by have := count_all (N j) (hN j).1; have := (hN j).2; omega) hp ht
theorem front_add {a b c a' b' c' : Int} {pair : Nat} {turn : Int} : frontOf (a + a') (b + b') (c + c') pair turn = frontOf a b c pair turn + frontOf a' b' c' pair turn := by
  unfold frontOf pick3
  rw [← Int.add_mul]
  congr 1
  split <;> split <;> (try split) <;> (try split) <;> omega
theorem front_bif {b : Bool} {x y z : Nat} {pair : Nat} {turn : Int} : frontOf ((bif b then x else 0 : Nat) : Int) ((bif b then y else 0 : Nat) : Int) ((bif b then z else 0 : Nat) : Int) pair turn = bif b then frontOf x y z pair turn else 0 := by
  cases b
  · simp [frontOf, pick3]
  · rfl
theorem bit_val {b : Bool} {x : Int} (h : -3 ≤ x) : (bif b then x else 0) = ((bif b then (3 + x).toNat else 3 : Nat) : Int) - 3 := by
  cases b
  · rfl
  · show x = ((3 + x).toNat : Int) - 3; omega
theorem front_lot {N} {turn pair lot : Nat} (hN : Names N) (hp : pair < 3) (ht : turn < 2) : frontOf ((kindsLot N lot).count 0 : Nat) ((kindsLot N lot).count 1 : Nat) ((kindsLot N lot).count 2 : Nat) pair turn = (lv N turn pair lot : Int) - 12 := by
  rw [kindsLot_count, kindsLot_count, kindsLot_count]
  push_cast
  rw [front_add, front_add, front_add, front_bif, front_bif, front_bif, front_bif]
  have s0 := stp_small (j := 0) hN hp ht; have s1 := stp_small (j := 1) hN hp ht; have s2 := stp_small (j := 2) hN hp ht; have s3 := stp_small (j := 3) hN hp ht
  unfold lv lotVal
  show (bif _ then stp N turn pair 0 else 0) + ((bif _ then stp N turn pair 1 else 0) + ((bif _ then stp N turn pair 2 else 0) + (bif _ then stp N turn pair 3 else 0))) = _
  rw [bit_val s0.1, bit_val s1.1, bit_val s2.1, bit_val s3.1]
  clear s0 s1 s2 s3
  push_cast
  omega
theorem lv_zero {N turn pair} : lv N turn pair 0 = 12 := rfl
def fcnt (lot k : Nat) : Int := if ((lot % 3 / 2 : Nat) : Int) = 1 then 16 - (k : Int) else k
theorem placeAll {a b c lot : Nat} (h : a + b + c ≤ 12) (h' : lot % 3 ≠ 0 → a + b + c ≤ 9) : placeGood a b c (lot % 3) = true := by
  rcases (by omega : lot % 3 = 0 ∨ lot % 3 = 1 ∨ lot % 3 = 2) with e | e | e <;> rw [e] at h' ⊢
  · exact placeAll0 a b c (by omega)
  · exact placeAll1 a b c (by have := h' (by decide); omega)
  · exact placeAll2 a b c (by have := h' (by decide); omega)
theorem lot_place {N} {turn lot : Nat} (hN : Names N) (ht : turn < 2) (h2 : lot < 16) :
    ∃ p, okPlace (fcnt lot ((kindsLot N lot).count 0)) (fcnt lot ((kindsLot N lot).count 1)) (fcnt lot ((kindsLot N lot).count 2)) (decide (lot % 3 > 0)) = true ∧
      placeOf (fcnt lot ((kindsLot N lot).count 0)) (fcnt lot ((kindsLot N lot).count 1)) (fcnt lot ((kindsLot N lot).count 2)) (decide (lot % 3 > 0)) = some p ∧
      ∀ pair : Nat, pair < 3 → aheadOf p (max ((kindsLot N lot).count 0 : Int) (max ((kindsLot N lot).count 1) ((kindsLot N lot).count 2)) - min ((kindsLot N lot).count 0 : Int) (min ((kindsLot N lot).count 1) ((kindsLot N lot).count 2))) pair turn ((lot % 3 / 2 : Nat) : Int) = decide (12 < lv N turn pair lot) := by
  have hl := kindsLot_len (lot := lot) hN h2
  have hc := count_all _ (kindsLot_le (lot := lot) hN)
  have hg := placeAll (a := (kindsLot N lot).count 0) (b := (kindsLot N lot).count 1) (c := (kindsLot N lot).count 2) (lot := lot) (by omega) (fun q => by have := hl.2 q; omega)
  have hf := fun (pair : Nat) (hp : pair < 3) => front_lot (pair := pair) (lot := lot) hN hp ht
  generalize (kindsLot N lot).count 0 = a at *; generalize (kindsLot N lot).count 1 = b at *; generalize (kindsLot N lot).count 2 = c at *
  unfold placeGood at hg
  dsimp only at hg
  rw [placeQ_eq] at hg
  split at hg
  · rename_i p e
    have e := Prod.mk.inj e
    refine ⟨p, e.1, e.2, fun pair hp => ?_⟩
    have := List.all_eq_true.mp (List.all_eq_true.mp hg turn (List.mem_range.mpr ht)) pair (List.mem_range.mpr hp)
    rw [beq_iff_eq.mp this, hf pair hp]
    exact decide_eq_decide.mpr (by omega)
  · cases hg

end

section
open PySem PySem.Spec PySem.Calls PySem.W PyProof.Rows
set_option maxRecDepth 100000
set_option linter.all false
theorem pos_count (l : List Nat) : (l.map fun v => decide (12 < v)).count true = pos5 l := by
  unfold pos5
  induction l with
  | nil => rfl
  | cons v r ih =>
    rw [List.map_cons, List.count_cons, ih, List.countP_cons]
    congr 1
    by_cases h : 12 < v
    · have : Nat.blt 12 v = true := Nat.ble_eq_true_of_le h
      simp [h, this]
    · have : Nat.blt 12 v = false := by
        cases q : Nat.blt 12 v
        · rfl
        · exact absurd (Nat.le_of_ble_eq_true q) h
      simp [h, this]
theorem idxOf_at {l : List Int} {M : Int} {i : Nat} (h1 : l[i]? = some M) (h2 : ∀ j, j < i → ∀ x, l[j]? = some x → x ≠ M) : l.idxOf M = i := by
  induction l generalizing i with
  | nil => simp at h1
  | cons v r ih =>
    rw [List.idxOf_cons]
    cases i with
    | zero => simp at h1; subst h1; simp
    | succ i =>
      have hv : v ≠ M := h2 0 (by omega) v rfl
      have : (v == M) = false := by simpa using hv
      rw [this, cond_false, ih (by simpa using h1) fun j hj x hx => h2 (j + 1) (by omega) x (by simpa using hx)]
theorem max_at {l : List Nat} (h : l ≠ []) : ∃ M, M ∈ (l.map fun v : Nat => (v : Int) - 12) ∧ (∀ x ∈ (l.map fun v : Nat => (v : Int) - 12), x ≤ M) ∧ (l.map fun v : Nat => (v : Int) - 12).idxOf M = argOf l := by
  obtain ⟨M, h1, h2, h3⟩ := argOf_spec h
  refine ⟨(M : Int) - 12, List.mem_map.mpr ⟨M, List.mem_of_getElem? h1, rfl⟩, fun x hx => ?_, idxOf_at (by rw [List.getElem?_map, h1]; rfl) fun j hj x hx => ?_⟩
  · obtain ⟨v, hv, rfl⟩ := List.mem_map.mp hx
    have := h3 v hv; omega
  · rw [List.getElem?_map] at hx
    cases q : l[j]? with
    | none => rw [q] at hx; cases hx
    | some v => rw [q] at hx; cases hx; have := h2 j hj v q; show (v : Int) - 12 ≠ _; omega
theorem sorted_ex (l : List Int) : ∃ l' : List Int, l'.Perm l ∧ l'.Pairwise (· ≤ ·) :=
  ⟨l.mergeSort (fun a b => decide (a ≤ b)), List.mergeSort_perm _ _, (List.pairwise_mergeSort (le := fun a b : Int => decide (a ≤ b)) (fun a b c h1 h2 => by
    have := of_decide_eq_true h1; have := of_decide_eq_true h2; exact decide_eq_true (by omega)) (fun a b => by
    rw [Bool.or_eq_true, decide_eq_true_eq, decide_eq_true_eq]; omega) l).imp fun h => of_decide_eq_true h⟩
theorem lines_lv {N turn pair} : (waysAt 4).map (fun way => way.map (lv N turn pair)) = lines (3 + stp N turn pair 0).toNat (3 + stp N turn pair 1).toNat (3 + stp N turn pair 2).toNat (3 + stp N turn pair 3).toNat := rfl
theorem sa_final {N} {turn pair : Nat} (hN : Names N) (hp : pair < 3) (ht : turn < 2) :
    ((waysAt 4).map fun way => (pos5 (way.map (lv N turn pair)) : Int)).Perm ((waysAt 4).map fun way => (argOf (way.map (lv N turn pair)) : Int)) := by
  have s0 := stp_small (j := 0) hN hp ht; have s1 := stp_small (j := 1) hN hp ht; have s2 := stp_small (j := 2) hN hp ht; have s3 := stp_small (j := 3) hN hp ht
  have h := sa_perm (a := (3 + stp N turn pair 0).toNat) (b := (3 + stp N turn pair 1).toNat) (c := (3 + stp N turn pair 2).toNat) (d := (3 + stp N turn pair 3).toNat) (by omega) (by omega) (by omega) (by omega)
  rw [← lines_lv, List.map_map, List.map_map] at h
  have := h.map (fun n : Nat => (n : Int))
  rw [List.map_map, List.map_map] at this
  exact this
theorem way_facts : ∀ way ∈ waysAt 4, way.length = 5 ∧ ∀ lot ∈ way, lot < 16 := by rw [ways_lit]; decide

end

section
open PySem PySem.Spec PySem.Calls PySem.W PyProof.Rows
set_option maxRecDepth 100000
set_option linter.all false
set_option maxHeartbeats 4000000
section
variable {w : World} {mg mb : PySem.Str → Option Value} {A : Around} {env : Env} {m : Vars}
theorem EvT.int {e} {a : Int} (h : Ev w mg mb A env m e (.int a)) (he : ∀ whole, isTrue e env whole = (do let v ← whole; standAt e.pos; holding [v] (truthy v))) : EvT w mg mb A env m e (a != 0) := .mk fun Z s Q E T S hQ =>
  wpAny_isTrue_value (h.run Z s _ E T S fun v s' k r => by
    obtain ⟨t, rfl⟩ := Rep_int.1 r
    exact truthy_int (hQ s' k)) (he _)

theorem newEnv1 {M : Model} {A : Around} {E : Value → Shared → Prop} {s : Shared} {scope : Scope} {globals : Addr} {n : PySem.Str} {v : Value} {qual : PySem.Str} {func : Option Addr} {code : Value} {builtins : Addr} {Q : Env → Shared → Prop}
    (hk : scope.kind = .function) (hl : scope.names.lookup n = some .local)
    (hQ : ∀ env, env = newEnv scope s.heap.objs.size globals (cellsFrom (s.heap.objs.size + 1) scope.names []) qual func code none builtins →
      ∀ s', InCallC s env.locals (bindL env.kindOf [(n, v)] fun _ => none) env.cells (bindC env.kindOf [(n, v)] fun _ => none) s' → 1 ≤ s'.toks → Q env s') :
    wpAny M A (newFunctionEnv scope globals [] [(n, v)] qual func code none builtins) Q E s := by
  simp only [newFunctionEnv, Option.isSome_none, Bool.false_eq_true, if_false]
  refine wpAny_bind (wpAny_alloc ?_)
  refine wpAny_bind (wpAny_layCells _ (fun name kind cells => by cases hkc : kind == NameKind.cell <;> simp [hkc]) _ _ _ _ ?_)
  have ok := cellsFrom_ok scope.names (s.heap.push { cls := .type "frame", data := .dict #[] }) (s.heap.objs.size + 1) [] ⟨fun _ _ hm => (nomatch hm), List.Pairwise.nil⟩ (by rw [Heap.size_push]; exact Nat.le_refl _)
  rw [Heap.size_push] at ok
  rw [show ({ s with heap := s.heap.push { cls := .type "frame", data := .dict #[] } } : Shared).heap.objs.size = s.heap.objs.size + 1 from Heap.size_push ..]
  have x : InCallC s (newEnv scope s.heap.objs.size globals (cellsFrom (s.heap.objs.size + 1) scope.names []) qual func code none builtins).locals (fun _ => none) (newEnv scope s.heap.objs.size globals (cellsFrom (s.heap.objs.size + 1) scope.names []) qual func code none builtins).cells (fun _ => none) { s with heap := pushCells (s.heap.push { cls := .type "frame", data := .dict #[] }) scope.names } :=
    ⟨⟨⟨_, _, rfl⟩, (Heap.Ns.new s.heap (.type "frame")).keeps (pushCells_keeps _ _), fun b o e => pushCells_keeps _ _ b o (Heap.get?_push_of_some _ e), Nat.le_refl _⟩,
      fun n c hc => (ok.empty n c (mem_of_lookup hc)).1, ok.apart, fun n c hm => (ok.empty n c hm).2⟩
  refine wpAny_bind ?_
  rw [List.forIn_cons]
  refine wpAny_bind (wpAny_bind ?_)
  refine wpAny_storeName_local hl x.toInCall.ns (fun h' hn' hs' => ?_) (by dsimp only; rw [hk]; rfl)
  refine wpAny_pure ?_
  dsimp only
  rw [List.forIn_nil]
  refine wpAny_pure (wpAny_pure (hQ _ rfl _ ?_ (Nat.le_add_left _ _)))
  have hl' : (newEnv scope s.heap.objs.size globals (cellsFrom (s.heap.objs.size + 1) scope.names []) qual func code none builtins).kindOf n = some .local := hl
  refine ⟨⟨⟨h', _, rfl⟩, ?_, fun b o e => ?_, x.toInCall.fresh⟩, fun k c hc => ?_, x.apart, x.above⟩
  · unfold bindL bindL; rw [if_pos hl']; exact hn'
  · exact hs'.extBut b o (Nat.ne_of_lt (Nat.lt_of_lt_of_le (Heap.lt_size e) x.toInCall.fresh)) (x.toInCall.keep b o e)
  · unfold bindC bindC; rw [if_pos hl']; exact (x.cell k c hc).sameBut hs' (Nat.ne_of_gt (x.above k c (mem_of_lookup hc)))

/-- the call of the law -/
theorem lawCall {f name params body scope n} {p : PySem.Str} {d₀ d : D} {s : Shared} {v₀ : Value} {Q E : Value → Shared → Prop} (df : IsDef f name params body scope)
    (hbind : ∀ doc pm an cdv ct (u : Value), bindArgs (fnOf name name params body scope .none .none doc pm an cdv ct) ⟨[u], []⟩ = pure [(p, u)])
    (hl : scope.names.lookup p = some .local) (hco : scope.isCoroutine = false) (hgen : scope.isGenerator = false) (hk : scope.kind = .function)
    (hnc : ((cellsFrom 0 scope.names []).map (·.1)).Nodup)
    (hbody : ∀ A' L cdv, Room A' n → GX w mg mb A' (envOfC name scope L f cdv) [(p, d₀)] [] body (.ret d)) (hA : Room A (n + 1))
    (B : Base w mg mb s.heap) (r : Rep w (fun _ => False) s.heap v₀ d₀)
    (hQ : ∀ v s', Rep w (fun _ => False) s'.heap v d → (∀ b o, s.heap.get? b = some o → s'.heap.get? b = some o) → s'.os = s.os → s'.gens = s.gens → Q v s') : wpAny (model prog w) A (call (.ref f) [v₀]) Q E s := by
  obtain ⟨oc, od, doc, pm, an, cdv, ct, osl, e, hc⟩ := df.ex w.params
  refine wpAny_call ?_
  refine codeAny_call_function (fd := fnOf name name params body scope .none .none doc pm an cdv ct) (body := body) (by have := hA.depth; omega) (B.K _ _ e) rfl hco hgen rfl (codeRec_of B.K hc) ((BindsTo.of_eq (hbind _ _ _ _ _ v₀)) _ _ _ _ ?_)
  refine newEnv1 hk hl fun env he s₁ x TT => ?_
  subst he
  refine ⟨B.nolimit.keeps x.toInCall.keep, codeAny_func ?_⟩
  obtain ⟨h₁, tk, rfl, hk₁⟩ := x.done
  have hroom : Room (A.deeper (envOfC name scope s.heap.objs.size f cdv)) n := ⟨hA.handled, by have := hA.depth; show A.depth + 1 + n < _; omega, by have := hA.units; show A.units + 3 + 16 * n < _; omega⟩
  have fresh : ∀ a, s.heap.objs.size ≤ a → s.heap.get? a = none := fun a ha => fresh_none _ _ ha
  have F : Fs w mg mb s.heap (fun a => Own (envOfC name scope s.heap.objs.size f cdv) a) (envOfC name scope s.heap.objs.size f cdv) [(p, d₀)] h₁ := by
    have ownfresh : ∀ a, Own (envOfC name scope s.heap.objs.size f cdv) a → s.heap.objs.size ≤ a := by
      rintro a (rfl | ⟨y, hy⟩)
      · exact Nat.le_refl _
      · exact Nat.le_of_lt (x.above y a (PySem.mem_of_lookup hy))
    refine ⟨B, hk₁, fun a z => ?_, fun y d' hx => ?_, fun a z => ⟨z, fresh a (ownfresh a z)⟩, ⟨_, x.toInCall.ns⟩, fun y c hy => ⟨_, x.cell y c hy⟩, fun y z c hy hz => name_of_addr x.apart (PySem.mem_of_lookup hy) (PySem.mem_of_lookup hz)⟩
    · rcases z with rfl | ⟨y, hy⟩
      · obtain ⟨o, _, _, q, _⟩ := x.toInCall.ns; exact ⟨o, q⟩
      · obtain ⟨o, q, _⟩ := x.cell y a hy; exact ⟨o, q⟩
    · by_cases q : y = p
      · subst q
        rw [lookup_cons_eq] at hx; cases hx
        refine ⟨v₀, .inl ⟨hl, _, x.toInCall.ns, bindL_mem _ _ _ _ (by simp) (.head _) hl⟩, Rep.keeps (Rep.zz (fun a o e z => ?_) _ _ r) hk₁⟩
        rw [fresh _ (ownfresh _ z)] at e; cases e
      · rw [lookup_cons_ne q] at hx; cases hx
  have G : Gs w mg mb s.heap (fun a => Own (envOfC name scope s.heap.objs.size f cdv) a) nil (envOfC name scope s.heap.objs.size f cdv) [(p, d₀)] [] h₁ := ⟨F, fun a f => f.elim, fun o ho => (nomatch ho), List.nodup_nil⟩
  refine wpAny_mono ((hbody _ _ _ hroom).run s.heap _ nil _ _ (fun _ _ => False) TT G fun fl s' k p => ?_) (fun _ _ q => q) (fun _ _ q => q.elim)
  obtain ⟨v, rfl, Z', zk, rv, m', F'⟩ := p
  obtain ⟨⟨h', tk', rfl⟩, _, kt⟩ := k
  exact hQ v _ (Rep.zz (fun _ _ _ z => z.elim) _ _ rv) F'.keep rfl rfl

theorem ints_rep {h : Heap} : ∀ {vs : List Value} {xs : List Int}, IntsAre vs xs → RepL w (fun _ => False) h vs (xs.map D.int)
  | [], [], _ => by rw [List.map_nil, RepL]; trivial
  | _ :: vs, _ :: xs, .cons n t r => by rw [List.map_cons, RepL]; exact ⟨rint, ints_rep r⟩
theorem plain_of {P : Params} {h : Heap} {a : Addr} {vs : List Value} {xs : List WData} (hL : h.IsList a vs.toArray) (hw : Well P h (.ref a) (.list xs)) : h.PlainList a vs.toArray := by
  obtain ⟨o, e, _, n, hd⟩ := hL
  cases hw with
  | list e' _ =>
    rw [e] at e'; cases e'
    cases hd
    exact ⟨_, e⟩

theorem law_top {params : Arguments} {b : List Stmt} {sc : Scope} (df : IsDef 166 "law" params b sc)
    (hbind : ∀ doc pm an cdv ct (u : Value), bindArgs (fnOf "law" "law" params b sc .none .none doc pm an cdv ct) ⟨[u], []⟩ = pure [(("script" : PySem.Str), u)])
    (hl : sc.names.lookup ("script" : PySem.Str) = some .local) (hco : sc.isCoroutine = false) (hgen : sc.isGenerator = false) (hk : sc.kind = .function) (hnc : ((cellsFrom 0 sc.names []).map (·.1)).Nodup)
    (hb : ∀ (w : World) (mg mb : PySem.Str → Option Value) (A' : Around) (L : Addr) (cdv : Value) (xs : List Int), xs.length ≤ 63 → Room A' 12 → GX w mg mb A' (envOfC "law" sc L 166 cdv) [(("script" : PySem.Str), D.list (xs.map D.int))] [] b (.ret (.bool true))) : PySem.Challenge.rw_tl0026_01.Holds := by
  w_on
  o_law
  refine holds_open (q := seen) (loose := [Str.ofString "Whitespace"]) (Xt := looks) (XP := XL seen []) (Yf := Hook.obs hook) (Ya := Hook.val hook) (YP := Hook.says hook) (N := 1998) left (Hook.of hook) (Hook.keeps hook) (fun s e => xl_of s (Bool.and_eq_true_iff.mp e).1) XL.keeps (by rfl) (by rfl) (by rfl) (fun s e => recFacts_of (Bool.and_eq_true_iff.mp e).2) (by rfl) (by first | assumption | decide +kernel) (by decide +kernel) ⟨rfl, rfl, rfl, rfl, rfl, by decide +kernel⟩ ?hw ?hc
  case hw => w_witness2
  intro w s₀ s₁ mg mb G Y fa o pm cd doc dV kV ho hd hcd hD hmg hg args vals as hpre hlay hrd hwl hlo
  have B : Base w mg mb s₁.heap := ⟨kIn_of Y, G.T.g, G.T.b, G.T.nolimit, G.T.builtins⟩
  have e : mg "law" = some (.ref 166) := mg_of B.K B.g (show nsIn (Kf w.params) mainGlobals "law" = some (some (.ref 166)) from rfl)
  have hfa : fa = 166 := by
    have hmg' : mg "law" = some (.ref fa) := hmg
    rw [e] at hmg'; cases hmg'; rfl
  subst hfa
  clear G Y ho hd hcd hD hmg
  wrow_args hpre hlay hrd hwl hlo
  rename_i xs _ _ _ _ _ _ _ a vs _ hL _ hw _ hI _ hlen _
  refine lawCall df hbind hl hco hgen hk hnc (n := 12) (fun A' L cdv hA' => hb w mg mb A' L cdv xs (by omega) hA') ⟨rfl, by decide, by decide⟩ B (Rep_list.2 ⟨a, vs, rfl, fun z => z, plain_of hL hw, ints_rep hI⟩) fun v s' rv kp hos hgens => ?_
  obtain rfl := Rep_bool.1 rv
  refine GoodW.toG ⟨.inl ⟨_, .bool true, [], rfl, fun _ => rfl, .bool true, (by first | kernel_rfl | with_unfolding_all rfl), fun _ => ⟨List.nodup_nil, fun a ha => (nomatch ha)⟩⟩, kp, hos, hgens.trans hg⟩
end

end

section
open PySem PySem.Spec PySem.Calls PySem.W PyProof.Rows
set_option maxRecDepth 100000
set_option linter.all false
set_option maxHeartbeats 8000000
def drawnOf (xs : List Int) : List Nat := (xs.take 4).map fun x => (x % 1000000).toNat
def footOf : List Nat := [3170, 148, 12, 2177]
def heapsOf (xs : List Int) : List Nat := drawnOf xs ++ footOf.drop (drawnOf xs).length
theorem drawn_facts (xs : List Int) : (drawnOf xs).length ≤ 4 ∧ ∀ x ∈ drawnOf xs, x < 1000000 := by
  unfold drawnOf
  refine ⟨by rw [List.length_map, List.length_take]; omega, fun x hx => ?_⟩
  obtain ⟨y, _, rfl⟩ := List.mem_map.mp hx
  omega
theorem heaps_facts (xs : List Int) : (heapsOf xs).length = 4 ∧ ∀ x ∈ heapsOf xs, x < 1000000 := by
  obtain ⟨h1, h2⟩ := drawn_facts xs
  unfold heapsOf
  refine ⟨by rw [List.length_append, List.length_drop]; show _ + (4 - _) = 4; omega, fun x hx => ?_⟩
  rcases List.mem_append.mp hx with hx | hx
  · exact h2 x hx
  · have : ∀ x ∈ footOf, x < 1000000 := by decide
    exact this x (List.mem_of_mem_drop hx)
theorem sum_cast : ∀ l : List Nat, (l.map fun n : Nat => (n : Int)).sum = ((l.sum : Nat) : Int)
  | [] => rfl
  | a :: l => by rw [List.map_cons, List.sum_cons, List.sum_cons, sum_cast l]; push_cast; rfl
theorem natsD_eq (l : List Nat) : natsD l = .list ((l.map fun n : Nat => (n : Int)).map D.int) := by unfold natsD; rw [List.map_map]; rfl
theorem sp_part_len (c : Nat) : ∀ (l : List Nat), ∀ p ∈ sp c l, p.length ≤ l.length
  | [], p, h => by
    have : p = [] := by simpa [sp] using h
    subst this; exact Nat.le_refl _
  | k :: r, p, h => by
    have ih := sp_part_len c r
    rw [List.length_cons]
    unfold sp at h
    split at h
    · rcases List.mem_cons.mp h with rfl | h
      · exact Nat.zero_le _
      · have := ih p h; omega
    · split at h
      · have : p = [k] := by simpa using h
        subst this; simp
      · rename_i q qs e
        rcases List.mem_cons.mp h with rfl | h
        · have := ih q (by rw [e]; exact .head _); rw [List.length_cons]; omega
        · have := ih p (by rw [e]; exact .tail _ h); omega
theorem sp_head (c : Nat) : ∀ (l : List Nat), (sp c l)[0]? = some ((sp c l).headD [])
  | [] => rfl
  | k :: r => by
    unfold sp
    split
    · rfl
    · split <;> rfl
theorem count_cast (l : List Nat) (k : Nat) : (l.map fun n : Nat => (n : Int)).count (k : Int) = l.count k := by
  induction l with
  | nil => rfl
  | cons a l ih =>
    rw [List.map_cons, List.count_cons, List.count_cons, ih]
    congr 1
    by_cases h : a = k
    · subst h; simp
    · have : ¬ (a : Int) = (k : Int) := fun e => h (by omega)
      simp [h, this]
theorem flat_sing {α β} (l : List α) (f : α → β) : l.flatMap (fun k => [f k]) = l.map f := by
  induction l with
  | nil => rfl
  | cons a l ih => rw [List.flatMap_cons, ih]; rfl
theorem lay5 : ∀ ns : List Int, ns.length = 5 → (∀ x ∈ ns, x.natAbs ≤ 1000) → PyData.layable0 (.list (ns.map .int)) = true
  | [a, b, c, d, e], _, hb => by
    have key : ∀ x ∈ [a, b, c, d, e], (if (x == 0) = true then 0 else x.natAbs.log2 + 1) ≤ 1001 := fun x hx => by
      have := hb x hx
      have := Nat.log2_le_self x.natAbs
      split <;> omega
    have ha := key a (by simp); have hb := key b (by simp); have hc := key c (by simp); have hd := key d (by simp); have he := key e (by simp)
    simp only [PyData.layable0, PyData.canLay0, PyData.depth, PyData.weight, PyData.canLayAll0, PyData.depthAll, PyData.weightAll, List.map_cons, List.map_nil, Bool.and_true, Bool.and_eq_true, decide_eq_true_eq]
    refine ⟨by simp, ?_⟩
    omega
  | [], h, _ => by simp at h
  | [_], h, _ => by simp at h
  | [_, _], h, _ => by simp at h
  | [_, _, _], h, _ => by simp at h
  | [_, _, _, _], h, _ => by simp at h
  | _ :: _ :: _ :: _ :: _ :: _ :: _, h, _ => by simp at h
theorem bit_le {b : Bool} {x : Int} (h : x ≤ 3) : (bif b then (3 + x).toNat else 3) ≤ 6 := by
  cases b
  · show 3 ≤ 6; decide
  · show (3 + x).toNat ≤ 6; omega
theorem lv_le {N} {turn pair lot : Nat} (hN : Names N) (hp : pair < 3) (ht : turn < 2) : lv N turn pair lot ≤ 24 :=
  Nat.add_le_add (Nat.add_le_add (Nat.add_le_add (bit_le (stp_small (j := 0) hN hp ht).2) (bit_le (stp_small (j := 1) hN hp ht).2)) (bit_le (stp_small (j := 2) hN hp ht).2)) (bit_le (stp_small (j := 3) hN hp ht).2)
theorem range3 {α} (f : Nat → α) : (List.range 3).map f = [f 0, f 1, f 2] := rfl
section
variable {w : World} {mg mb : PySem.Str → Option Value} {A : Around} {env : Env} {m : Vars}
local macro_rules
  | `(tactic| walk_at "asg0") => `(tactic| (with_reducible apply ExS.assign (hx := .inl (by with_unfolding_all rfl)) (hk := by with_unfolding_all rfl) (hs := by with_unfolding_all rfl); walk_at "ev"))
  | `(tactic| walk_at "gasg") => `(tactic| (with_reducible apply GX.consL; walk_at "asg0"))
def rowA (N : Nat → List Nat) (turn lot : Nat) : D := .list ((List.range 3).map fun pair => D.bool (decide (12 < lv N turn pair lot)))
def rowF (N : Nat → List Nat) (turn lot : Nat) : D := .list ((List.range 3).map fun pair => D.int ((lv N turn pair lot : Int) - 12))
def lawVars (nms : List D) (turn tot : Nat) (aa af : Addr) : Vars := [("front", .val (.ref af)), ("ahead", .val (.ref aa)), ("names", .list nms), ("turn", .int turn), ("total", .int tot)]
theorem lawHolds : PySem.Challenge.rw_tl0026_01.Holds := by
  apply law_top
  case df => walk_at "def"
  case hbind => intro doc pm an cdv ct u; rfl
  case hb =>
    intro w mg mb A' L cdv xs hxs hA'
    have hH := hA'.handled
    have hd := drawn_facts xs
    have hh := heaps_facts xs
    with_reducible apply GX.consL
    · apply ExS.assignComp1 (src := .list ((xs.take 4).map D.int)) (l := xs.take 4) (f := D.int) (g := fun x => .int ((x % 1000000).toNat : Nat)) (m₀ := [])
      case hA => exact hH
      case hclos => walk_at "rf"
      case hm₀ => exact Sees.nil
      case hit => exact Ev.eq (Ev.sliceTo (k := 4) (by walk_at "name") Ev.int (by rw [List.length_map]; apply le_size; omega)) (by rw [List.map_take])
      case hI => exact Iter.list hH
      case hsz => rw [List.length_take]; apply le_size; omega
      case h =>
        intro C x hx
        refine Ev.eq (Ev.binop (by walk_at "name") (Ev.binop Ev.int Ev.int (Op2.ipow (a := 10) (n := 6) (by decide) (by decide) (by decide))) (Op2.imod (by decide))) ?_
        congr 1
        rw [show (10 : Int) ^ (6 : Int).toNat = 1000000 from by decide, Int.fmod_eq_emod_of_nonneg x (by decide)]
        omega
      all_goals first | walk_at "rf" | decide | (intro _; walk_at "rf")
    with_reducible apply GX.consL
    · apply ExS.assign (d := natsD (heapsOf xs)) (hx := .inl (by walk_at "rf")) (hk := by walk_at "rf") (hs := by walk_at "rf")
      refine Ev.eq (Ev.binop (by walk_at "name") (Ev.sliceFrom (k := (drawnOf xs).length) (l := footOf.map fun n : Nat => D.int (n : Int)) (Ev.list (EvL.cons Ev.int (EvL.cons Ev.int (EvL.cons Ev.int (EvL.cons Ev.int EvL.nil (by walk_at "rf")) (by walk_at "rf")) (by walk_at "rf")) (by walk_at "rf")) (le_size (Nat.le_of_ble_eq_true rfl))) (Ev.eq (Ev.callB gl_len (by walk_at "eok") (by walk_at "rf") (EvL.cons (by walk_at "name") EvL.nil (by walk_at "rf")) (OpL.lenList (by rw [List.length_map, List.length_take]; omega)) (by walk_at "rf") (by walk_at "rf") (by decide)) ?_) ?_ (le_size (Nat.le_of_ble_eq_true rfl))) (Op2.listAdd ?_)) ?_
      · unfold drawnOf; rw [List.length_map, List.length_map]
      · rw [List.length_map]; exact hd.1
      · rw [List.length_map, List.length_take, List.length_drop, List.length_map]; apply le_size; show _ + (4 - _) ≤ _; omega
      · unfold natsD heapsOf drawnOf; rw [List.map_append, List.map_map, List.map_drop]; rfl
    have hsum : ∀ x ∈ (heapsOf xs).map (fun n : Nat => (n : Int)), 0 ≤ x ∧ x < 2 ^ 40 := fun x hx => by
      obtain ⟨y, hy, rfl⟩ := List.mem_map.mp hx
      have := hh.2 y hy; omega
    obtain ⟨hhl, hhx⟩ := hh
    generalize hhs : heapsOf xs = hs at *
    with_reducible apply GX.consL
    · apply ExS.assign (d := .int (hs.sum : Nat)) (hx := .inl (by walk_at "rf")) (hk := by walk_at "rf") (hs := by walk_at "rf")
      refine Ev.eq (Ev.callB gl_sum (by walk_at "eok") (by walk_at "rf") (EvL.cons (Ev.eq (by walk_at "name") (natsD_eq hs)) EvL.nil (by walk_at "rf")) (OpL.sum hH hsum (by rw [List.length_map, hhl]; decide)) (by walk_at "rf") (by walk_at "rf") (by decide)) ?_
      rw [sum_cast]
    generalize hs.sum = tot at *
    with_reducible apply GX.consL
    · apply ExS.assign (d := .int (tot / 7 % 2 : Nat)) (hx := .inr ⟨by walk_at "rf", by walk_at "rf"⟩) (hk := by walk_at "rf") (hs := by walk_at "rf")
      exact Ev.binop (Ev.binop (by walk_at "name") Ev.int (Op2.idivN 7 rfl (by decide) (by decide))) Ev.int (Op2.imodN 2 rfl (by decide))
    with_reducible apply GX.consL
    · apply ExS.assign (d := .int (tot / 14 % 3 : Nat)) (hx := .inr ⟨by walk_at "rf", by walk_at "rf"⟩) (hk := by walk_at "rf") (hs := by walk_at "rf")
      exact Ev.binop (Ev.binop (by walk_at "name") Ev.int (Op2.idivN 14 rfl (by decide) (by decide))) Ev.int (Op2.imodN 3 rfl (by decide))
    have hturn : tot / 7 % 2 < 2 := Nat.mod_lt _ (by decide)
    have hhand : tot / 14 % 3 < 3 := Nat.mod_lt _ (by decide)
    have hbeh : tot / 42 % 3 ≤ 2 := by omega
    generalize hbd : tot / 42 % 3 = beh at *
    generalize tot / 7 % 2 = turn at *
    generalize tot / 14 % 3 = hand at *
    with_reducible apply GX.consL
    · apply ExS.assignComp1 (src := natsD hs) (l := hs) (f := fun x : Nat => .int (x : Int)) (g := fun x => .str (ofL (textOf hand x))) (m₀ := [("hand", .int hand)])
      case hA => exact hH
      case hclos => walk_at "rf"
      case hm₀ => exact Sees.cons (by walk_at "rf") (by walk_at "cf") (by walk_at "nl") (by walk_at "rf") Sees.nil
      case hit => walk_at "name"
      case hI => exact Iter.list hH
      case hsz => rw [hhl]; apply le_size; decide
      case h =>
        intro C x hx
        exact Ev.callG gl_text isd_146 (by walk_at "eok") (by walk_at "rf") (EvL.cons (by walk_at "name") (EvL.cons (by walk_at "name") EvL.nil (by walk_at "rf")) (by walk_at "rf")) (text_contract hhand (by have := hhx x hx; omega) (hA'.of_le (by decide))) (by walk_at "rf") (by decide)
      all_goals first | walk_at "rf" | decide | (intro _; walk_at "rf")
    have htl : ∀ x, (textOf hand x).length ≤ 3 := fun x => by unfold textOf picksOf; rw [List.length_map, List.length_map, List.length_range]; omega
    with_reducible apply GX.consL
    · apply ExS.assignComp1 (src := .list (hs.map fun x => .str (ofL (textOf hand x)))) (l := hs) (f := fun x : Nat => .str (ofL (textOf hand x))) (g := fun x => .str (ofL (pageOf hand x))) (m₀ := [("hand", .int hand)])
      case hA => exact hH
      case hclos => walk_at "rf"
      case hm₀ => exact Sees.cons (by walk_at "rf") (by walk_at "cf") (by walk_at "nl") (by walk_at "rf") Sees.nil
      case hit => walk_at "name"
      case hI => exact Iter.list hH
      case hsz => rw [hhl]; apply le_size; decide
      case h =>
        intro C x hx
        exact Ev.callG gl_written isd_136 (by walk_at "eok") (by walk_at "rf") (EvL.cons (by walk_at "name") (EvL.cons (by walk_at "name") EvL.nil (by walk_at "rf")) (by walk_at "rf")) (written_contract hhand (by have := htl x; omega) (hA'.of_le (by decide))) (by walk_at "rf") (by decide)
      all_goals first | walk_at "rf" | decide | (intro _; walk_at "rf")
    have hflat : ((hs.map (textOf hand)).flatten).length ≤ 12 := by
      have : ∀ l : List Nat, ((l.map (textOf hand)).flatten).length ≤ 3 * l.length := by
        intro l; induction l with
        | nil => exact Nat.le_refl _
        | cons a l ih => rw [List.map_cons, List.flatten_cons, List.length_append, List.length_cons]; have := htl a; omega
      have := this hs; omega
    have hpages : (hs.map (pageOf hand)).flatten = ((hs.map (textOf hand)).flatten).flatMap (esc (Eh hand)) := by
      clear hhs hhl hhx hsum hflat
      induction hs with
      | nil => rfl
      | cons a l ih => rw [List.map_cons, List.map_cons, List.flatten_cons, List.flatten_cons, List.flatMap_append, ih]; rfl
    have hfl2 : ((hs.map (textOf hand)).flatten.flatMap (esc (Eh hand))).length ≤ 2 ^ 20 := by
      have := esc_length (Eh hand) (Eh_le hand) ((hs.map (textOf hand)).flatten)
      omega
    with_reducible apply GX.consL
    · apply ExS.assign (d := .str (ofL ((hs.map (textOf hand)).flatten.flatMap (esc (Eh hand))))) (hx := .inl (by walk_at "rf")) (hk := by walk_at "rf") (hs := by walk_at "rf")
      refine Ev.callG gl_spelled isd_141 (by walk_at "eok") (by walk_at "rf") (EvL.cons (by walk_at "name") (EvL.cons (Ev.joinE (ls := hs.map (textOf hand)) rfl (Ev.eq (by walk_at "name") (by rw [List.map_map]; rfl)) (by omega) (by walk_at "rf") (by walk_at "rf") (by walk_at "rf")) EvL.nil (by walk_at "rf")) (by walk_at "rf")) (spelled_contract hhand (by omega) (hA'.of_le (by decide))) (by walk_at "rf") (by decide)
    with_reducible apply GX.consL
    · apply ExS.ifF
      case ht =>
        refine EvT.eq (EvT.boolop (AllT.or_cons (EvT.eq (c := false) (EvT.cmp1 (Ev.joinE (ls := hs.map (pageOf hand)) rfl (Ev.eq (by walk_at "name") (by rw [List.map_map]; rfl)) (by rw [hpages]; exact hfl2) (by walk_at "rf") (by walk_at "rf") (by walk_at "rf")) (by walk_at "name") Op2.sne (by walk_at "rf")) ?_) fun _ => AllT.or_cons (EvT.eq (c := false) (EvT.cmp1 (Ev.callG gl_written isd_136 (by walk_at "eok") (by walk_at "rf") (EvL.cons (by walk_at "name") (EvL.cons (Ev.joinE (ls := hs.map (textOf hand)) rfl (Ev.eq (by walk_at "name") (by rw [List.map_map]; rfl)) (by omega) (by walk_at "rf") (by walk_at "rf") (by walk_at "rf")) EvL.nil (by walk_at "rf")) (by walk_at "rf")) (written_contract hhand (by omega) (hA'.of_le (by decide))) (by walk_at "rf") (by decide)) (by walk_at "name") Op2.sne (by walk_at "rf")) ?_) fun _ => AllT.or_nil)) rfl
        · rw [hpages]; simp
        · simp
      case h => exact Ex.nil
    with_reducible apply GX.consL
    · apply ExS.assign (d := .list (hs.map fun x => natsD (namesOf (pageOf hand x)))) (hx := .inr ⟨by walk_at "rf", by walk_at "rf"⟩) (hk := by walk_at "rf") (hs := by walk_at "rf")
      apply Ev.comp1 (src := .list (hs.map fun x => .str (ofL (pageOf hand x)))) (l := hs) (f := fun x : Nat => .str (ofL (pageOf hand x))) (g := fun x => natsD (namesOf (pageOf hand x))) (m₀ := [])
      case hA => exact hH
      case hclos => walk_at "rf"
      case hm₀ => exact Sees.nil
      case hit => walk_at "name"
      case hI => exact Iter.list hH
      case hsz => rw [hhl]; apply le_size; decide
      case h =>
        intro C x hx
        obtain ⟨n1, n2, n3⟩ := page_names (x := x) hhand
        generalize pageOf hand x = pg at *
        unfold natsD namesOf
        rw [List.map_map]
        apply Ev.comp1 (src := .list ((namePieces pg).map fun p => .str (ofL p))) (l := namePieces pg) (f := fun p => .str (ofL p)) (g := fun p => .int (nameLen p - 2 : Nat)) (m₀ := [])
        case hA => exact hH
        case hclos => walk_at "rf"
        case hm₀ => exact Sees.nil
        case hit =>
          refine Ev.eq (Ev.sliceFrom (k := 1) (l := (sp 38 pg).map fun p => .str (ofL p)) (Ev.eq (Ev.meth1 F.plainAttrs_str F.slot_str_split F.type_str_split (by walk_at "name") Ty.str Ev.str (OpL.split (x := ofL pg) (y := ofL [38]) (by decide) (by rw [ofL_length]; apply le_size; omega) (parts_le pg 38 (by omega))) (by walk_at "rf") (by walk_at "rf") (by walk_at "rf")) ?_) Ev.int ?_ ?_) ?_
          · rw [split_eq, List.map_map]; rfl
          · rw [List.length_map]; exact (List.getElem?_eq_some_iff.mp (sp_head 38 pg)).1
          · rw [List.length_map]; apply le_size; unfold namePieces at n2; rw [List.length_tail] at n2; omega
          · rw [← List.map_drop, List.drop_one]; rfl
        case hI => exact Iter.list hH
        case hsz => apply le_size; omega
        case h =>
          intro C2 p hp
          have hn := n1 p hp
          have hpl : p.length ≤ 18 := Nat.le_trans (sp_part_len 38 pg p (List.mem_of_mem_tail hp)) n3
          have hhl : (sp 59 p).headD [] ∈ sp 59 p := List.mem_of_getElem? (sp_head 59 p)
          have hll := sp_part_len 59 p _ hhl
          refine Ev.eq (Ev.binop (Ev.callB gl_len (by walk_at "eok") (by walk_at "rf") (EvL.cons (Ev.sub (k := 0) (l := (sp 59 p).map fun p => .str (ofL p)) (d := .str (ofL ((sp 59 p).headD []))) (Ev.eq (Ev.meth1 F.plainAttrs_str F.slot_str_split F.type_str_split (by walk_at "name") Ty.str Ev.str (OpL.split (x := ofL p) (y := ofL [59]) (by decide) (by rw [ofL_length]; apply le_size; omega) (parts_le p 59 (by omega))) (by walk_at "rf") (by walk_at "rf") (by walk_at "rf")) ?_) Ev.int (by decide) ?_ (by intro _ _; walk_at "rf") (by decide)) EvL.nil (by walk_at "rf")) (OpL.lenStr (x := ofL ((sp 59 p).headD [])) (by rw [ofL_length]; omega)) (by walk_at "rf") (by walk_at "rf") (by decide)) Ev.int Op2.isub) ?_
          · rw [split_eq, List.map_map]; rfl
          · show ((sp 59 p).map _)[0]? = _
            rw [List.getElem?_map, sp_head]; rfl
          · rw [ofL_length]; congr 1; unfold nameLen at hn ⊢; omega
        all_goals first | walk_at "rf" | decide | (intro _; walk_at "rf")
      all_goals first | walk_at "rf" | decide | (intro _; walk_at "rf")
    have hgN : ∀ j, j < 4 → hs[j]? = some (hs.getD j 0) := fun j hj => by
      rw [List.getD_eq_getElem?_getD, List.getElem?_eq_getElem (by omega)]; rfl
    have hN : Names fun j => namesOf (pageOf hand (hs.getD j 0)) := fun j => names_le hhand
    generalize hNd : (fun j => namesOf (pageOf hand (hs.getD j 0))) = N at *
    have hNj : ∀ j, j < 4 → (hs.map fun x => natsD (namesOf (pageOf hand x)))[j]? = some (natsD (N j)) := fun j hj => by
      rw [List.getElem?_map, hgN j hj, ← hNd]; rfl
    have hnl : (hs.map fun x => natsD (namesOf (pageOf hand x))).length = 4 := by rw [List.length_map]; exact hhl
    generalize (hs.map fun x => natsD (namesOf (pageOf hand x))) = nms at *
    with_reducible refine GX.newListN (l := [rowA N turn 0]) (EvF.list (EvL.cons ?_ EvL.nil (by walk_at "rf")) (Nat.le_of_ble_eq_true rfl)) (.inr ⟨by walk_at "rf", by walk_at "rf"⟩) (by walk_at "rf") (by walk_at "rf") fun aa => ?_
    · exact Ev.list (EvL.cons Ev.bool (EvL.cons Ev.bool (EvL.cons Ev.bool EvL.nil (by walk_at "rf")) (by walk_at "rf")) (by walk_at "rf")) (le_size (Nat.le_of_ble_eq_true rfl))
    with_reducible refine GX.newListN (l := [rowF N turn 0]) (EvF.list (EvL.cons ?_ EvL.nil (by walk_at "rf")) (Nat.le_of_ble_eq_true rfl)) (.inr ⟨by walk_at "rf", by walk_at "rf"⟩) (by walk_at "rf") (by walk_at "rf") fun af => ?_
    · exact Ev.list (EvL.cons Ev.int (EvL.cons Ev.int (EvL.cons Ev.int EvL.nil (by walk_at "rf")) (by walk_at "rf")) (by walk_at "rf")) (le_size (Nat.le_of_ble_eq_true rfl))
    apply GX.cons
    · apply GS.for (x := "lot") (vm := []) (src := .range 1 16) (ds := (List.range 15).map fun i : Nat => D.int (1 + i)) (k := 15) (o := .next _)
        (P := fun i m os => (∀ x d, (lawVars nms turn tot aa af).lookup x = some d → m.lookup x = some d) ∧ os = [.lst af ((List.range (i + 1)).map (rowF N turn)), .lst aa ((List.range (i + 1)).map (rowA N turn))])
      case hA => exact hH
      case v => exact Vw.nil
      case hit => exact Ev.callT gl_range (by walk_at "eok") (by walk_at "rf") (EvL.cons Ev.int (EvL.cons Ev.int EvL.nil (by walk_at "rf")) (by walk_at "rf")) OpL.range2 (by walk_at "rf") (by walk_at "rf") (by decide)
      case hI => exact IterW.range hH (by decide) (small_range (by decide) (by decide) (by decide) (by decide))
      case hsc => intro d hd; obtain ⟨x, _, rfl⟩ := List.mem_map.mp hd; exact Scal.int
      case hx => exact .inr ⟨by walk_at "rf", by walk_at "rf"⟩
      case hkd => walk_at "rf"
      case hm => exact ⟨LSub.cons (by walk_at "rf") (LSub.cons (by walk_at "rf") (LSub.cons (by walk_at "rf") (LSub.cons (by walk_at "rf") (LSub.cons (by walk_at "rf") LSub.nil)))), rfl⟩
      case hk => decide
      case hs => intro _; walk_at "rf"
      case hend => exact .inl ⟨by rfl, rfl⟩
      case hbody =>
        rintro i d m os hi hd ⟨hm', rfl⟩
        have hd' : d = .int ((i + 1 : Nat) : Int) := by
          rw [List.getElem?_map, List.getElem?_range hi] at hd
          cases hd
          show D.int (1 + (i : Int)) = D.int ((i + 1 : Nat) : Int)
          congr 1; omega
        subst hd'
        have hlot : i + 1 < 16 := by omega
        rw [List.range_succ (n := i + 1), List.map_append, List.map_append]
        generalize i + 1 = lot at *
        refine GX.weaken (m' := ("lot", .int lot) :: lawVars nms turn tot aa af) ?_ (LSub.cons lookup_cons_eq (LSub.skip hm' (by show ("lot" : PySem.Str) ∉ (["front", "ahead", "names", "turn", "total"] : List PySem.Str); decide)))
        have hrl : ∀ f : Nat → D, ((List.range lot).map f).length ≤ 64 := fun f => by rw [List.length_map, List.length_range]; omega
        generalize hLA : (List.range lot).map (rowA N turn) = LA
        generalize hLF : (List.range lot).map (rowF N turn) = LF
        have hla : LA.length ≤ 64 := by rw [← hLA]; exact hrl _
        have hlf : LF.length ≤ 64 := by rw [← hLF]; exact hrl _
        clear hLA hLF hm' hd m
        have hK2 := kindsLot_le (lot := lot) hN
        have hKl := (kindsLot_len (lot := lot) hN hlot).1
        unfold lawVars
        with_reducible apply GX.consL
        · apply ExS.assign (d := natsD (kindsLot N lot)) (hx := .inr ⟨by walk_at "rf", by walk_at "rf"⟩) (hk := by walk_at "rf") (hs := by walk_at "rf")
          apply Ev.comp2 (src := .range 0 4) (l := List.range 4) (f := fun j : Nat => .int (0 + j)) (p := fun j => lot / 2 ^ j % 2 == 1) (src2 := fun j => natsD (N j)) (l2 := fun j => N j) (f2 := fun _ (k : Nat) => .int (k : Int)) (p2 := fun _ _ => true)
            (g := fun _ (k : Nat) => .int (k : Int)) (gs := (kindsLot N lot).map fun k : Nat => D.int (k : Int)) (m₀ := [("lot", .int lot), ("names", .list nms)])
          case hgs =>
            unfold kindsLot
            rw [List.map_flatMap]
            congr 1; funext j
            cases (lot / 2 ^ j % 2 == 1)
            · rfl
            · rw [cond_true, cond_true]; exact flat_sing (N j) _
          case hA => exact hH
          case hclos => walk_at "rf"
          case hm₀ => exact Sees.cons (by walk_at "rf") (by walk_at "cf") (by walk_at "nl") (by walk_at "rf") (Sees.cons (by walk_at "rf") (by walk_at "cf") (by walk_at "nl") (by walk_at "rf") Sees.nil)
          case hit => exact Ev.callT gl_range (by walk_at "eok") (by walk_at "rf") (EvL.cons Ev.int EvL.nil (by walk_at "rf")) OpL.range1 (by walk_at "rf") (by walk_at "rf") (by decide)
          case hI => exact Iter.range hH (by decide) (small_range (by decide) (by decide) (by decide) (by decide))
          case hsz => rw [List.length_map]; apply le_size; omega
          case h1 =>
            intro C j hj
            have hj4 := List.mem_range.mp hj
            have hp : (2 ^ j).log2 < 9000 ∧ 2 ^ j ≠ 0 := by
              rcases (by omega : j = 0 ∨ j = 1 ∨ j = 2 ∨ j = 3) with rfl | rfl | rfl | rfl <;> decide
            refine .inr ⟨_, rfl, EvT.eq (EvT.cmp1 (Ev.binop (Ev.binop (by walk_at "name") (Ev.binop Ev.int (Ev.eq (c := .int (j : Int)) (by walk_at "name") (by congr 1; omega)) (Op2.ipowN (a := 2) j (by omega) (by omega) (by decide))) (Op2.idivN (2 ^ j) rfl hp.2 hp.1)) Ev.int (Op2.imodN 2 rfl (by decide))) Ev.int Op2.ieq (by walk_at "rf")) ?_⟩
            rw [Bool.eq_iff_iff, beq_iff_eq, beq_iff_eq]; omega
          case h2 =>
            intro C j hj _
            have hj4 := List.mem_range.mp hj
            exact ⟨Ev.sub (k := (j : Int)) (d := natsD (N j)) (by walk_at "name") (Ev.eq (c := .int (j : Int)) (by walk_at "name") (by congr 1; omega)) (by omega) (by rw [Int.toNat_natCast]; exact hNj j hj4) (by intro _ _; walk_at "rf") (by omega), Iter.list hH⟩
          case h3 => intro C j hj _ k hk; exact .inl ⟨rfl, rfl⟩
          case h4 => intro C j hj _ k hk _; walk_at "name"
          all_goals first | walk_at "rf" | decide | (intro _; walk_at "rf") | (intro _ _; walk_at "rf")
        generalize hKd : kindsLot N lot = K at *
        with_reducible apply GX.consL
        · apply ExS.assignComp1 (src := .range 0 3) (l := List.range 3) (f := fun j : Nat => .int (0 + j)) (g := fun j => .int (K.count j : Nat)) (m₀ := [("kinds", natsD K)])
          case hA => exact hH
          case hclos => walk_at "rf"
          case hm₀ => exact Sees.cons (by walk_at "rf") (by walk_at "cf") (by walk_at "nl") (by walk_at "rf") Sees.nil
          case hit => exact Ev.callT gl_range (by walk_at "eok") (by walk_at "rf") (EvL.cons Ev.int EvL.nil (by walk_at "rf")) OpL.range1 (by walk_at "rf") (by walk_at "rf") (by decide)
          case hI => exact Iter.range hH (by decide) (small_range (by decide) (by decide) (by decide) (by decide))
          case hsz => exact le_size (Nat.le_of_ble_eq_true rfl)
          case h =>
            intro C j hj
            refine Ev.eq (Ev.meth1 F.plainAttrs_list F.slot_list_count F.type_list_count (Ev.eq (by walk_at "name") (natsD_eq K)) Ty.list (Ev.eq (c := .int (j : Int)) (by walk_at "name") (by congr 1; omega)) OpL.countInts (by walk_at "rf") (by walk_at "rf") (by walk_at "rf")) ?_
            rw [count_cast]
          all_goals first | walk_at "rf" | decide | (intro _; walk_at "rf")
        rw [range3]
        generalize hca : K.count 0 = ca at *
        generalize hcb : K.count 1 = cb at *
        generalize hcc : K.count 2 = cc at *
        have hcK := count_all K hK2
        rw [hca, hcb, hcc] at hcK
        have hM1 : max (ca : Int) (max cb cc) ∈ [(ca : Int), (cb : Int), (cc : Int)] := by simp only [List.mem_cons, List.not_mem_nil, or_false]; omega
        have hM2 : ∀ x ∈ [(ca : Int), (cb : Int), (cc : Int)], x ≤ max (ca : Int) (max cb cc) := by simp only [List.mem_cons, List.not_mem_nil, or_false]; rintro x (rfl | rfl | rfl) <;> omega
        have hm1 : min (ca : Int) (min cb cc) ∈ [(ca : Int), (cb : Int), (cc : Int)] := by simp only [List.mem_cons, List.not_mem_nil, or_false]; omega
        have hm2 : ∀ x ∈ [(ca : Int), (cb : Int), (cc : Int)], min (ca : Int) (min cb cc) ≤ x := by simp only [List.mem_cons, List.not_mem_nil, or_false]; rintro x (rfl | rfl | rfl) <;> omega
        obtain ⟨p, hok, hpl, hah⟩ := lot_place (N := N) (turn := turn) (lot := lot) hN hturn hlot
        have hfr := fun (pair : Nat) (hp : pair < 3) => front_lot (N := N) (turn := turn) (pair := pair) (lot := lot) hN hp hturn
        rw [hKd, hca, hcb, hcc] at hok hpl hfr
        simp only [hKd, hca, hcb, hcc] at hah
        with_reducible apply GX.consL
        · apply ExS.assign (d := .int (max (ca : Int) (max cb cc) - min (ca : Int) (min cb cc))) (hx := .inr ⟨by walk_at "rf", by walk_at "rf"⟩) (hk := by walk_at "rf") (hs := by walk_at "rf")
          exact Ev.binop (Ev.bcallB gl_max (by walk_at "eok") (by walk_at "rf") (by walk_at "name") (OpL.maxList (ns := [(ca : Int), (cb : Int), (cc : Int)]) hH hM1 hM2) (by walk_at "rf") (by decide)) (Ev.bcallB gl_min (by walk_at "eok") (by walk_at "rf") (by walk_at "name") (OpL.minList (ns := [(ca : Int), (cb : Int), (cc : Int)]) hH hm1 hm2) (by walk_at "rf") (by decide)) Op2.isub
        with_reducible apply GX.consL
        · apply ExS.assign (d := .int (lot % 3 / 2 : Nat)) (hx := .inr ⟨by walk_at "rf", by walk_at "rf"⟩) (hk := by walk_at "rf") (hs := by walk_at "rf")
          exact Ev.binop (Ev.binop (by walk_at "name") Ev.int (Op2.imodN 3 rfl (by decide))) Ev.int (Op2.idivN 2 rfl (by decide) (by decide))
        have hfc : ∀ k : Nat, k ≤ 12 → 0 ≤ fcnt lot k ∧ fcnt lot k ≤ 16 := fun k hk => by unfold fcnt; split <;> omega
        with_reducible apply GX.consL
        · apply ExS.assign (d := .int p) (hx := .inr ⟨by walk_at "rf", by walk_at "rf"⟩) (hk := by walk_at "rf") (hs := by walk_at "rf")
          refine Ev.callG gl_place isd_151 (by walk_at "eok") (by walk_at "rf") (EvL.cons ?_ (EvL.cons (Ev.eq (c := .bool (decide (lot % 3 > 0))) (Ev.cmp1 (Ev.binop (by walk_at "name") Ev.int (Op2.imodN 3 rfl (by decide))) Ev.int Op2.igt (by walk_at "rf")) ?_) EvL.nil (by walk_at "rf")) (by walk_at "rf")) (place_contract (hfc ca (by omega)) (hfc cb (by omega)) (hfc cc (by omega)) hok hpl (hA'.of_le (by decide))) (by walk_at "rf") (by decide)
          · apply Ev.comp1 (src := natsD [ca, cb, cc]) (l := [ca, cb, cc]) (f := fun k : Nat => .int (k : Int)) (g := fun k : Nat => .int (fcnt lot k)) (m₀ := [("negative", .int (lot % 3 / 2 : Nat))])
            case hA => exact hH
            case hclos => walk_at "rf"
            case hm₀ => exact Sees.cons (by walk_at "rf") (by walk_at "cf") (by walk_at "nl") (by walk_at "rf") Sees.nil
            case hit => walk_at "name"
            case hI => exact Iter.list hH
            case hsz => exact le_size (Nat.le_of_ble_eq_true rfl)
            case h =>
              intro C k hk
              refine Ev.ifexp (EvT.int (by walk_at "name") (by intro _; walk_at "rf")) (fun e => ?_) (fun e => ?_)
              · have e' : ((lot % 3 / 2 : Nat) : Int) ≠ 0 := by simpa using e
                refine Ev.eq (Ev.binop Ev.int (by walk_at "name") Op2.isub) ?_
                unfold fcnt; rw [if_pos (by omega)]
              · have e' : ((lot % 3 / 2 : Nat) : Int) = 0 := by simpa using e
                refine Ev.eq (c := .int (fcnt lot k)) (by walk_at "name") ?_
                unfold fcnt; rw [if_neg (by omega)]
            all_goals first | walk_at "rf" | decide | (intro _; walk_at "rf")
          · congr 1; exact decide_eq_decide.mpr (by omega)
        with_reducible apply GX.consL
        · apply ExS.ifF
          case ht => exact EvT.cmp1 (by walk_at "name") Ev.cnone Op2.isNone (by walk_at "rf")
          case h => exact Ex.nil
        generalize hWd : max (ca : Int) (max cb cc) - min (ca : Int) (min cb cc) = W at *
        generalize hngd : lot % 3 / 2 = neg at *
        have hneg : neg ≤ 1 := by omega
        with_reducible refine GX.append1 (d := rowA N turn lot) ?_ (by walk_at "name") hla (by walk_at "rf") (by walk_at "rf") (by walk_at "rf") (by walk_at "rf") (by walk_at "rf") ?_
        · unfold rowA
          apply Ev.comp1 (src := .range 0 3) (l := List.range 3) (f := fun j : Nat => .int (0 + j)) (g := fun pair => .bool (decide (12 < lv N turn pair lot))) (m₀ := [("wide", .int W), ("place", .int p), ("turn", .int turn), ("negative", .int neg)])
          case hA => exact hH
          case hclos => walk_at "rf"
          case hm₀ => exact Sees.cons (by walk_at "rf") (by walk_at "cf") (by walk_at "nl") (by walk_at "rf") (Sees.cons (by walk_at "rf") (by walk_at "cf") (by walk_at "nl") (by walk_at "rf") (Sees.cons (by walk_at "rf") (by walk_at "cf") (by walk_at "nl") (by walk_at "rf") (Sees.cons (by walk_at "rf") (by walk_at "cf") (by walk_at "nl") (by walk_at "rf") Sees.nil)))
          case hit => exact Ev.callT gl_range (by walk_at "eok") (by walk_at "rf") (EvL.cons Ev.int EvL.nil (by walk_at "rf")) OpL.range1 (by walk_at "rf") (by walk_at "rf") (by decide)
          case hI => exact Iter.range hH (by decide) (small_range (by decide) (by decide) (by decide) (by decide))
          case hsz => exact le_size (Nat.le_of_ble_eq_true rfl)
          case h =>
            intro C pair hpr
            have hp3 := List.mem_range.mp hpr
            have ha := hah pair hp3
            unfold aheadOf at ha
            refine Ev.and2 (b := decide (0 < W)) (Ev.cmp1 (by walk_at "name") Ev.int Op2.igt (by walk_at "rf")) (fun e => ?_) (fun e => ?_)
            · have hW := of_decide_eq_true e
              refine Ev.eq (Ev.chain2 Ev.int (b := .int ((p - (4 + 2 * (pair : Int) + 3 * turn + 3 * neg) * W).fmod (6 * W))) (Ev.binop (Ev.binop (by walk_at "name") (Ev.binop (Ev.binop (Ev.binop (Ev.binop Ev.int (Ev.binop Ev.int (Ev.eq (c := .int (pair : Int)) (by walk_at "name") (by congr 1; omega)) (Op2.imulS (by decide))) Op2.iadd) (Ev.binop Ev.int (by walk_at "name") (Op2.imulS (by decide))) Op2.iadd) (Ev.binop Ev.int (by walk_at "name") (Op2.imulS (by decide))) Op2.iadd) (by walk_at "name") (Op2.imulS (by omega))) Op2.isub) (Ev.binop Ev.int (by walk_at "name") (Op2.imulS (by decide))) (Op2.imod (by omega))) Op2.ilt
                (fun _ => Ev.binop Ev.int (by walk_at "name") (Op2.imulS (by decide))) (fun _ => Op2.ilt) (by walk_at "rf")) ?_
              rw [← ha, decide_eq_true hW]; rfl
            · have hW := of_decide_eq_false e
              rw [← ha, decide_eq_false hW]; rfl
          all_goals first | walk_at "rf" | decide | (intro _; walk_at "rf")
        with_reducible apply GX.consL
        · apply ExS.assign (d := .list [.int ca, .int cb, .int cc]) (hx := .inr ⟨by walk_at "rf", by walk_at "rf"⟩) (hk := by walk_at "rf") (hs := by walk_at "rf")
          refine Ev.callG gl_lights isd_156 (by walk_at "eok") (by walk_at "rf") (EvL.cons (by walk_at "name") (EvL.cons (Ev.eq (c := .int beh) (Ev.binop (Ev.binop (by walk_at "name") Ev.int (Op2.idivN 42 rfl (by decide) (by decide))) Ev.int (Op2.imodN 3 rfl (by decide))) (by rw [hbd])) EvL.nil (by walk_at "rf")) (by walk_at "rf")) (OpL.eq (lights_contract (kinds := K) (behind := beh) hK2 hKl hbeh (hA'.of_le (by decide))) (by rw [hca, hcb, hcc])) (by walk_at "rf") (by decide)
        with_reducible apply GX.consL
        · apply ExS.ifF
          case ht =>
            refine EvT.eq (EvT.cmp1 (Ev.callB gl_sum (by walk_at "eok") (by walk_at "rf") (EvL.cons (by walk_at "name") EvL.nil (by walk_at "rf")) (OpL.sum (ns := [(ca : Int), (cb : Int), (cc : Int)]) hH ?_ (by show 3 ≤ 2 ^ 20; decide)) (by walk_at "rf") (by walk_at "rf") (by decide)) (Ev.callB gl_len (by walk_at "eok") (by walk_at "rf") (EvL.cons (by walk_at "name") EvL.nil (by walk_at "rf")) (OpL.lenList (by rw [List.length_map]; omega)) (by walk_at "rf") (by walk_at "rf") (by decide)) Op2.ine (by walk_at "rf")) ?_
            · simp only [List.mem_cons, List.not_mem_nil, or_false]; rintro x (rfl | rfl | rfl) <;> omega
            · rw [List.length_map]
              simp only [List.sum_cons, List.sum_nil]
              rw [hcK]; simp; omega
          case h => exact Ex.nil
        have hpk : ∀ j, j < 3 → ([.int ca, .int cb, .int cc] : List D)[j]? = some (.int (pick3 ca cb cc j)) := fun j hj => by
          rcases (by omega : j = 0 ∨ j = 1 ∨ j = 2) with rfl | rfl | rfl <;> rfl
        with_reducible refine GX.append0 (d := rowF N turn lot) ?_ (by walk_at "name") hlf (by walk_at "rf") (by walk_at "rf") (by walk_at "rf") (by walk_at "rf") (by walk_at "rf") ?_
        · unfold rowF
          apply Ev.comp1 (src := .range 0 3) (l := List.range 3) (f := fun j : Nat => .int (0 + j)) (g := fun pair => .int ((lv N turn pair lot : Int) - 12)) (m₀ := [("lights", .list [.int ca, .int cb, .int cc]), ("turn", .int turn)])
          case hA => exact hH
          case hclos => walk_at "rf"
          case hm₀ => exact Sees.cons (by walk_at "rf") (by walk_at "cf") (by walk_at "nl") (by walk_at "rf") (Sees.cons (by walk_at "rf") (by walk_at "cf") (by walk_at "nl") (by walk_at "rf") Sees.nil)
          case hit => exact Ev.callT gl_range (by walk_at "eok") (by walk_at "rf") (EvL.cons Ev.int EvL.nil (by walk_at "rf")) OpL.range1 (by walk_at "rf") (by walk_at "rf") (by decide)
          case hI => exact Iter.range hH (by decide) (small_range (by decide) (by decide) (by decide) (by decide))
          case hsz => exact le_size (Nat.le_of_ble_eq_true rfl)
          case h =>
            intro C pair hpr
            have hp3 := List.mem_range.mp hpr
            have hf := hfr pair hp3
            have hm3 : (pair + 1) % 3 < 3 := Nat.mod_lt _ (by decide)
            unfold frontOf at hf
            refine Ev.eq (Ev.binop (Ev.binop (Ev.sub (k := (pair : Int)) (d := .int (pick3 ca cb cc pair)) (by walk_at "name") (Ev.eq (c := .int (pair : Int)) (by walk_at "name") (by congr 1; omega)) (by omega) (by rw [Int.toNat_natCast]; exact hpk pair hp3) (by intro _ _; walk_at "rf") (by omega)) (Ev.sub (k := ((pair + 1) % 3 : Nat)) (d := .int (pick3 ca cb cc ((pair + 1) % 3))) (by walk_at "name") (Ev.binop (Ev.eq (c := .int ((pair + 1 : Nat) : Int)) (Ev.binop (by walk_at "name") Ev.int Op2.iadd) (by congr 1; omega)) Ev.int (Op2.imodN 3 rfl (by decide))) (by omega) (by rw [Int.toNat_natCast]; exact hpk _ hm3) (by intro _ _; walk_at "rf") (by omega)) Op2.isub) (Ev.binop Ev.int (Ev.binop Ev.int (by walk_at "name") (Op2.imulS (by decide))) Op2.isub) (Op2.imulrS (by omega))) ?_
            congr 1
          all_goals first | walk_at "rf" | decide | (intro _; walk_at "rf")
        exact GX.nil ⟨LSub.cons (by walk_at "rf") (LSub.cons (by walk_at "rf") (LSub.cons (by walk_at "rf") (LSub.cons (by walk_at "rf") (LSub.cons (by walk_at "rf") LSub.nil)))), rfl⟩
    rintro m' os' ⟨hm', rfl⟩
    with_reducible refine GX.weaken ?_ hm'
    unfold lawVars
    with_reducible refine GX.release0 (x := "front") (by walk_at "rf") (GX.release0 (x := "ahead") (by walk_at "rf") ?_)
    have hgA : ∀ lot, lot < 16 → ((List.range (15 + 1)).map (rowA N turn))[lot]? = some (rowA N turn lot) := fun lot hl => by rw [List.getElem?_map, List.getElem?_range hl]; rfl
    have hgF : ∀ lot, lot < 16 → ((List.range (15 + 1)).map (rowF N turn))[lot]? = some (rowF N turn lot) := fun lot hl => by rw [List.getElem?_map, List.getElem?_range hl]; rfl
    have hlA : ((List.range (15 + 1)).map (rowA N turn)).length = 16 := rfl
    have hlF : ((List.range (15 + 1)).map (rowF N turn)).length = 16 := rfl
    generalize (List.range (15 + 1)).map (rowA N turn) = LA at *
    generalize (List.range (15 + 1)).map (rowF N turn) = LF at *
    with_reducible apply GX.consL
    · apply ExS.assign (d := .list ((waysAt 4).map natsD)) (hx := .inl (by walk_at "rf")) (hk := by walk_at "rf") (hs := by walk_at "rf")
      exact Ev.callG0 gl_ways isd_161 (by walk_at "eok") (by walk_at "rf") (ways_contract (hA'.of_le (by decide))) (by decide)
    with_reducible apply GX.consL
    · apply ExS.for (x := "pair") (src := .range 0 3) (ds := (List.range 3).map fun i : Nat => D.int (0 + i)) (k := 3)
        (ms := fun _ => [("ahead", .list LA), ("front", .list LF), ("ways", .list ((waysAt 4).map natsD))])
        (o := .next [("ahead", .list LA), ("front", .list LF), ("ways", .list ((waysAt 4).map natsD))])
      case hA => exact hH
      case hit => exact Ev.callT gl_range (by walk_at "eok") (by walk_at "rf") (EvL.cons Ev.int EvL.nil (by walk_at "rf")) OpL.range1 (by walk_at "rf") (by walk_at "rf") (by decide)
      case hI => exact Iter.range hH (by decide) (small_range (by decide) (by decide) (by decide) (by decide))
      case hx => exact .inr ⟨by walk_at "rf", by walk_at "rf"⟩
      case hkd => walk_at "rf"
      case hm => exact LSub.cons (by walk_at "rf") (LSub.cons (by walk_at "rf") (LSub.cons (by walk_at "rf") LSub.nil))
      case hk => decide
      case hend => exact .inl ⟨by rfl, rfl⟩
      case hbody =>
        intro i d hi hd
        have hd' : d = .int (i : Int) := by
          rw [List.getElem?_map, List.getElem?_range hi] at hd
          cases hd
          show D.int (0 + (i : Int)) = D.int (i : Int)
          congr 1; omega
        subst hd'
        clear hd
        with_reducible apply Ex.cons
        · apply ExS.assignComp1 (src := .list ((waysAt 4).map natsD)) (l := waysAt 4) (f := natsD) (g := fun way => .int (pos5 (way.map (lv N turn i)) : Nat)) (m₀ := [("ahead", .list LA), ("pair", .int i)])
          case hA => exact hH
          case hclos => walk_at "rf"
          case hm₀ => exact Sees.cons (by walk_at "rf") (by walk_at "cf") (by walk_at "nl") (by walk_at "rf") (Sees.cons (by walk_at "rf") (by walk_at "cf") (by walk_at "nl") (by walk_at "rf") Sees.nil)
          case hit => walk_at "name"
          case hI => exact Iter.list hH
          case hsz => apply le_size; exact ways_len 4 (by decide)
          case h =>
            intro C way hway
            obtain ⟨hw5, hw16⟩ := way_facts way hway
            refine Ev.eq (Ev.meth1 F.plainAttrs_list F.slot_list_count F.type_list_count (a := .list ((way.map fun lot => decide (12 < lv N turn i lot)).map D.bool)) ?_ Ty.list Ev.bool OpL.countBools (by walk_at "rf") (by walk_at "rf") (by walk_at "rf")) ?_
            · rw [List.map_map]
              apply Ev.comp1 (src := natsD way) (l := way) (f := fun k : Nat => .int (k : Int)) (g := fun lot => .bool (decide (12 < lv N turn i lot))) (m₀ := [("ahead", .list LA), ("pair", .int i)])
              case hA => exact hH
              case hclos => walk_at "rf"
              case hm₀ => exact Sees.cons (by walk_at "rf") (by walk_at "cf") (by walk_at "nl") (by walk_at "rf") (Sees.cons (by walk_at "rf") (by walk_at "cf") (by walk_at "nl") (by walk_at "rf") Sees.nil)
              case hit => walk_at "name"
              case hI => exact Iter.list hH
              case hsz => apply le_size; omega
              case h =>
                intro C2 lot hlt
                have h16 := hw16 lot hlt
                refine Ev.sub (k := (i : Int)) (Ev.sub (k := (lot : Int)) (d := rowA N turn lot) (by walk_at "name") (by walk_at "name") (by omega) (by rw [Int.toNat_natCast]; exact hgA lot h16) (by intro _ _; walk_at "rf") (by omega)) (by walk_at "name") (by omega) ?_ (by intro _ _; walk_at "rf") (by omega)
                rw [Int.toNat_natCast, List.getElem?_map, List.getElem?_range hi]; rfl
              all_goals first | walk_at "rf" | decide | (intro _; walk_at "rf")
            · rw [← pos_count, List.map_map]; rfl
          all_goals first | walk_at "rf" | decide | (intro _; walk_at "rf")
        with_reducible apply Ex.cons
        · apply ExS.assignComp1 (src := .list ((waysAt 4).map natsD)) (l := waysAt 4) (f := natsD) (g := fun way => .list ((way.map fun lot => ((lv N turn i lot : Int) - 12)).map D.int)) (m₀ := [("front", .list LF), ("pair", .int i)])
          case hA => exact hH
          case hclos => walk_at "rf"
          case hm₀ => exact Sees.cons (by walk_at "rf") (by walk_at "cf") (by walk_at "nl") (by walk_at "rf") (Sees.cons (by walk_at "rf") (by walk_at "cf") (by walk_at "nl") (by walk_at "rf") Sees.nil)
          case hit => walk_at "name"
          case hI => exact Iter.list hH
          case hsz => apply le_size; exact ways_len 4 (by decide)
          case h =>
            intro C way hway
            obtain ⟨hw5, hw16⟩ := way_facts way hway
            rw [List.map_map]
            apply Ev.comp1 (src := natsD way) (l := way) (f := fun k : Nat => .int (k : Int)) (g := fun lot => .int ((lv N turn i lot : Int) - 12)) (m₀ := [("front", .list LF), ("pair", .int i)])
            case hA => exact hH
            case hclos => walk_at "rf"
            case hm₀ => exact Sees.cons (by walk_at "rf") (by walk_at "cf") (by walk_at "nl") (by walk_at "rf") (Sees.cons (by walk_at "rf") (by walk_at "cf") (by walk_at "nl") (by walk_at "rf") Sees.nil)
            case hit => walk_at "name"
            case hI => exact Iter.list hH
            case hsz => apply le_size; omega
            case h =>
              intro C2 lot hlt
              have h16 := hw16 lot hlt
              refine Ev.sub (k := (i : Int)) (Ev.sub (k := (lot : Int)) (d := rowF N turn lot) (by walk_at "name") (by walk_at "name") (by omega) (by rw [Int.toNat_natCast]; exact hgF lot h16) (by intro _ _; walk_at "rf") (by omega)) (by walk_at "name") (by omega) ?_ (by intro _ _; walk_at "rf") (by omega)
              rw [Int.toNat_natCast, List.getElem?_map, List.getElem?_range hi]; rfl
            all_goals first | walk_at "rf" | decide | (intro _; walk_at "rf")
          all_goals first | walk_at "rf" | decide | (intro _; walk_at "rf")
        apply Ex.one
        apply ExS.post
        case h =>
          apply ExS.ifF
          case ht =>
            obtain ⟨srt, hp1, hs1⟩ := sorted_ex ((waysAt 4).map fun way => (argOf (way.map (lv N turn i)) : Int))
            have hsa := sa_final (N := N) (turn := turn) (pair := i) hN hi hturn
            have h24 : ∀ f : List Nat → Int, ((waysAt 4).map f).length < 64 := fun f => by rw [List.length_map, ways_lit]; decide
            refine EvT.eq (EvT.cmp1 (Ev.callB gl_sorted (by walk_at "eok") (by walk_at "rf") (EvL.cons (Ev.eq (c := .list (((waysAt 4).map fun way => (pos5 (way.map (lv N turn i)) : Int)).map D.int)) (by walk_at "name") (by rw [List.map_map]; rfl)) EvL.nil (by walk_at "rf")) (OpL.sorted (hp1.trans hsa.symm) hs1 (h24 _)) (by walk_at "rf") (by walk_at "rf") (by decide))
              (Ev.callB gl_sorted (by walk_at "eok") (by walk_at "rf") (EvL.cons (d := .list (((waysAt 4).map fun way => (argOf (way.map (lv N turn i)) : Int)).map D.int)) ?_ EvL.nil (by walk_at "rf")) (OpL.sorted hp1 hs1 (h24 _)) (by walk_at "rf") (by walk_at "rf") (by decide)) (Op2.neInts ?_) (by walk_at "rf")) ?_
            · rw [List.map_map]
              apply Ev.comp1 (src := .list ((waysAt 4).map fun way => .list ((way.map fun lot => ((lv N turn i lot : Int) - 12)).map D.int))) (l := waysAt 4) (f := fun way => .list ((way.map fun lot => ((lv N turn i lot : Int) - 12)).map D.int)) (g := fun way => .int (argOf (way.map (lv N turn i)) : Nat)) (m₀ := [])
              case hA => exact hH
              case hclos => walk_at "rf"
              case hm₀ => exact Sees.nil
              case hit => walk_at "name"
              case hI => exact Iter.list hH
              case hsz => apply le_size; exact ways_len 4 (by decide)
              case h =>
                intro C way hway
                obtain ⟨hw5, hw16⟩ := way_facts way hway
                obtain ⟨M, hM1, hM2, hM3⟩ := max_at (l := way.map (lv N turn i)) (fun e => by have := congrArg List.length e; rw [List.length_map, hw5] at this; cases this)
                rw [List.map_map] at hM1 hM2 hM3
                refine Ev.eq (Ev.meth1 F.plainAttrs_list F.slot_list_index F.type_list_index (by walk_at "name") Ty.list (Ev.bcallB gl_max (by walk_at "eok") (by walk_at "rf") (by walk_at "name") (OpL.maxList hH hM1 hM2) (by walk_at "rf") (by decide)) (OpL.indexInts hM1 (lay5 _ (by rw [List.length_map]; exact hw5) fun x hx => ?_)) (by walk_at "rf") (by walk_at "rf") (by walk_at "rf")) ?_
                · obtain ⟨lot, _, rfl⟩ := List.mem_map.mp hx
                  have := lv_le (N := N) (turn := turn) (pair := i) (lot := lot) hN hi hturn
                  show ((lv N turn i lot : Int) - 12).natAbs ≤ 1000
                  omega
                · rw [hM3]
              all_goals first | walk_at "rf" | decide | (intro _; walk_at "rf")
            · have := hA'.units; omega
            · simp
          case h => exact Ex.nil
        case hm => exact LSub.cons (by walk_at "rf") (LSub.cons (by walk_at "rf") (LSub.cons (by walk_at "rf") LSub.nil))
      all_goals first | walk_at "rf" | (intro _; walk_at "rf")
    with_reducible apply GX.consRet
    apply ExS.ret
    exact Ev.bool
  all_goals first | rfl | decide
end

end

end Mine

set_option maxRecDepth 100000 in
set_option maxHeartbeats 8000000 in
theorem PySem.Challenge.cw_tl0026_01_holds : PySem.Challenge.rw_tl0026_01.Holds := by
  exact Mine.lawHolds
