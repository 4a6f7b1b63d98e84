import PyProof.Rows.All
import Wide.All
import OpenK.AllK
import Wide.FinOn
import PySem.Challenge.RW_ny0040_01
set_option Elab.async false
set_option linter.all false
set_option maxRecDepth 100000
set_option maxHeartbeats 8000000
section
open PySem PySem.W PyProof.Rows
open_top hd for PySem.Challenge.rw_ny0040_01
end

section
open PySem PySem.W PyProof.Rows PySem.Calls
namespace Mine

/-! heaps -/
abbrev Ext (h h' : Heap) : Prop := ∀ b o, h.get? b = some o → h'.get? b = some o
theorem Ext.refl (h : Heap) : Ext h h := fun _ _ e => e
theorem Ext.trans {a b c : Heap} (x : Ext a b) (y : Ext b c) : Ext a c := fun _ _ e => y _ _ (x _ _ e)
theorem Ext.push (h : Heap) (o : Obj) : Ext h (h.push o) := fun _ _ e => Heap.get?_push_of_some o e

abbrev V (W : List Addr) (h : Heap) : Heap := hideAll h W
section
variable {W W' : List Addr} {h h' : Heap} {a b L : Addr} {o : Obj}
theorem V_not (e : (V W h).get? b = some o) : b ∉ W := fun m => by
  have e' : (hideAll h W).get? b = some o := e
  rw [hideAll_none W m] at e'; cases e'
theorem V_le : Ext (V W h) h := fun _ _ e => of_hideAll W e
theorem V_ext (k : ∀ b o, b ∉ W → h.get? b = some o → h'.get? b = some o) : Ext (V W h) (V W h') := fun b o e => hideAll_get W (k b o (V_not e) (of_hideAll W e)) (V_not e)
theorem V_mono (k : Ext h h') : Ext (V W h) (V W h') := V_ext fun b o _ e => k b o e
theorem V_sub (hs : ∀ a ∈ W, a ∈ W') : Ext (V W' h) (V W h) := fun b o e => hideAll_get W (of_hideAll W' e) fun m => V_not e (hs b m)
theorem V_same (hs : Heap.SameBut L h h') (hL : L ∈ W) : Ext (V W h) (V W h') := V_ext fun b o hb e => hs.extBut b o (fun q => hb (q ▸ hL)) e
theorem V_extBut (hs : Heap.ExtBut L h h') (hL : L ∈ W) : Ext (V W h) (V W h') := V_ext fun b o hb e => hs b o (fun q => hb (q ▸ hL)) e
theorem V_in (e : h.get? b = some o) (hb : b ∉ W) : (V W h).get? b = some o := hideAll_get W e hb
theorem get_none_ge (hb : h.objs.size ≤ b) : h.get? b = none := by
  cases e : h.get? b with
  | none => rfl
  | some o => exact absurd (Heap.lt_size e) (Nat.not_lt.mpr hb)
theorem ext_of_same (hs : Heap.SameBut L h h') (k : Ext a' h) (hL : a'.get? L = none) : Ext a' h' := fun b o e => hs.extBut b o (fun q => by rw [q, hL] at e; cases e) (k b o e)
theorem ext_of_extBut (hs : Heap.ExtBut L h h') (k : Ext a' h) (hL : a'.get? L = none) : Ext a' h' := fun b o e => hs b o (fun q => by rw [q, hL] at e; cases e) (k b o e)
end

def Live (W : List Addr) (h : Heap) : Prop := ∀ a ∈ W, ∃ o, h.get? a = some o
theorem Live.mono {W : List Addr} {h h' : Heap} (e : Ext h h') (x : Live W h) : Live W h' := fun a m => let ⟨o, q⟩ := x a m; ⟨o, e _ _ q⟩
theorem Live.nil {h : Heap} : Live [] h := fun _ m => nomatch m
theorem Live.not {W : List Addr} {h : Heap} {b : Addr} (x : Live W h) (hb : h.get? b = none) : b ∉ W := fun m => by
  obtain ⟨o, q⟩ := x b m
  rw [hb] at q; cases q
theorem Live.cons {W : List Addr} {h : Heap} {b : Addr} {o : Obj} (e : h.get? b = some o) (x : Live W h) : Live (b :: W) h := fun a m => by
  rcases List.mem_cons.mp m with rfl | m
  · exact ⟨o, e⟩
  · exact x a m
theorem Ext.fresh {h h' : Heap} {b : Addr} (e : Ext h h') (hb : h'.get? b = none) : h.get? b = none := by
  cases q : h.get? b with
  | none => rfl
  | some o => rw [e _ _ q] at hb; cases hb
theorem push_none (h : Heap) : h.get? h.objs.size = none := get_none_ge (Nat.le_refl _)

/-! readings -/
def Rd (h : Heap) (v : Value) (d : PyData) : Prop := ∃ as, Reads h v d as
def RdAll (h : Heap) (vs : List Value) (ds : List PyData) : Prop := ∃ as, ReadsAll h vs ds as
section
variable {h h' : Heap} {v : Value} {d : PyData} {vs ws : List Value} {ds es : List PyData} {a : Addr}
theorem Rd.mono (e : Ext h h') (r : Rd h v d) : Rd h' v d := let ⟨as, r⟩ := r; ⟨as, PyProof.Rows.Reads.keeps e r⟩
theorem RdAll.mono (e : Ext h h') (r : RdAll h vs ds) : RdAll h' vs ds := let ⟨as, r⟩ := r; ⟨as, PyProof.Rows.ReadsAll.keeps e r⟩
theorem Rd.int (i t) : Rd h (.int i t) (.int i) := ⟨_, .int i t⟩
theorem Rd.int_inv {i : Int} (r : Rd h v (.int i)) : ∃ t, v = .int i t := by
  obtain ⟨as, r⟩ := r; cases r; exact ⟨_, rfl⟩
theorem RdAll.nil : RdAll h [] [] := ⟨_, .nil⟩
theorem RdAll.cons (r : Rd h v d) (rs : RdAll h vs ds) : RdAll h (v :: vs) (d :: ds) := let ⟨_, r⟩ := r; let ⟨_, rs⟩ := rs; ⟨_, .cons r rs⟩
theorem RdAll.cons_inv {v d} (r : RdAll h (v :: vs) (d :: ds)) : Rd h v d ∧ RdAll h vs ds := by
  obtain ⟨as, r⟩ := r
  cases r with
  | cons r1 r2 => exact ⟨⟨_, r1⟩, ⟨_, r2⟩⟩
theorem RdAll.length (r : RdAll h vs ds) : vs.length = ds.length := by
  obtain ⟨as, r⟩ := r
  exact SeqAt.ReadsAll.length _ _ _ r
theorem RdAll.append : ∀ {vs ds}, RdAll h vs ds → RdAll h ws es → RdAll h (vs ++ ws) (ds ++ es)
  | [], [], _, k => k
  | [], _ :: _, r, _ => by have := r.length; simp at this
  | _ :: _, [], r, _ => by have := r.length; simp at this
  | _ :: _, _ :: _, r, k => let ⟨r1, r2⟩ := r.cons_inv; .cons r1 (RdAll.append r2 k)
theorem RdAll.snoc (r : RdAll h vs ds) (k : Rd h v d) : RdAll h (vs ++ [v]) (ds ++ [d]) := r.append (.cons k .nil)
theorem RdAll.get : ∀ {vs ds} {i : Nat} {v : Value}, RdAll h vs ds → vs[i]? = some v → ∃ d, ds[i]? = some d ∧ Rd h v d
  | [], _, _, _, _, e => by simp at e
  | _ :: _, [], _, _, r, _ => by have := r.length; simp at this
  | _ :: _, d :: _, 0, _, r, e => by
    simp at e; subst e; exact ⟨d, rfl, r.cons_inv.1⟩
  | _ :: _, _ :: _, i + 1, _, r, e => by
    simp at e
    obtain ⟨d, h1, h2⟩ := r.cons_inv.2.get e
    exact ⟨d, by simpa using h1, h2⟩
theorem Rd.list_inv {xs : List PyData} (r : Rd h v (.list xs)) : ∃ a vs, v = .ref a ∧ h.IsList a vs.toArray ∧ RdAll h vs xs := by
  obtain ⟨as, r⟩ := r
  obtain ⟨a, l, bs, h1, _, h3, h4⟩ := reads_list_items r
  exact ⟨a, l, h1, h3, bs, h4⟩
theorem Rd.list_of {xs : List PyData} (hl : h.IsList a vs.toArray) (r : RdAll h vs xs) : Rd h (.ref a) (.list xs) := by
  obtain ⟨as, r⟩ := r
  obtain ⟨o, h1, h2, n, h3⟩ := hl
  exact ⟨_, reads_list_at h1 h2 h3 (by simpa using r)⟩
theorem Rd.tuple_inv {xs : List PyData} (r : Rd h v (.tuple xs)) : ∃ a vs, v = .ref a ∧ IsTup h a vs.toArray ∧ RdAll h vs xs := by
  obtain ⟨as, r⟩ := r
  obtain ⟨a, l, h1, h3, h4⟩ := reads_tuple_items r
  exact ⟨a, l, h1, h3, _, h4⟩
theorem Rd.tuple_of {xs : List PyData} (hl : IsTup h a vs.toArray) (r : RdAll h vs xs) : Rd h (.ref a) (.tuple xs) := by
  obtain ⟨as, r⟩ := r
  obtain ⟨o, h1, h2, n, h3⟩ := hl
  exact ⟨_, reads_tuple_at h1 h2 h3 (by simpa using r)⟩
theorem IsList.ext {items : Array Value} (e : Ext h h') (x : h.IsList a items) : h'.IsList a items := x.at fun o => e a o
end

/-! states -/
def Sm (s s' : Shared) : Prop := ∃ h tk, s' = { s with heap := h, toks := tk }
theorem Sm.refl (s : Shared) : Sm s s := ⟨s.heap, s.toks, rfl⟩
theorem Sm.trans {a b c : Shared} (x : Sm a b) (y : Sm b c) : Sm a c := by
  obtain ⟨h, t, rfl⟩ := x; obtain ⟨h', t', rfl⟩ := y; exact ⟨h', t', rfl⟩
theorem Sm.mk (s : Shared) (h : Heap) (t : Nat) : Sm s { s with heap := h, toks := t } := ⟨h, t, rfl⟩
theorem Sm.heap (s : Shared) (h : Heap) : Sm s { s with heap := h } := ⟨h, s.toks, rfl⟩
theorem Sm.toks (s : Shared) (t : Nat) : Sm s { s with toks := t } := ⟨s.heap, t, rfl⟩

/-- what an evaluation does, Fr being the frames on the stack: all that stood stands as it stood, but that a raise may mark the frames -/
structure Go (Fr : List Addr) (s s' : Shared) : Prop where
  sm : Sm s s'
  ext : ∀ b o, b ∉ Fr → s.heap.get? b = some o → s'.heap.get? b = some o
  hid : ∀ a ∈ Fr, ∀ o, s.heap.get? a = some o → ∃ sl, s'.heap.get? a = some { o with slots := sl }
/-- own things: beyond W, made since h -/
def Own (W W' : List Addr) (h : Heap) : Prop := (∀ a ∈ W, a ∈ W') ∧ ∀ a ∈ W', a ∈ W ∨ h.get? a = none
theorem Own.refl (W : List Addr) (h : Heap) : Own W W h := ⟨fun _ m => m, fun _ m => .inl m⟩
theorem Own.cons {W W' : List Addr} {X : Addr} {h : Heap} (x : Own W W' h) (hX : h.get? X = none) : Own W (X :: W') h := ⟨fun a m => .tail _ (x.1 a m), fun a m => by
  rcases List.mem_cons.mp m with rfl | m
  · exact .inr hX
  · exact x.2 a m⟩
section
variable {Fr Fr' W W' : List Addr} {s s₁ s₂ : Shared} {X : Addr}
theorem Go.of (sm : Sm s s₁) (e : Ext s.heap s₁.heap) : Go Fr s s₁ := ⟨sm, fun b o _ q => e b o q, fun a _ o q => ⟨o.slots, e _ _ q⟩⟩
theorem Go.refl (Fr : List Addr) (s : Shared) : Go Fr s s := .of (Sm.refl s) (Ext.refl _)
theorem Go.trans (x : Go Fr s s₁) (y : Go Fr s₁ s₂) : Go Fr s s₂ := ⟨x.sm.trans y.sm, fun b o hb q => y.ext b o hb (x.ext b o hb q), fun a m o q => by
  obtain ⟨sl, q'⟩ := x.hid a m o q
  obtain ⟨sl', q''⟩ := y.hid a m _ q'
  exact ⟨sl', q''⟩⟩
theorem Go.kept (x : Go Fr s s₁) {a : Addr} {o : Obj} (q : s.heap.get? a = some o) : ∃ sl, s₁.heap.get? a = some { o with slots := sl } := by
  by_cases m : a ∈ Fr
  · exact x.hid a m o q
  · exact ⟨o.slots, x.ext a o m q⟩
theorem Go.see (x : Go Fr s s₁) (hs : ∀ a ∈ Fr, a ∈ W) : Ext (V W s.heap) (V W s₁.heap) := V_ext fun b o hb q => x.ext b o (fun m => hb (hs b m)) q
theorem Go.see' (x : Go Fr s s₁) (hs : ∀ a ∈ Fr, a ∈ W) (ow : Own W W' s.heap) : Ext (V W s.heap) (V W' s₁.heap) := fun b o e => by
  have hb := V_not e
  refine V_in (V_le _ _ (x.see hs b o e)) fun m => ?_
  rcases ow.2 b m with m | q
  · exact hb m
  · rw [V_le _ _ e] at q; cases q
theorem Go.step (x : Go Fr s s₁) (y : Go Fr' s₁ s₂) (ow : Own Fr Fr' s.heap) : Go Fr s s₂ where
  sm := x.sm.trans y.sm
  ext := fun b o hb q => y.ext b o (fun m => (ow.2 b m).elim hb fun z => by rw [q] at z; cases z) (x.ext b o hb q)
  hid := fun a m o q => by
    obtain ⟨sl, q'⟩ := x.hid a m o q
    obtain ⟨sl', q''⟩ := y.hid a (ow.1 a m) _ q'
    exact ⟨sl', q''⟩
theorem Go.but (x : Go Fr s s₁) (sm : Sm s₁ s₂) (he : Heap.ExtBut X s₁.heap s₂.heap) (hX : s.heap.get? X = none) : Go Fr s s₂ where
  sm := x.sm.trans sm
  ext := fun b o hb q => he b o (fun z => by rw [z, hX] at q; cases q) (x.ext b o hb q)
  hid := fun a m o q => by
    obtain ⟨sl, q'⟩ := x.hid a m o q
    exact ⟨sl, he a _ (fun z => by rw [z, hX] at q; cases q) q'⟩
theorem Go.but2 {Y : Addr} (x : Go Fr s s₁) (sm : Sm s₁ s₂) (he : ∀ b o, b ≠ X → b ≠ Y → s₁.heap.get? b = some o → s₂.heap.get? b = some o) (hX : s.heap.get? X = none) (hY : s.heap.get? Y = none) : Go Fr s s₂ where
  sm := x.sm.trans sm
  ext := fun b o hb q => he b o (fun z => by rw [z, hX] at q; cases q) (fun z => by rw [z, hY] at q; cases q) (x.ext b o hb q)
  hid := fun a m o q => by
    obtain ⟨sl, q'⟩ := x.hid a m o q
    exact ⟨sl, he a _ (fun z => by rw [z, hX] at q; cases q) (fun z => by rw [z, hY] at q; cases q) q'⟩
theorem Go.fresh (x : Go Fr s s₁) (hX : s₁.heap.get? X = none) : s.heap.get? X = none := by
  cases q : s.heap.get? X with
  | none => rfl
  | some o =>
    obtain ⟨sl, q'⟩ := x.kept q
    rw [hX] at q'; cases q'
theorem Go.live (x : Go Fr s s₁) (lv : Live W s.heap) : Live W s₁.heap := fun a m => by
  obtain ⟨o, q⟩ := lv a m
  obtain ⟨sl, q'⟩ := x.kept q
  exact ⟨_, q'⟩
theorem Go.ns {a : Addr} {m : Str → Option Value} (x : Go Fr s s₁) (hn : s.heap.Ns a m) : s₁.heap.Ns a m := by
  obtain ⟨o, es, ep, ho, hd, r⟩ := hn
  obtain ⟨sl, q⟩ := x.kept ho
  exact ⟨_, es, ep, q, hd, r⟩
theorem Go.isList {a : Addr} {items : Array Value} (x : Go Fr s s₁) (hl : s.heap.IsList a items) : s₁.heap.IsList a items := by
  obtain ⟨o, ho, hc, n, hd⟩ := hl
  obtain ⟨sl, q⟩ := x.kept ho
  exact ⟨_, q, hc, n, hd⟩
theorem Go.isListIter {a l : Addr} {i : Nat} (x : Go Fr s s₁) (hl : s.heap.IsListIter a l i) : s₁.heap.IsListIter a l i := by
  obtain ⟨o, ho, hc, hd⟩ := hl
  obtain ⟨sl, q⟩ := x.kept ho
  exact ⟨_, q, hc, hd⟩
end

/-- a list of one's own, without a dict -/
def DL (h : Heap) (a : Addr) (vs : List Value) : Prop := ∃ o n, h.get? a = some o ∧ o.cls = .type "list" ∧ o.dict = none ∧ o.data = .seq vs.toArray n
section
variable {W W' : List Addr} {s s₁ s₂ : Shared} {a X : Addr} {vs : List Value} {h h' : Heap}
theorem DL.isList (x : DL h a vs) : h.IsList a vs.toArray := let ⟨o, n, h1, h2, _, h4⟩ := x; ⟨o, h1, h2, n, h4⟩
theorem Go.dl (x : Go W s s₁) (hl : DL s.heap a vs) : DL s₁.heap a vs := by
  obtain ⟨o, n, ho, hc, hd, hs⟩ := hl
  obtain ⟨sl, q⟩ := x.kept ho
  exact ⟨_, n, q, hc, hd, hs⟩
theorem DL.at (x : DL h a vs) (k : ∀ o, h.get? a = some o → h'.get? a = some o) : DL h' a vs := let ⟨o, n, h1, r⟩ := x; ⟨o, n, k o h1, r⟩
theorem DL.but (x : DL h a vs) (k : Heap.ExtBut X h h') (hne : a ≠ X) : DL h' a vs := x.at fun o e => k a o hne e
theorem DL.of_push (h : Heap) (vs : List Value) : DL (h.push { cls := .type "list", data := .seq vs.toArray }) h.objs.size vs := ⟨_, 0, Heap.get?_push_size _ rfl, rfl, rfl, rfl⟩
theorem DL.noDict (x : DL h a vs) : ∀ b, Value.ref a = .ref b → ∃ ob, h.get? b = some ob ∧ ob.dict = .none := fun b e => by
  cases e; obtain ⟨o, n, h1, _, h3, _⟩ := x; exact ⟨o, h1, h3⟩
theorem DL.see (x : DL h a vs) (hW : a ∉ W) : DL (V W h) a vs := let ⟨o, n, h1, r⟩ := x; ⟨o, n, V_in h1 hW, r⟩
theorem DL.ext (e : Ext h h') (x : DL h a vs) : DL h' a vs := x.at fun o => e a o
end
theorem dl_append {prog : Program} {w : World} {A : Around} {E : Value → Shared → Prop} {s : Shared} {l : Addr} {vs : List Value} {x : Value} {Q : Value → Shared → Prop} (hl : DL s.heap l vs) (hsz : vs.length ≤ 1000000)
    (hQ : ∀ s', Sm s s' → DL s'.heap l (vs ++ [x]) → Heap.SameBut l s.heap s'.heap → Q .none s') :
    wpAny (model prog w) A (call (.builtin "list.append") [.ref l, x]) Q E s := by
  obtain ⟨o, n, ho, hc, hdn, hd⟩ := id hl
  obtain ⟨n', hd'⟩ := Obj.data_mapSeq hd (·.push x)
  refine wpAny_call_entry slot_list_append ⟨_, ho, hc⟩ entry_list_append ?_ (args_list_append _ _)
  show wpAny _ _ (updateSeq l (·.push x) >>= fun _ => ret .none) _ _ s
  refine wpAny_bind ?_
  refine wpAny_updateSeq ho hd (wpAny_pure ⟨.none, rfl, hQ _ (Sm.heap s _) ?_ (Heap.SameBut.update ..)⟩) (by rw [sizeLine_eq]; simp; omega)
  refine ⟨_, n', Heap.get?_update_self _ ho (Obj.isFreed_of_seq hd'), (Obj.cls_mapSeq ..).trans hc, ?_, by simpa using hd'⟩
  obtain ⟨c, d, dt, sl⟩ := o
  simp only at hd; subst hd
  exact hdn

/-- an evaluation that does not raise -/
def Ev {α : Type} (M : Model) (A : Around) (Fr : List Addr) (t : Sem α) (s : Shared) (P : α → Shared → Prop) : Prop := wpAny M A t (fun v s' => Go Fr s s' ∧ P v s') (fun _ _ => False) s
theorem Ev.use {α : Type} {M : Model} {A : Around} {Fr : List Addr} {t : Sem α} {s : Shared} {P : α → Shared → Prop} {Q : α → Shared → Prop} {E : Value → Shared → Prop} (x : Ev M A Fr t s P) (h : ∀ v s', Go Fr s s' → P v s' → Q v s') : wpAny M A t Q E s :=
  wpAny_mono x (fun v s' p => h v s' p.1 p.2) fun _ _ f => f.elim

/-! the ground: what the top has laid -/
structure Gr (K : Frag) (h : Heap) : Prop where
  X : K.In h
  lim : h.NoLimit
  g : ∃ mg, h.Ns mainGlobals mg
  b : ∃ mb, h.Ns builtinsNs mb ∧ ∀ x : Str, x ≠ "__name__" → mb x = bootBuiltins x
theorem Gr.mono {K : Frag} {h h' : Heap} (e : Ext h h') (x : Gr K h) : Gr K h' where
  X := x.X.keeps e
  lim := x.lim.keeps e
  g := let ⟨m, q⟩ := x.g; ⟨m, q.keeps e⟩
  b := let ⟨m, q, r⟩ := x.b; ⟨m, q.keeps e, r⟩

/-- the exception that is being handled, if any, is at the end of its chain -/
def Hd (A : Around) (h : Heap) : Prop := A.handled = none ∨ ∃ x o vs, A.handled = some (.ref x) ∧ h.get? x = some o ∧ o.data = .fields vs ∧ vs[2]? = some .none
theorem Hd.mono {A : Around} {h h' : Heap} (e : Ext h h') (x : Hd A h) : Hd A h' := x.elim .inl fun ⟨x, o, vs, h1, h2, h3⟩ => .inr ⟨x, o, vs, h1, e _ _ h2, h3⟩

/-- the frames on the stack are in Fr and are name tables -/
def FrOk (Fr : List Addr) (h : Heap) (env : Env) : Prop := env.scope.kind ≠ .module ∧ ∃ L, env.frame = some L ∧ L ∈ Fr ∧ ∃ m, h.Ns L m
def Fm (A : Around) (Fr : List Addr) (h : Heap) : Prop := ∃ fs, A.frames = some fs ∧ ∀ env ∈ fs, FrOk Fr h env

/-- all that a call wants of the state it is made in; W is hidden, the frames among it -/
structure Cx (K : Frag) (A : Around) (Fr W : List Addr) (s : Shared) : Prop where
  G : Gr K (V W s.heap)
  lv : Live W s.heap
  sub : ∀ a ∈ Fr, a ∈ W
  fm : Fm A Fr s.heap
  hd : Hd A (V W s.heap)
section
variable {K : Frag} {A : Around} {Fr Fr' W W' : List Addr} {s s' : Shared} {env : Env} {m : Str → Option Value}
theorem Cx.gr (x : Cx K A Fr W s) : Gr K s.heap := x.G.mono V_le
theorem Fm.go (x : Fm A Fr s.heap) (g : Go Fr' s s') : Fm A Fr s'.heap := by
  obtain ⟨fs, h1, h2⟩ := x
  exact ⟨fs, h1, fun env he => let ⟨k, L, a1, a2, m, a3⟩ := h2 env he; ⟨k, L, a1, a2, m, g.ns a3⟩⟩
theorem Cx.go (x : Cx K A Fr W s) (g : Go Fr s s') : Cx K A Fr W s' where
  G := x.G.mono (g.see x.sub)
  lv := g.live x.lv
  sub := x.sub
  fm := x.fm.go g
  hd := x.hd.mono (g.see x.sub)
/-- more is hidden -/
theorem Cx.more (x : Cx K A Fr W s) (g : Go Fr s s') (ow : Own W W' s.heap) (lv : Live W' s'.heap) : Cx K A Fr W' s' where
  G := x.G.mono (g.see' x.sub ow)
  lv := lv
  sub := fun a m => ow.1 a (x.sub a m)
  fm := x.fm.go g
  hd := x.hd.mono (g.see' x.sub ow)
/-- in a def's frame: the callee's own things are hidden too -/
theorem Cx.inn (x : Cx K A Fr W s) (g : Go Fr s s') (ow : Own W W' s.heap) (lv : Live W' s'.heap)
    (hk : env.scope.kind = .function) (hf : env.frame = some env.locals) (hL : env.locals ∈ W') (hn : s'.heap.Ns env.locals m) : Cx K (A.deeper env) (env.locals :: Fr) W' s' where
  G := x.G.mono (g.see' x.sub ow)
  lv := lv
  sub := fun a m => by
    rcases List.mem_cons.mp m with rfl | m
    · exact hL
    · exact ow.1 a (x.sub a m)
  fm := by
    obtain ⟨fs, h1, h2⟩ := x.fm
    refine ⟨env :: fs, Around.frames_deeper h1, fun e he => ?_⟩
    rcases List.mem_cons.mp he with rfl | he
    · exact ⟨by rw [hk]; decide, _, hf, .head _, m, hn⟩
    · obtain ⟨k, L, a1, a2, m, a3⟩ := h2 e he
      exact ⟨k, L, a1, .tail _ a2, m, g.ns a3⟩
  hd := (x.hd.mono (g.see' x.sub ow))
end

/-! names -/
section
variable {M : Model} {A : Around} {E : Value → Shared → Prop} {s : Shared} {K : Frag} {env : Env} {m : Str → Option Value} {x : Str} {pos : Pos} {v : Value} {Q : Value → Shared → Prop}
theorem nm_local (hn : s.heap.Ns env.locals m) (hk : env.scope.kind = .function) (hx : env.kindOf x = some .local) (hv : m x = some v) (h : Q v s) (hd : (x == ("__debug__" : Str)) = false := by decide) :
    wpAny M A (eval (.Name x pos) env) Q E s := wpAny_Name (wpAny_loadName_local hk hx hn hv h) hd
theorem nm_global (G : Gr K s.heap) (hg : env.globals = mainGlobals) (hk : env.scope.kind = .function) (hx : env.kindOf x = some .globalImplicit) (e : nsIn K mainGlobals x = some (some v)) (h : Q v s) (hd : (x == ("__debug__" : Str)) = false := by decide) :
    wpAny M A (eval (.Name x pos) env) Q E s := by
  obtain ⟨mg, g⟩ := G.g
  exact Name_function_global hk hx (loadGlobal_global (hg ▸ g) (mg_of G.X g e) h) hd
theorem nm_builtin (G : Gr K s.heap) (hg : env.globals = mainGlobals) (hb : env.builtins = builtinsNs) (hk : env.scope.kind = .function) (hx : env.kindOf x = some .globalImplicit) (e : nsIn K mainGlobals x = some none)
    (hv : bootBuiltins x = some v) (hn : x ≠ "__name__") (h : Q v s) (hd : (x == ("__debug__" : Str)) = false := by decide) :
    wpAny M A (eval (.Name x pos) env) Q E s := by
  obtain ⟨mg, g⟩ := G.g
  obtain ⟨mb, b, hb'⟩ := G.b
  exact Name_function_global hk hx (loadGlobal_builtin (hg ▸ g) (mg_none_of G.X g e) (hb ▸ b) ((hb' x hn).trans hv) h) hd
theorem st_local {Q : Unit → Shared → Prop} (hn : s.heap.Ns env.locals m) (hk : env.scope.kind = .function) (hx : env.kindOf x = some .local)
    (h : ∀ s', Sm s s' → s'.heap.Ns env.locals (fun y => if y = x then some v else m y) → Heap.SameBut env.locals s.heap s'.heap → Q () s') : wpAny M A (storeName env x v) Q E s :=
  wpAny_storeName_local hx hn (fun h' hn' hs => h _ (Sm.mk s h' _) hn' hs) (by rw [hk]; rfl)
end

/-! entering a def -/
section
variable {prog : Program} {w : World} {A : Around} {E : Value → Shared → Prop} {s : Shared} {K : Frag}
theorem call_enter {f : Addr} {o : Obj} {fd : FuncData} {body : List Stmt} {pos : List Value} {kw : List (Str × Value)} {binds : List (Str × Value)} {Q : Value → Shared → Prop}
    (G : Gr K s.heap) (hroom : A.depth < recursionLimit) (ho : K.lookup f = some o) (hdata : o.data = .func fd) (hcd : codeIn K fd.code fd.qualname = true) (hbody : fd.body = .stmts body) (hbind : BindsTo s fd ⟨pos, kw⟩ binds)
    (hcell : ∀ x ∈ fd.scope.names, x.2 ≠ .cell) (hloc : ∀ x ∈ binds, fd.scope.names.lookup x.1 = some .local)
    (h : ∀ env s₁, env = callEnv fd s.heap.objs.size f → Sm s s₁ → Ext s.heap s₁.heap → s₁.heap.Ns env.locals (fun x => binds.reverse.lookup x) → s.heap.get? env.locals = none →
      wpAny (model prog w) (A.deeper env) (execs body env) (fun f s' => Q (match f with | .ret v => v | _ => .none) s') (fun _ _ => False) s₁)
    (hco : fd.scope.isCoroutine = false := by rfl) (hgen : fd.scope.isGenerator = false := by rfl) (hk : fd.scope.kind = .function := by rfl) :
    wpAny (model prog w) A (call (.ref f) pos kw) Q E s := by
  refine wpAny_call (codeAny_call_def hroom (G.X _ _ ho) hdata G.lim (codeRec_of G.X hcd) hbody hbind hcell hloc (fun h₀ hn he => ?_) hco hgen hk)
  exact wpAny_mono (h _ _ rfl (Sm.mk s h₀ _) he hn (get_none_ge (Nat.le_refl _))) (fun _ _ q => q) fun _ _ f => f.elim
end
end Mine
end

section
open PySem PySem.W PyProof.Rows PySem.Calls
namespace Mine
section
variable {prog : Program} {w : World} {A : Around} {E : Value → Shared → Prop} {s : Shared}
theorem entry_unchain : entryFor table "proto.unchain" = some Builtin.«proto.unchain» := entryFor_of_fast (by kernel_rfl)

theorem unchain_end {e x : Addr} {o : Obj} {vs : Array Value} {Q : Value → Shared → Prop} (ho : s.heap.get? x = some o) (hd : o.data = .fields vs) (h2 : vs[2]? = some .none) (h : Q .none s) :
    wpAny (model prog w) A (runValue (.builtin "proto.unchain" ⟨[.ref e, .ref x, .ref x, .bool false], []⟩)) Q E s := by
  refine wpAny_runValue (codeAny_builtin entry_unchain ?_)
  show wpAny _ _ (field (.ref x) 2 >>= _) _ _ s
  refine wpAny_bind (wpAny_field ho hd h2 ?_)
  exact wpAny_pure h

theorem raise_new {α : Type} {e : Addr} {oe : Obj} {vs : Array Value} {Q : α → Shared → Prop} (hh : Hd A s.heap) (he : s.heap.get? e = some oe) (hd : oe.data = .fields vs) (hsz : 2 < vs.size) (hne : A.handled ≠ some (.ref e))
    (h : ∀ s', Sm s s' → Heap.SameBut e s.heap s'.heap → (∃ oe' vs', s'.heap.get? e = some oe' ∧ oe'.cls = oe.cls ∧ oe'.dict = oe.dict ∧ oe'.data = .fields vs' ∧ vs'.size = vs.size ∧ (∀ j, j ≠ 2 → vs'[j]? = vs[j]?) ∧ (A.handled = none → vs' = vs)) → E (.ref e) s') :
    wpAny (model prog w) A (raiseNew (.ref e) : Sem α) Q E s := by
  unfold raiseNew
  refine wpAny_bind (wpAny_handled ?_)
  rcases hh with hh | ⟨x, o, ws, hh, ho, hdo, h2⟩
  · rw [hh]
    refine wpAny_bind (wpAny_pure (wpAny_throw ?_))
    exact h s (Sm.refl s) (Heap.SameBut.refl _ _) ⟨oe, vs, he, rfl, rfl, hd, rfl, fun _ _ => rfl, fun _ => rfl⟩
  · rw [hh]
    have hxe : (Value.ref x != Value.ref e) = true := by
      rw [bne_iff_ne]; intro q; exact hne (by rw [hh, q])
    dsimp only
    rw [if_pos hxe]
    refine wpAny_bind (wpAny_holding (unchain_end ho hdo h2 ?_))
    refine wpAny_bind ?_
    unfold updateField
    refine wpAny_bind (wpAny_load he ?_)
    rw [hd]
    dsimp only
    rw [if_pos hsz]
    refine wpAny_update he ?_
    refine wpAny_throw ?_
    have hf : (Obj.mapFields (·.setIfInBounds 2 (.ref x)) oe).isFreed = false := by
      obtain ⟨c, d, dt, sl⟩ := oe; simp only at hd; subst hd; rfl
    refine h _ (Sm.heap s _) (Heap.SameBut.update _ _ _) ⟨_, vs.setIfInBounds 2 (.ref x), Heap.get?_update_self _ he hf, ?_, ?_, ?_, by simp, fun j hj => ?_, fun q => by rw [hh] at q; cases q⟩
    · obtain ⟨c, d, dt, sl⟩ := oe; simp only at hd; subst hd; rfl
    · obtain ⟨c, d, dt, sl⟩ := oe; simp only at hd; subst hd; rfl
    · obtain ⟨c, d, dt, sl⟩ := oe; simp only at hd; subst hd; rfl
    · rw [Array.getElem?_setIfInBounds]; simp [Ne.symm hj]

/-- a list's iterator at its end, whatever is being handled -/
theorem nx_end {it l : Addr} {i : Nat} {items : Array Value} {Q : Option Value → Shared → Prop} (hh : Hd A s.heap) (hit : s.heap.IsListIter it l i) (hl : s.heap.IsList l items) (hx : items[i]? = none)
    (hQ : ∀ s', Sm s s' → Heap.ExtBut it s.heap s'.heap → Q none s') : wpAny (model prog w) A (pyNext (.ref it)) Q E s := by
  obtain ⟨o, ho, hc, hd⟩ := id hit
  obtain ⟨ol, hol, _, nl, hdl⟩ := hl
  unfold pyNext
  refine wpAny_bind (wpAny_attempt (wpAny_callSpecial?_slot (name := Str.ofString "__next__") hit.typeIs slot_listiter_next
    (wpAny_call_entry slot_listiter_next hit.typeIs entry_listiter_next ?_ (args_listiter_next _))))
  show wpAny _ _ (field (.ref it) 0 >>= _) _ _ s
  refine wpAny_bind (wpAny_field ho hd (x := .ref l) rfl ?_)
  show wpAny _ _ (if (Value.ref l == Value.none) = true then _ else _) _ _ s
  rw [if_neg (show ¬ ((Value.ref l == Value.none) = true) from Bool.false_ne_true)]
  show wpAny _ _ (field (.ref it) 1 >>= _) _ _ s
  refine wpAny_bind (wpAny_field ho hd (x := .int i 0) rfl ?_)
  show wpAny _ _ (seqItems? (.ref l) >>= _) _ _ s
  refine wpAny_bind (wpAny_seqItems hol hdl ?_)
  simp only [Int.toNat_natCast, hx]
  refine wpAny_bind (wpAny_rule (wpAny_bind (wpAny_setField ho hd (by simp) ?_)))
  show wpAny _ _ (newExc (.type "StopIteration") [] >>= _) _ _ _
  refine wpAny_bind ?_
  simp only [newExc, newTuple]
  refine wpAny_bind (wpAny_newObj_type ?_ (by size_fits))
  refine wpAny_bind (m := firstArgMember _ _) (wpAny_of_eq (a := Value.none) (by first | rfl | (simp only [firstArgMember]; rfl)) ?_)
  refine wpAny_newObj_type ?_ (by size_fits)
  have k1 : Heap.ExtBut it s.heap (s.heap.update it (Obj.mapFields (·.setIfInBounds 0 .none))) := (Heap.SameBut.update ..).extBut
  have hh' : ∀ h', Heap.ExtBut it s.heap h' → Hd A.in1 h' := fun h' k => by
    rcases hh with hh | ⟨x, o', vs', h1, h2, h3, h4⟩
    · exact .inl hh
    · by_cases q : x = it
      · subst q
        rw [ho] at h2; cases h2; rw [hd] at h3; cases h3; simp at h4
      · exact .inr ⟨x, o', vs', h1, k x o' q h2, h3, h4⟩
  refine raise_new (hh' _ ((k1.push _).push _)) (Heap.get?_push_size _ rfl) rfl (by simp; omega) ?_ ?_
  · intro q
    rcases hh with hh | ⟨x, o', vs', h1, h2, _⟩
    · rw [show A.in1.handled = none from hh] at q; cases q
    · rw [show A.in1.handled = _ from h1] at q
      have := Heap.lt_size h2
      injection q with q; injection q with q
      rw [q] at this
      simp only [Heap.size_push, Heap.size_after_update] at this
      exact Nat.not_succ_lt_self this |>.elim
  · rintro s' sm hs ⟨oe', vs', g1, g2, _, g3, _⟩
    refine wpAny_bind (wpAny_isInstance (T := "StopIteration") (b := true) ⟨_, g1, g2⟩ isSubtype_stop ?_)
    refine wpAny_pure (hQ _ (Sm.trans ?_ sm) ?_)
    · exact ⟨_, _, rfl⟩
    · intro b o' hb e
      have e2 := (k1.push { cls := .type "tuple", data := .seq ([] : List Value).toArray }).push { cls := .type "StopIteration", data := .fields (#[.ref (s.heap.update it (Obj.mapFields (·.setIfInBounds 0 .none))).objs.size, .none, .none, .none, .bool false, .none] ++ ownMembersOf (.type "StopIteration") []) } b o' hb e
      refine hs.extBut b o' ?_ e2
      intro q
      have := Heap.lt_size e
      rw [q] at this
      simp only [Heap.size_push, Heap.size_after_update] at this
      exact Nat.not_succ_lt_self this |>.elim
end
end Mine
end

section
open PySem PySem.W PyProof.Rows PySem.Calls
namespace Mine
section
variable {h h' : Heap} {it l L N : Addr} {i : Nat} {m : Str → Option Value} {items : Array Value}
theorem iter_ne_ns (x : h.IsListIter it l i) (n : h.Ns L m) : it ≠ L := by
  rintro rfl
  obtain ⟨o, ho, _, hd⟩ := x
  obtain ⟨o', es, ep, ho', hd', _⟩ := n
  rw [ho] at ho'; cases ho'; rw [hd] at hd'; cases hd'
theorem iter_ne_list (x : h.IsListIter it l i) (n : h.IsList N items) : it ≠ N := by
  rintro rfl
  obtain ⟨o, ho, _, hd⟩ := x
  obtain ⟨o', ho', _, k, hd'⟩ := n
  rw [ho] at ho'; cases ho'; rw [hd] at hd'; cases hd'
theorem list_ne_ns (x : h.IsList N items) (n : h.Ns L m) : N ≠ L := by
  rintro rfl
  obtain ⟨o, ho, _, k, hd⟩ := x
  obtain ⟨o', es, ep, ho', hd', _⟩ := n
  rw [ho] at ho'; cases ho'; rw [hd] at hd'; cases hd'
theorem IsListIter.ext (e : Ext h h') (x : h.IsListIter it l i) : h'.IsListIter it l i := x.at fun o => e it o
theorem dl_ne_ns {vs : List Value} (x : DL h N vs) (n : h.Ns L m) : N ≠ L := list_ne_ns x.isList n
theorem iter_ne_dl {vs : List Value} (x : h.IsListIter it l i) (n : DL h N vs) : it ≠ N := iter_ne_list x n.isList
theorem ns_but (n : h.Ns L m) (k : Heap.ExtBut it h h') (hne : L ≠ it) : h'.Ns L m := by
  obtain ⟨o, es, ep, q, z⟩ := n
  exact ⟨o, es, ep, k _ _ hne q, z⟩
theorem PlainList.ext (e : Ext h h') (x : h.PlainList N items) : h'.PlainList N items := x.at fun o => e N o
end

section
variable {prog : Program} {w : World} {A : Around} {E : Value → Shared → Prop} {s : Shared} {env : Env}
/-- for x in <a list that stays>: J it i m s is what holds before turn i -/
theorem for_list {R : Result → Shared → Prop} {x : Str} {px : Pos} {body : List Stmt} {l it : Addr} {vs : List Value} (J : Nat → (Str → Option Value) → Shared → Prop)
    (hk : env.scope.kind = .function) (hx : env.kindOf x = some .local)
    (hJ : ∀ i m s', J i m s' → s'.heap.IsListIter it l i ∧ s'.heap.IsList l vs.toArray ∧ Hd A s'.heap ∧ s'.heap.Ns env.locals m)
    (turn : ∀ i v m s' s'', J i m s' → vs[i]? = some v → Sm s' s'' → s''.heap.IsListIter it l (i + 1) → s''.heap.Ns env.locals (fun y => if y = x then some v else m y) →
      (∀ b o, b ≠ it → b ≠ env.locals → s'.heap.get? b = some o → s''.heap.get? b = some o) →
      wpAny (model prog w) A (execs body env) (fun f s₃ => match f with
        | .next | .cont => ∃ m', J (i + 1) m' s₃
        | .brk => R (.ok .next) s₃
        | .ret v => R (.ok (.ret v)) s₃) (notedBy (model prog w) A env fun e s' => R (.error e) s') s'')
    (done : ∀ m s' s'', J vs.length m s' → Sm s' s'' → Heap.ExtBut it s'.heap s''.heap → R (.ok .next) s'')
    {m₀ : Str → Option Value} (h : J 0 m₀ s) : codeAny (model prog w) A (.forLoop (.Name x px) (.ref it) body [] env) R s := by
  refine codeAny_forLoop_any (fun n s' => ∃ i m, J i m s' ∧ i ≤ vs.length ∧ n = vs.length - i) ?_ vs.length ⟨0, m₀, h, Nat.zero_le _, rfl⟩
  rintro n s' ⟨i, m, hj, hi, rfl⟩
  obtain ⟨hit, hl, hh, hn⟩ := hJ i m s' hj
  by_cases hlt : i < vs.length
  · have hv : vs.toArray[i]? = some vs[i] := by simp [hlt]
    refine wpAny_pyNext_list_item hit hl hv fun h₁ hit₁ hs₁ => ?_
    refine wpAny_of_eq (a := ()) (by rfl) ?_
    have hIL := iter_ne_ns hit hn
    refine wpAny_assign_Name (st_local (hn.sameBut hs₁ (Ne.symm hIL)) hk hx fun s₂ sm₂ hn₂ hs₂ => ?_)
    refine wpAny_mono (turn i _ m s' s₂ hj (by simp [hlt]) ((Sm.heap s' h₁).trans sm₂) (hit₁.extBut hs₂.extBut hIL) hn₂ fun b o hb hb' e => hs₂.extBut b o hb' (hs₁.extBut b o hb e)) (fun f s₃ q => ?_) fun _ _ e => e
    cases f with
    | next => obtain ⟨m', q⟩ := q; exact ⟨vs.length - (i + 1), by omega, i + 1, m', q, hlt, rfl⟩
    | cont => obtain ⟨m', q⟩ := q; exact ⟨vs.length - (i + 1), by omega, i + 1, m', q, hlt, rfl⟩
    | brk => exact q
    | ret v => exact q
  · have hi' : i = vs.length := by omega
    subst hi'
    refine nx_end hh hit hl (by simp) fun s'' sm he => ?_
    exact wpAny_execs_nil (done m s' s'' hj sm he)

theorem iter_list {l : Addr} {items : Array Value} {Q : Value → Shared → Prop} (hl : s.heap.IsList l items)
    (hQ : ∀ it s', Sm s s' → Ext s.heap s'.heap → s.heap.get? it = none → s'.heap.IsListIter it l 0 → Q (.ref it) s') : wpAny (model prog w) A (pyIter (.ref l)) Q E s :=
  wpAny_pyIter_list hl (hQ _ _ (Sm.heap s _) (Ext.push _ _) (get_none_ge (Nat.le_refl _)) ⟨_, Heap.get?_push_size _ rfl, rfl, rfl⟩)

/-- a method of a plain list, called with one argument -/
theorem meth1 {o e : Expr} {name : Str} {apos pos : Pos} {T id : String} {Q : Value → Shared → Prop} (pa : PlainAttrs T) (slot : Slot T name id) (hty : typeOf (.builtin id) = pure (.type "method_descriptor"))
    (hbase : attributeBase o name env (eval o env) = eval o env) (hline : (apos.endLine == pos.line) = true)
    (htrees : backTo pos (starEach [e] env) = [(false, eval e env)])
    (h : wpAny (model prog w) A (eval o env) (fun ov s₁ => s₁.TypeIs ov T ∧ (∀ a, ov = .ref a → ∃ ob, s₁.heap.get? a = some ob ∧ ob.dict = none) ∧
      wpAny (model prog w) A (eval e env) (fun v s₂ => wpAny (model prog w) A (call (.builtin id) [ov, v]) Q E s₂) E s₁) E s) :
    wpAny (model prog w) A (eval (.Call (.Attribute o name apos) [e] [] pos) env) Q E s := by
  refine wpAny_Call_method hbase (by rw [htrees]; rfl) hline pa slot hty (wpAny_mono h (fun ov s₁ q => ⟨q.1, q.2.1, ?_⟩) fun _ _ e => e)
  rw [htrees]
  refine callWith_builtin rfl (evalArgs_plain (spliced_cons (wpAny_mono q.2.2 (fun v s₂ q => spliced_nil q) fun _ _ e => e)))
end
end Mine
end

section
open PySem PySem.W PyProof.Rows PySem.Calls
namespace Mine
def fkObj : Obj := { cls := .type "builtin_function_or_method", data := .fields #[.builtin "dict.fromkeys", .type "dict"] }
theorem type_fk : typeOf (.builtin "dict.fromkeys") = pure (.type "classmethod_descriptor") := by show builtinType _ = _; rw [builtinType_eq_fast]; kernel_rfl
theorem entry_fk : entryFor table "dict.fromkeys" = some Builtin.«dict.fromkeys» := entryFor_of_tree (by kernel_rfl)
theorem entry_fkl : entryFor table "dict.fromkeys.loop" = some Builtin.«dict.fromkeys.loop» := entryFor_of_tree (by kernel_rfl)
theorem quiet_fk {as : Args} : (Code.builtin "dict.fromkeys" as).quiet = true := Code.quiet_builtin _ (by decide +kernel)
theorem quiet_fkl {as : Args} : (Code.builtin "dict.fromkeys.loop" as).quiet = true := Code.quiet_builtin _ (by decide +kernel)
theorem isType_dict : isType (.type "dict") = pure true := by first | rfl | kernel_rfl | (unfold isType; rw [isSubtype_type]; kernel_rfl)
theorem owner_fk : (kfb_private% "ownerAndName") "dict.fromkeys" = ("dict", "fromkeys") := by first | decide +kernel | kernel_rfl
theorem typeCall_dict0 : checkTypeCall "dict" ⟨[], []⟩ = pure () := by kernel_rfl
theorem newCall_dict0 : checkBuiltinCall "dict.__new__" ⟨[.type "dict"], []⟩ = pure () := by kernel_rfl
theorem args_dict_init1 (a : Value) : argsOk "dict.__init__" ⟨[a], []⟩ := by unfold argsOk; kernel_rfl

section
variable {prog : Program} {w : World} {M : Model} {A : Around} {E : Value → Shared → Prop} {s : Shared} {K : Frag} {env : Env}
theorem run_fkget {P : Fin → Shared → Prop} (h : P (.done (.ret (.ref s.heap.objs.size))) { s with heap := s.heap.push fkObj }) :
    wpAny M A (Builtin.«classmethod_descriptor.__get__» ⟨[.builtin "dict.fromkeys", .none, .type "dict"], []⟩) P E s := by
  unfold Builtin.«classmethod_descriptor.__get__»
  refine wpAny_bind (wpAny_of_eq (a := (.builtin "dict.fromkeys", none, some (.type "dict"))) (by first | rfl | kernel_rfl) ?_)
  simp only [owner_fk]
  refine wpAny_bind (wpAny_of_eq (a := .type "dict") rfl ?_)
  refine wpAny_bind (wpAny_of_eq (a := true) isType_dict ?_)
  refine KFB.if_not rfl ?_
  refine wpAny_bind (wpAny_of_eq (a := true) F.kt_sub_dict ?_)
  refine KFB.if_not rfl ?_
  exact wpAny_bind (wpAny_newObj_type (wpAny_pure h))
theorem getm_fk {pl : Sem Bool} {Q : Value × List Value → Shared → Prop} (X : K.In s.heap)
    (e : findCls K (.type "dict") (.type "type") (PySem.Str.ofString "fromkeys") = some (.get (.builtin "classmethod_descriptor.__get__") (.builtin "dict.fromkeys") .none (.type "dict")))
    (h : Q (.ref s.heap.objs.size, []) { s with heap := s.heap.push fkObj, toks := s.toks + 1 }) :
    wpAny (model prog w) A (getMethod (.type "dict") (PySem.Str.ofString "fromkeys") pl) Q E s := by
  have hstub : opaqueClassAbove (.type "dict") = pure none := by unfold opaqueClassAbove; dsimp only; rw [show Manifest.isStub "dict" = false by decide +kernel]; rfl
  have ht : typeOf (.type "dict") = pure (.type "type") := by first | rfl | kernel_rfl
  have L0 : Looks (model prog w) s.heap (typeOf (.type "dict")) (.type "type") := Looks.of_pure ht
  have hg : findIn K (.type "type") "__getattribute__" = some (some (.builtin "type.__getattribute__")) := type_tga
  unfold getMethod specialOf
  refine wpAny_bind (wpAny_bind (L0.here ((looks_findIn X hg).here ?_)))
  dsimp only
  rw [if_pos canon_tga]
  refine wpAny_bind (wpAny_mono (Q := fun v => Q (v, [])) (E := E) ?_ (fun _ _ z => wpAny_pure z) fun _ _ z => z)
  have LO : Looks (model prog w) s.heap (opaqueClassAbove (.type "dict")) none := Looks.of_pure hstub
  refine cls_open X LO L0 hg (looks_hook X (r := none) (by rfl)) (by show subIn K _ _ = _; rfl) e ?_
  show wpAny _ _ (holding [.builtin "dict.fromkeys"] (call (.builtin "classmethod_descriptor.__get__") [.builtin "dict.fromkeys", .none, .type "dict"]) >>= fun v => ret v) _ _ _
  refine wpAny_bind (wpAny_holding (wpAny_call_entry KFB.slot_get type_fk KFB.entry_get (run_fkget ⟨_, rfl, wpAny_pure (wpAny_pure h)⟩) (KFB.args_get _ _ _)))

theorem callWith_fk {pos : Pos} {u : Addr} {first : List Value} {args : List (Bool × Sem Value)} {Q : Value → Shared → Prop} (hplain : args.any (·.1) = false)
    (h : wpAny M A (evalArgs (.ref u) true args []) (fun x s₁ => s₁.heap.get? u = some fkObj ∧ wpAny M A (call (.ref u) (first ++ x.pos) x.kw) Q E s₁) E s) : wpAny M A (callWith pos (.ref u) first args []) Q E s := by
  unfold callWith
  refine wpAny_bind (wpAny_holding (wpAny_mono h (fun x s₁ h₁ => wpAny_bind (wpAny_standAt ?_)) fun _ _ x => x))
  obtain ⟨ho, hcall⟩ := h₁
  simp only [hplain, List.any_nil, Bool.or_false]
  refine wpAny_bind (m := keeperOf (.ref u)) ?_
  unfold keeperOf
  refine wpAny_bind (wpAny_load ho ?_)
  simp only [fkObj, show (Value.type "builtin_function_or_method" != Value.type "method") = true by decide, show (Value.type "builtin_function_or_method" == Value.type "builtin_function_or_method" || Value.type "builtin_function_or_method" == Value.type "method-wrapper") = true by decide, if_true]
  refine wpAny_pure ?_
  exact wpAny_bind (wpAny_mono hcall (fun r s₂ hr => wpAny_bind (wpAny_holding (wpAny_point (wpAny_pure hr)))) fun _ _ x => x)

/-- dict() -/
theorem new_dict {Q : Value → Shared → Prop} (h : Q (.ref s.heap.objs.size) { s with heap := s.heap.push { cls := .type "dict", data := .dict #[] } }) :
    wpAny (model prog w) A (call (.type "dict")) Q E s := by
  refine callType_codes (Q₁ := fun obj s₁ => obj = .ref s.heap.objs.size ∧ s₁ = { s with heap := s.heap.push { cls := .type "dict", data := .dict #[] } }) F.kt_called_dict typeCall_dict0 F.entry_dict_init ?_ ?_
  · refine codeAny_call_builtin F.kt_plain_dict_new F.kt_entry_dict_new (wpAny_of_eq newCall_dict0 ?_)
    have hsub := F.kt_sub_dict
    have hmro := F.kt_mro_dict
    obtain ⟨hp, g, d, tk, os⟩ := s
    unfold Builtin.«dict.__new__»
    wp_walk
    exact ⟨rfl, rfl⟩
  · rintro obj s₁ ⟨rfl, rfl⟩
    have ht : ({ s with heap := s.heap.push { cls := .type "dict", data := .dict #[] } } : Shared).TypeIs (.ref s.heap.objs.size) "dict" := ⟨_, Heap.get?_push_size _ rfl, rfl⟩
    refine ⟨ht, args_dict_init1 _, ?_⟩
    unfold Builtin.«dict.__init__»
    refine wpAny_bind ?_
    unfold Builtin.Dict.selfAndRest
    refine wpAny_bind (wpAny_notOrdered_dict ht ?_)
    show wpAny _ _ (pure (s.heap.objs.size, [])) _ _ _
    refine wpAny_pure ?_
    show wpAny _ _ (Builtin.Dict.updateCommon "dict.__init__" "dict" s.heap.objs.size [] []) _ _ _
    unfold Builtin.Dict.updateCommon
    refine wpAny_bind (wpAny_of_eq (a := ()) (by rfl) ?_)
    exact wpAny_pure ⟨rfl, h⟩

/-- the bound method, called with a list: a new dict, the list's iterator, then the loop -/
theorem call_fk {u l : Addr} {items : Array Value} {Q : Value → Shared → Prop} (ho : s.heap.get? u = some fkObj) (hl : s.heap.IsList l items)
    (h : ∀ d it s', Sm s s' → Ext s.heap s'.heap → s.heap.objs.size ≤ d → s.heap.get? it = none → s'.heap.get? d = some { cls := .type "dict", data := .dict #[] } → s'.heap.IsListIter it l 0 →
      codeAny (model prog w) A (.builtin "dict.fromkeys.loop" ⟨[.ref d, .ref it, .none], []⟩) (fun r s' => match r with | .ok (.ret v) => Q v s' | .ok _ => False | .error e => E e s') s') :
    wpAny (model prog w) A (call (.ref u) [.ref l]) Q E s := by
  refine wpAny_call (codeAny_of_tree ?_)
  show wpAny _ A.in1 (callAny (.ref u) ⟨[.ref l], []⟩) _ _ s
  simp only [callAny]
  refine wpAny_bind (wpAny_load ho ?_)
  simp only [fkObj, show (Value.type "builtin_function_or_method" == Value.type "method" || Value.type "builtin_function_or_method" == Value.type "builtin_function_or_method" || Value.type "builtin_function_or_method" == Value.type "method-wrapper") = true by decide, if_true]
  refine KFB.if_so (by decide) ?_
  refine wpAny_bind (wpAny_of_eq (a := ()) (by first | kernel_rfl | rfl) ?_)
  refine wpAny_bind (wpAny_pure (wpAny_pure ?_))
  refine ⟨quiet_fk, codeAny_builtin entry_fk ?_⟩
  unfold Builtin.«dict.fromkeys»
  refine wpAny_bind (wpAny_of_eq (a := true) isType_dict ?_)
  refine KFB.if_not rfl ?_
  refine wpAny_bind (wpAny_of_eq (a := true) F.kt_sub_dict ?_)
  refine KFB.if_not rfl ?_
  refine KFB.if_not rfl ?_
  refine wpAny_bind (wpAny_bind (wpAny_rule (wpAny_pure ?_)))
  refine wpAny_bind (wpAny_pure ?_)
  refine wpAny_bind (new_dict ?_)
  refine wpAny_holding ?_
  have hl' := hl.push { cls := .type "dict", data := .dict #[] }
  refine wpAny_bind (wpAny_typeOf (T := "list") hl'.typeIs ?_)
  refine wpAny_bind (wpAny_typeOf (T := "dict") ⟨_, Heap.get?_push_size _ rfl, rfl⟩ ?_)
  refine KFB.if_not (by decide) ?_
  refine wpAny_bind (wpAny_typeOf (T := "dict") ⟨_, Heap.get?_push_size _ rfl, rfl⟩ ?_)
  refine KFB.if_not (by decide) ?_
  refine wpAny_bind (iter_list hl' fun it s' sm e hn hit => wpAny_pure ⟨quiet_fkl, ?_⟩)
  have e1 : Ext s.heap s'.heap := (Ext.push _ _).trans e
  exact h _ it s' (Sm.trans (Sm.heap s _) sm) e1 (Nat.le_refl _) ((Ext.push _ _).fresh hn) (e _ _ (Heap.get?_push_size _ rfl)) hit
end
end Mine
end

section
open PySem PySem.W PyProof.Rows PySem.Calls
namespace Mine
section
variable {prog : Program} {w : World} {M : Model} {A : Around} {E : Value → Shared → Prop} {s : Shared} {K : Frag} {env : Env}
theorem lookup_list_hash : typeLookup (.type "list") "__hash__" = pure (some .none) := by rw [typeLookup_type, builtinLookup_eq_fast]; kernel_rfl
theorem hash_list {l : Addr} {items : Array Value} {Q : Int → Shared → Prop} (hh : A.handled = none) (hu : A.units < cLine) (hl : s.heap.IsList l items)
    (h : ∀ h' tk e, Heap.NewExc s.heap h' e "TypeError" → E (.ref e) { s with heap := h', toks := tk }) : wpAny M A (pyHash (.ref l)) Q E s := by
  show wpAny M A (pyHashByItsType (.ref l)) Q E s
  unfold pyHashByItsType
  refine wpAny_bind (wpAny_cRoomFor hu ?_)
  refine wpAny_bind (wpAny_specialOf hl.typeIs lookup_list_hash ?_)
  refine KFB.if_so (by decide) ?_
  refine wpAny_bind (wpAny_rule (wpAny_bind (wpAny_typeNameOf' hl.typeIs (by decide) (wpAny_bind ?_))))
  refine wpAny_raiseTypeError hh h ?_
  decide +kernel

/-- the keys are lists: the first one raises -/
theorem fkl_raise {d it l a : Addr} {items : Array Value} {its : Array Value} {R : Result → Shared → Prop} {es : Array DictEntry} {n : Nat} (hh : A.handled = none) (hu : A.units + 2 < cLine)
    (hd : s.heap.get? d = some { cls := .type "dict", data := .dict es n }) (hit : s.heap.IsListIter it l 0) (hl : s.heap.IsList l items) (h0 : items[0]? = some (.ref a)) (ha : s.heap.IsList a its)
    (h : ∀ e s', Sm s s' → Heap.ExtBut it s.heap s'.heap → s.heap.get? e = none → (∃ ob t, s'.heap.get? e = some ob ∧ ob.cls = .type "TypeError" ∧ ob.data = .fields #[t, .none, .none, .none, .bool false, .none]) → R (.error (.ref e)) s') :
    codeAny (model prog w) A (.builtin "dict.fromkeys.loop" ⟨[.ref d, .ref it, .none], []⟩) R s := by
  refine codeAny_builtin entry_fkl ?_
  have hA : A.under (.builtin "dict.fromkeys.loop" ⟨[.ref d, .ref it, .none], []⟩) = A.in1 := Around.under_plainId (by decide +kernel) _
  rw [hA]
  unfold Builtin.«dict.fromkeys.loop»
  refine wpAny_bind (wpAny_pyNext_list_item hit hl h0 fun h' hit' hs => ?_)
  have hdi : d ≠ it := by
    rintro rfl
    obtain ⟨o, ho, _, hdd⟩ := hit
    rw [hd] at ho; cases ho; cases hdd
  have hd' : h'.get? d = some { cls := .type "dict", data := .dict es n } := hs.extBut _ _ hdi hd
  refine wpAny_bind (wpAny_typeOf (T := "dict") ⟨_, hd', rfl⟩ ?_)
  refine KFB.if_so (by decide) ?_
  refine wpAny_bind (wpAny_pure (wpAny_bind ?_))
  refine wpAny_holding ?_
  unfold dictSet
  refine wpAny_holding (wpAny_bind (hash_list (by exact hh) (by show A.units + 1 < cLine; omega) (ha.extBut hs.extBut (Ne.symm (iter_ne_list hit ha))) ?_))
  intro h'' tk e x
  refine h e _ ⟨h'', tk, rfl⟩ (fun b o hb q => x.keeps _ _ (hs.extBut b o hb q)) ?_ x.there
  cases q : s.heap.get? e with
  | none => rfl
  | some o =>
    by_cases hb : e = it
    · subst hb
      obtain ⟨o', ho', _⟩ := hit'
      have := x.new
      dsimp only at this
      rw [ho'] at this; cases this
    · have := hs.extBut e o hb q
      have z := x.new
      dsimp only at z
      rw [this] at z; cases z
end
end Mine
end

section
open PySem PySem.W PyProof.Rows PySem.Calls
namespace Mine
/-- a dict by its entries, whatever its keys are -/
def RawD (h : Heap) (d : Addr) (es : Array DictEntry) (ep : Nat) : Prop := ∃ o, h.get? d = some o ∧ o.cls = .type "dict" ∧ o.data = .dict es ep
section
variable {prog : Program} {w : World} {A : Around} {E : Value → Shared → Prop} {s : Shared} {d it : Addr} {es : Array DictEntry} {ep i : Nat}
theorem RawD.typeIs (x : RawD s.heap d es ep) : s.TypeIs (.ref d) "dict" := let ⟨o, h1, h2, _⟩ := x; ⟨o, h1, h2⟩
theorem RawD.at {h h' : Heap} (x : RawD h d es ep) (k : ∀ o, h.get? d = some o → h'.get? d = some o) : RawD h' d es ep := let ⟨o, h1, r⟩ := x; ⟨o, k o h1, r⟩
theorem raw_iter {Q : Value → Shared → Prop} (hd : (d == sysModules) = false) (hm : RawD s.heap d es ep)
    (hQ : Q (.ref s.heap.objs.size) { s with heap := s.heap.push { cls := .type "dict_keyiterator", data := .fields #[.ref d, .int 0 0, .int es.size 0, .int ep 0] } }) :
    wpAny (model prog w) A (pyIter (.ref d)) Q E s := by
  obtain ⟨o, ho, hc, hdat⟩ := id hm
  have hT : s.TypeIs (.ref d) "dict" := hm.typeIs
  refine wpAny_pyIter_slot hT F.slot_dict_iter (wpAny_call_entry F.slot_dict_iter hT F.entry_dict_iter ?_ (F.args_dict_iter_1 _))
  unfold Builtin.«dict.__iter__»
  refine wpAny_bind ?_
  unfold Builtin.Dict.dictSlotNone
  refine wpAny_bind (wpAny_notOrdered_dict hT ?_)
  show wpAny _ _ (pure (Value.ref d)) _ _ s
  refine wpAny_pure ?_
  show wpAny _ _ (Builtin.Dict.showsAll d >>= _) _ _ s
  unfold Builtin.Dict.showsAll
  rw [if_neg (by rw [hd]; exact Bool.false_ne_true)]
  refine wpAny_bind (wpAny_pure ?_)
  refine wpAny_bind (wpAny_dictEntries ho hdat ?_)
  refine wpAny_bind (wpAny_dictEpoch ho hdat ?_)
  refine wpAny_bind (wpAny_newObj_type (wpAny_pure ⟨_, rfl, "dict_keyiterator", _, ⟨_, Heap.get?_push_size _ rfl, rfl⟩, F.slot_dict_keyiterator_next.lookup, ?_⟩))
  simpa [rawInt] using hQ
theorem raw_next {Q : Option Value → Shared → Prop} (hit : s.heap.IsKeyIter it d i es.size ep) (hm : RawD s.heap d es ep) (hlt' : i < es.size)
    (hQ : ∀ h', h'.IsKeyIter it d (i + 1) es.size ep → Heap.SameBut it s.heap h' → Q (some es[i].key) { s with heap := h' }) :
    wpAny (model prog w) A (pyNext (.ref it)) Q E s := by
  obtain ⟨o, ho, hc, hd⟩ := id hit
  obtain ⟨od, hod, hcd, hdd⟩ := id hm
  unfold pyNext
  refine wpAny_bind (wpAny_attempt (wpAny_callSpecial?_slot (name := Str.ofString "__next__") hit.typeIs F.slot_dict_keyiterator_next
    (wpAny_call_entry F.slot_dict_keyiterator_next hit.typeIs F.entry_dict_keyiterator_next ?_ (F.args_dict_keyiterator_next_1 _))))
  refine wpAny_bind (wpAny_pure ?_)
  refine wpAny_bind ?_
  refine wpAny_bind ?_
  first | refine wpAny_bind (wpAny_typeNameOfWhole_keyiter hit.typeIs (wpAny_pure ?_)) | refine wpAny_bind (wpAny_typeNameOf_keyiter hit.typeIs (wpAny_pure ?_))
  refine wpAny_bind (wpAny_fieldsOf ho hd ?_)
  have hown : Builtin.Dict_items.ownsTuple "dict_keyiterator" = false := by decide
  simp only [hown, Bool.false_eq_true, if_false]
  show wpAny _ _ (if (Value.ref d == Value.none) = true then _ else _) _ _ s
  rw [if_neg (show ¬ ((Value.ref d == Value.none) = true) from Bool.false_ne_true)]
  refine wpAny_bind (wpAny_pure ?_)
  refine wpAny_bind (wpAny_dictEntries hod hdd ?_)
  rw [if_neg (by simp)]
  refine wpAny_bind (wpAny_pure ?_)
  refine wpAny_bind (wpAny_dictEpoch hod hdd ?_)
  rw [if_neg (by simp)]
  refine wpAny_pure ?_
  simp only [show ¬ ((i : Int) < 0) from by omega, if_false, Int.toNat_natCast, Array.getElem?_eq_getElem hlt']
  refine wpAny_bind ?_
  first | refine wpAny_bind (wpAny_typeNameOfWhole_keyiter hit.typeIs (wpAny_pure ?_)) | refine wpAny_bind (wpAny_typeNameOf_keyiter hit.typeIs (wpAny_pure ?_))
  refine wpAny_bind (wpAny_isOneOf_keyiter hit.typeIs ?_)
  show wpAny _ _ (setField (.ref it) 1 (rawInt ((i : Int) + 1)) >>= _) _ _ s
  refine wpAny_bind (wpAny_setField ho hd (by simp) ?_)
  have hit' : (s.heap.update it (Obj.mapFields (·.setIfInBounds 1 (rawInt ((i : Int) + 1))))).IsKeyIter it d (i + 1) es.size ep :=
    ⟨_, Heap.get?_update_self _ ho (Obj.isFreed_of_fields (Obj.data_mapFields hd _)), (Obj.cls_mapFields ..).trans hc, by rw [Obj.data_mapFields hd]; simp [rawInt]⟩
  refine wpAny_bind (wpAny_holding ?_)
  refine wpAny_bind (wpAny_isOneOf_keyiter (s := { s with heap := s.heap.update it (Obj.mapFields (·.setIfInBounds 1 (rawInt ((i : Int) + 1)))) }) hit'.typeIs ?_)
  show wpAny _ _ (pure es[i].key) _ _ _
  exact wpAny_pure (wpAny_pure ⟨_, rfl, wpAny_pure (hQ _ hit' (Heap.SameBut.update ..))⟩)
theorem raw_end {Q : Option Value → Shared → Prop} (hh : A.handled = none) (hit : s.heap.IsKeyIter it d i es.size ep) (hm : RawD s.heap d es ep) (hge : es.size ≤ i)
    (hQ : ∀ h', Heap.ExtBut it s.heap h' → Q none { s with heap := h' }) : wpAny (model prog w) A (pyNext (.ref it)) Q E s := by
  obtain ⟨o, ho, hc, hd⟩ := id hit
  obtain ⟨od, hod, hcd, hdd⟩ := id hm
  unfold pyNext
  refine wpAny_bind (wpAny_attempt (wpAny_callSpecial?_slot (name := Str.ofString "__next__") hit.typeIs F.slot_dict_keyiterator_next
    (wpAny_call_entry F.slot_dict_keyiterator_next hit.typeIs F.entry_dict_keyiterator_next ?_ (F.args_dict_keyiterator_next_1 _))))
  refine wpAny_bind (wpAny_pure ?_)
  refine wpAny_bind ?_
  refine wpAny_bind ?_
  first | refine wpAny_bind (wpAny_typeNameOfWhole_keyiter hit.typeIs (wpAny_pure ?_)) | refine wpAny_bind (wpAny_typeNameOf_keyiter hit.typeIs (wpAny_pure ?_))
  refine wpAny_bind (wpAny_fieldsOf ho hd ?_)
  have hown : Builtin.Dict_items.ownsTuple "dict_keyiterator" = false := by decide
  simp only [hown, Bool.false_eq_true, if_false]
  show wpAny _ _ (if (Value.ref d == Value.none) = true then _ else _) _ _ s
  rw [if_neg (show ¬ ((Value.ref d == Value.none) = true) from Bool.false_ne_true)]
  refine wpAny_bind (wpAny_pure ?_)
  refine wpAny_bind (wpAny_dictEntries hod hdd ?_)
  rw [if_neg (by simp)]
  refine wpAny_bind (wpAny_pure ?_)
  refine wpAny_bind (wpAny_dictEpoch hod hdd ?_)
  rw [if_neg (by simp)]
  refine wpAny_pure ?_
  simp only [show ¬ ((i : Int) < 0) from by omega, if_false, Int.toNat_natCast, Array.getElem?_eq_none hge]
  refine wpAny_bind ?_
  first | refine wpAny_bind (wpAny_typeNameOfWhole_keyiter hit.typeIs (wpAny_pure ?_)) | refine wpAny_bind (wpAny_typeNameOf_keyiter hit.typeIs (wpAny_pure ?_))
  show wpAny _ _ (setField (.ref it) 0 .none >>= _) _ _ s
  refine wpAny_bind (wpAny_setField ho hd (by simp) ?_)
  show wpAny _ _ (newExc (.type "StopIteration") [] >>= _) _ _ _
  refine wpAny_bind ?_
  simp only [newExc, newTuple]
  refine wpAny_bind (wpAny_newObj_type ?_ (by size_fits))
  refine wpAny_bind (m := firstArgMember _ _) (wpAny_of_eq (a := Value.none) (by first | rfl | (simp only [firstArgMember]; rfl)) ?_)
  refine wpAny_newObj_type ?_ (by size_fits)
  simp only [raiseNew]
  refine wpAny_bind (wpAny_handled ?_)
  rw [show A.in1.handled = none from hh]
  refine wpAny_bind (wpAny_pure (wpAny_throw ?_))
  refine wpAny_bind (wpAny_isInstance (T := "StopIteration") (b := true) ⟨_, Heap.get?_push_size _ rfl, rfl⟩ isSubtype_stop ?_)
  exact wpAny_pure (hQ _ (((Heap.SameBut.update ..).extBut.push _).push _))
theorem raw_walks (hh : A.handled = none) (I : Addr) (hne : d ≠ I) :
    Walks prog w A I [I, d] [I] es.size (fun i v => (es.toList.map (·.key))[i]? = some v) (fun i h => h.IsKeyIter I d i es.size ep ∧ RawD h d es ep) where
  sub := fun b hb => by simp at hb; simp [hb]
  frame := fun _ _ _ st hk => ⟨st.1.at fun o e => hk I (by simp) o e, st.2.at fun o e => hk d (by simp) o e⟩
  item := fun i s Q E hi st hQ => by
    refine raw_next st.1 st.2 hi fun h' hit' hs' => ?_
    exact hQ _ h' s.toks (by simp [hi]) ⟨hit', st.2.at fun o e => hs'.extBut _ _ hne e⟩ fun b o hb e => hs'.extBut b o (fun h => hb (by simp [h])) e
  done := fun s Q E st hQ => raw_end hh st.1 st.2 (Nat.le_refl _) fun h' he' => hQ h' s.toks fun b o hb e => he' b o (fun h => hb (by simp [h])) e
  self := fun _ _ _ _ st hQ => wpAny_pyIter_keyiter st.1 hQ
theorem raw_src (lo : (d == sysModules) = false) : KdlSrc prog w "dict" d d es.size (fun i v => (es.toList.map (·.key))[i]? = some v) (fun h => RawD h d es ep) where
  type := fun _ hm => hm.typeIs
  there := fun _ hm => let ⟨_, h1, _⟩ := hm; ⟨Heap.lt_size h1, Heap.lt_size h1⟩
  keep := fun _ _ hm hk => hm.at fun o e => hk d (.inl rfl) o e
  notList := by decide
  notTuple := by decide
  hint := fun _ _ _ _ hm hq => kdl_hint_dict hm.typeIs hq
  iter := fun _ _ hh hm => ⟨_, _, (fun _ _ hq => raw_iter lo hm hq), raw_walks hh _ (Nat.ne_of_lt (let ⟨_, h1, _⟩ := hm; Heap.lt_size h1)), ⟨⟨_, Heap.get?_push_size _ rfl, rfl, rfl⟩, hm.at fun o e => Heap.get?_push_of_some _ e⟩⟩
/-- list(d): the keys -/
theorem list_of_dict {Q : Value → Shared → Prop} (hh : A.handled = none) (lo : (d == sysModules) = false) (hm : RawD s.heap d es ep) (hn : es.size ≤ 1000000)
    (hQ : ∀ l s', Sm s s' → Ext s.heap s'.heap → s.heap.get? l = none → DL s'.heap l (es.toList.map (·.key)) → Q (.ref l) s') :
    wpAny (model prog w) A (call (.type "list") [.ref d]) Q E s := by
  refine kdl_call (raw_src lo) hh hm (by rw [sizeLine_eq]; omega) fun h' tk acc' c' hk hS hI => ?_
  refine hQ _ _ ⟨h', tk, rfl⟩ hk (push_none _) ⟨_, c', hS, rfl, rfl, ?_⟩
  have : acc'.toList = es.toList.map (·.key) := by
    apply List.ext_getElem?
    intro j
    cases q : acc'[j]? with
    | some v =>
      have := hI.2 j v q
      rw [this]; simpa using q
    | none =>
      have h1 : acc'.size ≤ j := by simpa using q
      rw [hI.1] at h1
      rw [List.getElem?_eq_none (by rw [Array.length_toList, hI.1]; exact h1), List.getElem?_eq_none (by simpa using h1)]
  rw [← this]
end
end Mine
end

section
open PySem PySem.W PyProof.Rows PySem.Calls
namespace Mine
/-- without doubles, the first of equal ones stays -/
def ddG {α : Type} [DecidableEq α] (xs : List α) : List α := xs.foldl (fun acc x => if x ∈ acc then acc else acc ++ [x]) []
theorem ddG_take {α : Type} [DecidableEq α] {xs : List α} {i : Nat} {x : α} (h : xs[i]? = some x) : ddG (xs.take (i + 1)) = if x ∈ ddG (xs.take i) then ddG (xs.take i) else ddG (xs.take i) ++ [x] := by
  unfold ddG
  rw [List.take_add_one, h, List.foldl_append]; rfl
theorem ddG_len {α : Type} [DecidableEq α] (xs : List α) : (ddG xs).length ≤ xs.length := by
  suffices ∀ (xs acc : List α), (xs.foldl (fun acc x => if x ∈ acc then acc else acc ++ [x]) acc).length ≤ acc.length + xs.length by simpa [ddG] using this xs []
  intro xs
  induction xs with
  | nil => intro acc; simp
  | cons x xs ih =>
    intro acc
    have h1 := ih (if x ∈ acc then acc else acc ++ [x])
    have h2 : (if x ∈ acc then acc else acc ++ [x]).length ≤ acc.length + 1 := by split <;> simp
    simp only [List.foldl_cons, List.length_cons]; omega

section
variable {prog : Program} {w : World} {A : Around} {E : Value → Shared → Prop} {s : Shared} {d it l : Addr}

theorem isInt_inv {k : Int} {v : Value} (h : (intKind prog w).is k v = true) : ∃ t, v = .int k t := Value.isInt_shape h

theorem ints_keys {es : List DictEntry} {kvs : List (Int × Value)} (h : Pairs (intKind prog w) es kvs) : ∀ hh : Heap, RdAll hh (es.map (·.key)) (kvs.map fun kv => PyData.int kv.1) := by
  intro hh
  induction h with
  | nil => exact RdAll.nil
  | cons h1 h2 _ ih =>
    obtain ⟨t, e⟩ := isInt_inv h1
    simp only [List.map_cons]
    rw [e]
    exact RdAll.cons (Rd.int _ _) ih

/-- dict.fromkeys' loop: I i s is what holds before key i -/
theorem fkl_loop {R : Result → Shared → Prop} {vs : List Value} (hh : A.handled = none) (I : Nat → Shared → Prop)
    (hI : ∀ i s', I i s' → s'.heap.IsListIter it l i ∧ s'.heap.IsList l vs.toArray ∧ ∃ es ep, RawD s'.heap d es ep)
    (turn : ∀ i v s' s'', I i s' → vs[i]? = some v → Sm s' s'' → s''.heap.IsListIter it l (i + 1) → Heap.SameBut it s'.heap s''.heap → wpAny (model prog w) A.in1 (dictSet d v .none) (fun _ s₃ => I (i + 1) s₃) (fun e s' => R (.error e) s') s'')
    (done : ∀ s' s'', I vs.length s' → Sm s' s'' → Heap.ExtBut it s'.heap s''.heap → R (.ok (.ret (.ref d))) s'') :
    ∀ (k i : Nat) (s' : Shared), k = vs.length - i → i ≤ vs.length → I i s' → codeAny (model prog w) A (.builtin "dict.fromkeys.loop" ⟨[.ref d, .ref it, .none], []⟩) R s' := by
  have hA : A.under (.builtin "dict.fromkeys.loop" ⟨[.ref d, .ref it, .none], []⟩) = A.in1 := Around.under_plainId (by decide +kernel) _
  intro k
  induction k with
  | zero =>
    intro i s' hk hi h
    have hi' : i = vs.length := by omega
    subst hi'
    obtain ⟨h1, h2, es, ep, h3⟩ := hI _ _ h
    refine codeAny_builtin entry_fkl ?_
    rw [hA]
    unfold Builtin.«dict.fromkeys.loop»
    refine wpAny_bind (nx_end (.inl hh) h1 h2 (by simp) fun s'' sm he => ?_)
    exact wpAny_pure (done s' s'' h sm he)
  | succ k ih =>
    intro i s' hk hi h
    have hlt : i < vs.length := by omega
    obtain ⟨h1, h2, es, ep, h3⟩ := hI _ _ h
    refine codeAny_builtin entry_fkl ?_
    rw [hA]
    unfold Builtin.«dict.fromkeys.loop»
    refine wpAny_bind (wpAny_pyNext_list_item h1 h2 (x := vs[i]) (by simp [hlt]) fun h' hit' hs => ?_)
    have hdi : d ≠ it := by
      rintro rfl
      obtain ⟨o, ho, _, hdd⟩ := h1
      obtain ⟨o', ho', _, hdd'⟩ := h3
      rw [ho] at ho'; cases ho'; rw [hdd] at hdd'; cases hdd'
    have h3' : RawD h' d es ep := h3.at fun o e => hs.extBut _ _ hdi e
    refine wpAny_bind (wpAny_typeOf (T := "dict") (RawD.typeIs (s := { s' with heap := h' }) h3') ?_)
    refine KFB.if_so (by decide) ?_
    refine wpAny_bind (wpAny_pure (wpAny_bind ?_))
    refine wpAny_holding ?_
    refine wpAny_mono (turn i vs[i] s' _ h (by simp [hlt]) (Sm.heap s' h') hit' hs) (fun _ s₃ h₃ => ?_) fun _ _ e => e
    exact wpAny_pure ⟨quiet_fkl, ih (i + 1) s₃ (by omega) hlt h₃⟩

theorem stored_none {kvs : List Int} {k : Int} : stored (kvs.map fun k => (k, Value.none)) k .none = ((if k ∈ kvs then kvs else kvs ++ [k]).map fun k => (k, Value.none)) := by
  unfold stored
  by_cases h : k ∈ kvs
  · rw [if_pos h, if_pos (by simpa using h)]
    simp only [List.map_map]
    refine List.map_congr_left fun x _ => ?_
    simp
  · rw [if_neg h, if_neg (by simpa using h)]
    simp

/-- dict.fromkeys' loop over ints -/
theorem fkl_ints {R : Result → Shared → Prop} {vs : List Value} {ns : List Int} (hI : IntsAre vs ns) (hlen : ns.length ≤ 100000) (hh : A.handled = none) (hL : s.heap.IsList l vs.toArray)
    (hR : ∀ s' es ep, Sm s s' → (∀ b o, b ≠ it → b ≠ d → s.heap.get? b = some o → s'.heap.get? b = some o) → RawD s'.heap d es ep → (∀ hh, RdAll hh (es.toList.map (·.key)) ((ddG ns).map .int)) → R (.ok (.ret (.ref d))) s')
    (hit : s.heap.IsListIter it l 0) (hd : s.heap.get? d = some { cls := .type "dict", data := .dict #[] }) :
    codeAny (model prog w) A (.builtin "dict.fromkeys.loop" ⟨[.ref d, .ref it, .none], []⟩) R s := by
  have hdl : l ≠ d := by
    rintro rfl
    obtain ⟨o', h1', h2', n, h3'⟩ := hL
    rw [hd] at h1'; cases h1'; cases h3'
  have hdi : it ≠ d := by
    rintro rfl
    obtain ⟨o', h1', h2', h3'⟩ := hit
    rw [hd] at h1'; cases h1'; cases h3'
  have hil : l ≠ it := Ne.symm (iter_ne_list hit hL)
  have hvn : vs.length = ns.length := IntsAre.length hI
  refine fkl_loop (vs := vs) (l := l) hh (fun i s' => Sm s s' ∧ (∀ b o, b ≠ it → b ≠ d → s.heap.get? b = some o → s'.heap.get? b = some o) ∧ s'.heap.IsListIter it l i ∧ s'.heap.DictOf (intKind prog w) d ((ddG (ns.take i)).map fun k => (k, Value.none))) ?_ ?_ ?_ vs.length 0 s rfl (Nat.zero_le _)
    ⟨Sm.refl s, fun _ _ _ _ e => e, hit, ⟨_, #[], 0, hd, ⟨rfl, rfl, rfl⟩, rfl, fun _ he => by simp at he, .nil, by simp [ddG]⟩⟩
  · rintro i s' ⟨h1, h2, h3, o, es, ep, g1, g2, g3, _⟩
    exact ⟨h3, hL.at fun o e => h2 l o hil hdl e, es, ep, o, g1, g2.1, g3⟩
  · rintro i v s' s'' ⟨h1, h2, h3, h4⟩ hv sm hit'' hs
    obtain ⟨k, hk, t, rfl⟩ : ∃ k, ns[i]? = some k ∧ ∃ t, v = .int k t := by
      clear hL hR hlen hvn h1 h2 h3 h4 hit''
      induction hI generalizing i with
      | nil => simp at hv
      | cons n t _ ih =>
        cases i with
        | zero => simp at hv; exact ⟨n, rfl, t, hv.symm⟩
        | succ i => simp at hv; simpa using ih i hv
    have hz : ((ddG (ns.take i)).map fun k => (k, Value.none)).length ≤ sizeLine := by
      have := ddG_len (ns.take i)
      have : (ns.take i).length ≤ ns.length := List.length_take_le' _ _
      rw [sizeLine_eq, List.length_map]; omega
    refine wpAny_dictSet_pairs (hsz := hz) (intKind_is prog w k t) (h4.extBut hs.extBut (Ne.symm hdi)) fun h' hd' hs' => ?_
    refine ⟨h1.trans (sm.trans ⟨h', _, rfl⟩), fun b o hb hb' e => hs'.extBut b o hb' (hs.extBut b o hb (h2 b o hb hb' e)), hit''.extBut hs'.extBut hdi, ?_⟩
    rw [stored_none] at hd'
    rw [ddG_take hk]
    exact hd'
  · rintro s' s'' ⟨h1, h2, h3, h4⟩ sm he
    rw [hvn, List.take_length] at h4
    obtain ⟨o, es, ep, g1, g2, g3, g4, g5, g6⟩ := h4
    refine hR s'' es ep (h1.trans sm) (fun b o hb hb' e => he b o hb (h2 b o hb hb' e)) ⟨o, he _ _ (Ne.symm hdi) g1, g2.1, g3⟩ fun hh => ?_
    have := ints_keys g5 hh
    rw [List.map_map] at this
    exact this

theorem tup_key {g h : Heap} {a : Addr} {k : List Int} (e : Ext g h) (r : Rd g (.ref a) (.tuple (k.map .int))) : (tupleKind (intKind prog w)).is h k a := by
  obtain ⟨a', vs, q, ht, rs⟩ := r.tuple_inv
  cases q
  obtain ⟨o, h1, h2, n, h3⟩ := ht
  refine ⟨o, vs.toArray, n, e _ _ h1, h2, h3, ?_⟩
  show ItemsAre (intKind prog w) k vs
  clear h3 r
  induction k generalizing vs with
  | nil => cases vs with
    | nil => exact .nil
    | cons v vs => have := rs.length; simp at this
  | cons x k ih => cases vs with
    | nil => have := rs.length; simp at this
    | cons v vs =>
      obtain ⟨r1, r2⟩ := rs.cons_inv
      obtain ⟨t, rfl⟩ := r1.int_inv
      exact .cons (intKind_is prog w x t) (ih vs r2)
theorem atKey_mem {xs : List (List Int × Addr × Value)} {k : List Int} : (atKey xs k).isSome = decide (k ∈ xs.map (·.1)) := by
  unfold atKey
  rw [Option.isSome_map, Bool.eq_iff_iff, List.find?_isSome]
  simp
theorem putAt_none {xs : List (List Int × Addr × Value)} {k : List Int} (h : ∀ x ∈ xs, x.2.2 = Value.none) : xs.map (putAt k .none) = xs := by
  refine (List.map_congr_left fun x hx => ?_).trans (List.map_id xs)
  unfold putAt
  split
  · obtain ⟨a, b, c⟩ := x
    have := h _ hx
    simp only at this
    subst this; rfl
  · rfl
theorem rdAll_map {g : Heap} {α : Type} {f : α → Value} {p : α → PyData} : ∀ {xs : List α}, (∀ x ∈ xs, Rd g (f x) (p x)) → RdAll g (xs.map f) (xs.map p)
  | [], _ => RdAll.nil
  | x :: xs, h => RdAll.cons (h x (.head _)) (rdAll_map fun y hy => h y (.tail _ hy))

/-- dict.fromkeys' loop over tuples of ints -/
theorem fkl_tups {R : Result → Shared → Prop} {vs : List Value} {rows : List (List Int)} (hlen : rows.length ≤ 100000) (hh : A.handled = none) (hu : A.units + 2 < cLine) (hL : s.heap.IsList l vs.toArray)
    {g : Heap} (hg : Ext g s.heap) (hgi : g.get? it = none) (hgd : g.get? d = none) (hT : RdAll g vs (rows.map fun r => .tuple (r.map .int)))
    (hR : ∀ s' es ep, Sm s s' → (∀ b o, b ≠ it → b ≠ d → s.heap.get? b = some o → s'.heap.get? b = some o) → RawD s'.heap d es ep → RdAll g (es.toList.map (·.key)) ((ddG rows).map fun r => .tuple (r.map .int)) → R (.ok (.ret (.ref d))) s')
    (hit : s.heap.IsListIter it l 0) (hd : s.heap.get? d = some { cls := .type "dict", data := .dict #[] }) :
    codeAny (model prog w) A (.builtin "dict.fromkeys.loop" ⟨[.ref d, .ref it, .none], []⟩) R s := by
  have hdl : l ≠ d := by
    rintro rfl
    obtain ⟨o', h1', h2', n, h3'⟩ := hL
    rw [hd] at h1'; cases h1'; cases h3'
  have hdi : it ≠ d := by
    rintro rfl
    obtain ⟨o', h1', h2', h3'⟩ := hit
    rw [hd] at h1'; cases h1'; cases h3'
  have hil : l ≠ it := Ne.symm (iter_ne_list hit hL)
  have hvn : vs.length = rows.length := by rw [hT.length, List.length_map]
  have eg : ∀ s' : Shared, (∀ b o, b ≠ it → b ≠ d → s.heap.get? b = some o → s'.heap.get? b = some o) → Ext g s'.heap := fun s' k b o e => k b o (fun q => by rw [q, hgi] at e; cases e) (fun q => by rw [q, hgd] at e; cases e) (hg b o e)
  refine fkl_loop (vs := vs) (l := l) hh (fun i s' => Sm s s' ∧ (∀ b o, b ≠ it → b ≠ d → s.heap.get? b = some o → s'.heap.get? b = some o) ∧ s'.heap.IsListIter it l i ∧
      ∃ xs, s'.heap.DictOfH (tupleKind (intKind prog w)) d xs ∧ xs.map (·.1) = ddG (rows.take i) ∧ (∀ x ∈ xs, x.2.2 = Value.none) ∧ ∀ x ∈ xs, Rd g (.ref x.2.1) (.tuple (x.1.map .int))) ?_ ?_ ?_ vs.length 0 s rfl (Nat.zero_le _)
    ⟨Sm.refl s, fun _ _ _ _ e => e, hit, [], ⟨_, #[], 0, hd, ⟨rfl, rfl, rfl⟩, rfl, rfl, fun _ hx => (nomatch hx), List.nodup_nil⟩, by simp [ddG], fun _ hx => (nomatch hx), fun _ hx => (nomatch hx)⟩
  · rintro i s' ⟨h1, h2, h3, xs, ⟨o, es, ep, g1, g2, g3, _⟩, _⟩
    exact ⟨h3, hL.at fun o e => h2 l o hil hdl e, es, ep, o, g1, g2.1, g3⟩
  · rintro i v s' s'' ⟨h1, h2, h3, xs, h4, h5, h6, h7⟩ hv sm hit'' hs
    have h2'' : ∀ b o, b ≠ it → b ≠ d → s.heap.get? b = some o → s''.heap.get? b = some o := fun b o hb hb' e => hs.extBut b o hb (h2 b o hb hb' e)
    obtain ⟨dt, hdt, hr⟩ := hT.get hv
    rw [List.getElem?_map] at hdt
    obtain ⟨k, hk, rfl⟩ := Option.map_eq_some_iff.mp hdt
    obtain ⟨a, ws, rfl, _⟩ := hr.tuple_inv
    have hz : xs.length ≤ sizeLine := by
      have q1 : xs.length = (ddG (rows.take i)).length := by rw [← h5, List.length_map]
      have := ddG_len (rows.take i)
      have : (rows.take i).length ≤ rows.length := List.length_take_le' _ _
      rw [sizeLine_eq]; omega
    have hm' : s''.heap.DictOfH (tupleKind (intKind prog w)) d xs := by
      obtain ⟨o, es, ep, g1, g2, g3, g4, g5, g6⟩ := h4
      exact ⟨o, es, ep, hs.extBut _ _ (Ne.symm hdi) g1, g2, g3, g4, fun x hx => tup_key (eg s'' h2'') (h7 x hx), g6⟩
    refine wpAny_dictSet_heap (hsz := hz) (knd := tupleKind (intKind prog w)) (tupleKind_room_in1 (by omega)) (tup_key (eg s'' h2'') hr) hm' fun h' hd' hs' => ?_
    refine ⟨h1.trans (sm.trans ⟨h', _, rfl⟩), fun b o hb hb' e => hs'.extBut b o hb' (h2'' b o hb hb' e), hit''.extBut hs'.extBut hdi, _, hd', ?_, ?_, ?_⟩
    · unfold storedH
      rw [atKey_mem, h5, ddG_take hk]
      by_cases hc : k ∈ ddG (rows.take i)
      · rw [if_pos hc, if_pos (by simpa using hc), putAt_none h6, h5]
      · rw [if_neg hc, if_neg (by simpa using hc)]; simp [h5]
    · unfold storedH
      split
      · rw [putAt_none h6]; exact h6
      · intro x hx
        rcases List.mem_append.mp hx with hx | hx
        · exact h6 x hx
        · rw [List.mem_singleton.mp hx]
    · unfold storedH
      split
      · rw [putAt_none h6]; exact h7
      · intro x hx
        rcases List.mem_append.mp hx with hx | hx
        · exact h7 x hx
        · rw [List.mem_singleton.mp hx]; exact hr
  · rintro s' s'' ⟨h1, h2, h3, xs, h4, h5, h6, h7⟩ sm he
    rw [hvn, List.take_length] at h5
    obtain ⟨o, es, ep, g1, g2, g3, g4, g5, g6⟩ := h4
    refine hR s'' es ep (h1.trans sm) (fun b o hb hb' e => he b o hb (h2 b o hb hb' e)) ⟨o, he _ _ (Ne.symm hdi) g1, g2.1, g3⟩ ?_
    rw [g4, List.map_map, ← h5, List.map_map]
    exact rdAll_map h7
end
end Mine
end

section
open PySem PySem.W PyProof.Rows PySem.Calls
namespace Mine
/-- what a raise does to what stands: frames are marked, the exception e gets its entry -/
structure Mk (e : Addr) (fr : List Addr) (h h' : Heap) : Prop where
  same : ∀ b o, b ≠ e → b ∉ fr → h.get? b = some o → h'.get? b = some o
  slot : ∀ b o, b ≠ e → h.get? b = some o → ∃ sl, h'.get? b = some { o with slots := sl }
theorem Mk.trans {e : Addr} {fr : List Addr} {a b c : Heap} (x : Mk e fr a b) (y : Mk e fr b c) : Mk e fr a c :=
  ⟨fun d o h1 h2 q => y.same d o h1 h2 (x.same d o h1 h2 q), fun d o h1 q => by
    obtain ⟨sl, q'⟩ := x.slot d o h1 q
    obtain ⟨sl', q''⟩ := y.slot d _ h1 q'
    exact ⟨sl', q''⟩⟩
/-- an exception with its entry tb -/
def Tb (h : Heap) (e : Addr) (cls : Value) (t : Value) (tb : Addr) (fl : Value) : Prop :=
  ∃ ob ot ts, h.get? e = some ob ∧ ob.cls = cls ∧ ob.data = .fields #[t, .ref tb, .none, .none, .bool false, .none] ∧ tb ≠ e ∧ h.get? tb = some ot ∧ ot.data = .fields ts ∧ 3 < ts.size ∧ ts[3]? = some fl
section
variable {prog : Program} {w : World} {M : Model} {A : Around} {E : Value → Shared → Prop} {s : Shared} {env : Env} {outer : List Env} {L e tb : Addr} {g : Heap} {cls t : Value}

theorem note_new {Q : Unit → Shared → Prop} {oe : Obj} (hfr : A.frames = some (env :: outer)) (hl : s.heap.FunFrames g (env :: outer)) (hf : env.frame = some L)
    (he : s.heap.get? e = some oe) (hc : oe.cls = cls) (hd : oe.data = .fields #[t, .none, .none, .none, .bool false, .none])
    (h : ∀ s' tb, Sm s s' → s.heap.get? tb = none → Mk e ((env :: outer).filterMap (·.frame)) s.heap s'.heap → Tb s'.heap e cls t tb (rawInt L) → Q () s') : wpAny M A (noteFrame (.ref e) env) Q E s := by
  have hene : e ∉ (env :: outer).filterMap (·.frame) := fun hm => by
    obtain ⟨_, o, ho, hnf⟩ := hl.mem hm
    rw [he] at ho; injection ho with ho; subst ho; exact hnf _ hd
  unfold noteFrame
  simp only [hf]
  refine wpAny_bind (wpAny_field he hd (x := .none) rfl ?_)
  rw [if_neg (by decide)]
  refine wpAny_bind (wpAny_frameOf_fun hfr hl hf fun h₁ hs₁ => ?_)
  refine wpAny_bind (wpAny_entryPlaceOf fun pl hpl => ?_)
  unfold EntryCells.newEntry newFields
  refine wpAny_bind (wpAny_newObj_type ?_ (hpl.sizeOk5 _ _ _ _ _))
  have he₁ : h₁.get? e = some oe := (hs₁.2.1 e hene).trans he
  have he₂ := Heap.get?_push_of_some (h := h₁) { cls := .type "traceback", dict := none, data := .fields ([Value.none, .ref L, .none, rawInt L, .none] ++ (if pl.isEmpty then List.replicate 6 Value.none else pl)).toArray } he₁
  refine wpAny_setField he₂ hd (by simp) ?_
  have hTe : h₁.objs.size ≠ e := Nat.ne_of_gt (Heap.lt_size he₁)
  have htbn : s.heap.get? h₁.objs.size = none := get_none_ge (by rw [hs₁.1]; exact Nat.le_refl _)
  refine h _ h₁.objs.size (Sm.heap s _) htbn ⟨fun b o hb hbf q => ?_, fun b o hb q => ?_⟩ ?_
  · rw [Heap.get?_update_other _ _ (Ne.symm hb)]
    exact Heap.get?_push_of_some _ ((hs₁.2.1 b hbf).trans q)
  · obtain ⟨sl, q'⟩ := hs₁.2.2 b o q
    refine ⟨sl, ?_⟩
    rw [Heap.get?_update_other _ _ (Ne.symm hb)]
    exact Heap.get?_push_of_some _ q'
  · refine ⟨_, { cls := .type "traceback", dict := none, data := .fields ([Value.none, .ref L, .none, rawInt L, .none] ++ (if pl.isEmpty then List.replicate 6 Value.none else pl)).toArray }, _, Heap.get?_update_self _ he₂ (Obj.isFreed_of_fields (Obj.data_mapFields hd _)), (Obj.cls_mapFields ..).trans hc, ?_, hTe, ?_, rfl, ?_, ?_⟩
    · rw [Obj.data_mapFields hd]; rfl
    · rw [Heap.get?_update_other _ _ (Ne.symm hTe)]
      exact Heap.get?_push_size h₁ rfl
    · simp
    · simp

theorem note_again {Q : Unit → Shared → Prop} (hf : env.frame = some L) (ht : Tb s.heap e cls t tb (rawInt L)) (h : Q () s) : wpAny M A (noteFrame (.ref e) env) Q E s := by
  obtain ⟨ob, ot, ts, h1, h2, h3, h4, h5, h6, h7, h8⟩ := ht
  exact wpAny_noteFrame_inFlight hf h1 h3 (by rfl) h5 h6 h8 h

theorem flight {Q : Unit → Shared → Prop} {fl : Value} {to : Option Addr} (ht : Tb s.heap e cls t tb fl)
    (h : ∀ s', Sm s s' → Heap.SameBut tb s.heap s'.heap → Tb s'.heap e cls t tb (to.elim .none fun f => rawInt f) → Q () s') : wpAny M A (setFlight (.ref e) to) Q E s := by
  obtain ⟨ob, ot, ts, h1, h2, h3, h4, h5, h6, h7, h8⟩ := ht
  unfold setFlight
  refine wpAny_bind (wpAny_field h1 h3 (x := .ref tb) (by rfl) ?_)
  rw [if_pos (show (Value.ref tb != Value.none) = true from by simp)]
  refine wpAny_setField h5 h6 h7 ?_
  refine h _ (Sm.heap s _) (Heap.SameBut.update ..) ⟨ob, _, _, ?_, h2, h3, h4, Heap.get?_update_self _ h5 (Obj.isFreed_of_fields (Obj.data_mapFields h6 _)), Obj.data_mapFields h6 _, by simpa using h7, by simp [h7]⟩
  rw [Heap.get?_update_other _ _ h4]; exact h1
theorem Mk.but {fr : List Addr} {a b c : Heap} (x : Mk e fr a b) (htb : a.get? tb = none) (hs : Heap.SameBut tb b c) : Mk e fr a c :=
  ⟨fun d o h1 h2 q => hs.extBut d o (fun z => by rw [z, htb] at q; cases q) (x.same d o h1 h2 q), fun d o h1 q => by
    obtain ⟨sl, q'⟩ := x.slot d o h1 q
    exact ⟨sl, hs.extBut d _ (fun z => by rw [z, htb] at q; cases q) q'⟩⟩

/-- a new exception in this frame's own try: it is noted, and looked at by its handlers -/
theorem land {Q : Unit → Shared → Prop} {oe : Obj} (hfr : A.frames = some (env :: outer)) (hl : s.heap.FunFrames g (env :: outer)) (hf : env.frame = some L)
    (he : s.heap.get? e = some oe) (hc : oe.cls = cls) (hd : oe.data = .fields #[t, .none, .none, .none, .bool false, .none])
    (h : ∀ s' tb, Sm s s' → s.heap.get? tb = none → Mk e ((env :: outer).filterMap (·.frame)) s.heap s'.heap → Tb s'.heap e cls t tb .none → Q () s') :
    wpAny M A (noteFrame (.ref e) env) (fun _ s₂ => wpAny M A (setFlight (.ref e) none) Q E s₂) E s :=
  note_new hfr hl hf he hc hd fun s₂ tb sm hn mk ht => flight ht fun s₃ sm₃ hs ht' => h s₃ tb (sm.trans sm₃) hn (mk.but hn hs) ht'

theorem exc_TypeError : isSubtype (.type "TypeError") (.type "BaseException") = pure true := by rw [isSubtype_type]; kernel_rfl
theorem exc_ValueError : isSubtype (.type "ValueError") (.type "BaseException") = pure true := by rw [isSubtype_type]; kernel_rfl
theorem sub_TypeError : isSubtype (.type "TypeError") (.type "TypeError") = pure true := by rw [isSubtype_type]; kernel_rfl
theorem sub_ValueError : isSubtype (.type "ValueError") (.type "ValueError") = pure true := by rw [isSubtype_type]; kernel_rfl
theorem nt_TypeError : isSubtype (.type ((Manifest.find? "TypeError").elim "type" fun x => x.metatype)) (.type "tuple") = pure false := by rw [find?_eq_fast, isSubtype_type]; kernel_rfl
theorem nt_ValueError : isSubtype (.type ((Manifest.find? "ValueError").elim "type" fun x => x.metatype)) (.type "tuple") = pure false := by rw [find?_eq_fast, isSubtype_type]; kernel_rfl
theorem Tb.typeIs {s : Shared} {X : String} {fl : Value} (ht : Tb s.heap e (.type X) t tb fl) : s.TypeIs (.ref e) X := let ⟨ob, _, _, h1, h2, _⟩ := ht; ⟨ob, h1, h2⟩
theorem Tb.at {h h' : Heap} {fl : Value} (ht : Tb h e cls t tb fl) (k1 : ∀ o, h.get? e = some o → h'.get? e = some o) (k2 : ∀ o, h.get? tb = some o → h'.get? tb = some o) : Tb h' e cls t tb fl :=
  let ⟨ob, ot, ts, h1, h2, h3, h4, h5, r⟩ := ht; ⟨ob, ot, ts, k1 _ h1, h2, h3, h4, k2 _ h5, r⟩
end
end Mine
end

section
open PySem PySem.W PyProof.Rows PySem.Calls
namespace Mine
theorem boot_TypeError : bootBuiltins "TypeError" = some (.type "TypeError") := by decide +kernel
theorem boot_ValueError : bootBuiltins "ValueError" = some (.type "ValueError") := by decide +kernel
section
variable {Fr Fr' : List Addr} {s s₁ s₂ : Shared} {A : Around} {h h' : Heap} {e L : Addr} {fr : List Addr} {m : Str → Option Value}
theorem Fm.frames (x : Fm A Fr h) : ∃ fs, A.frames = some fs ∧ h.FunFrames (V Fr h) fs ∧ ∀ a ∈ fs.filterMap (·.frame), a ∈ Fr := by
  obtain ⟨fs, h1, h2⟩ := x
  refine ⟨fs, h1, ?_, ?_⟩
  · clear h1
    induction fs with
    | nil => trivial
    | cons env fs ih =>
      obtain ⟨hk, L, a1, a2, m, o, es, ep, a3, a4, _⟩ := h2 env (.head _)
      exact ⟨hk, ⟨L, o, a1, hideAll_none Fr a2, a3, fun vs q => by rw [a4] at q; cases q⟩, ih fun e he => h2 e (.tail _ he)⟩
  · intro a ha
    obtain ⟨env, he, q⟩ := List.mem_filterMap.mp ha
    obtain ⟨_, L, a1, a2, _⟩ := h2 env he
    rw [a1] at q; cases q; exact a2
theorem Go.mk' (x : Go Fr s s₁) (sm : Sm s₁ s₂) (k : Mk e fr s₁.heap s₂.heap) (hfr : ∀ a ∈ fr, a ∈ Fr ∨ s.heap.get? a = Option.none) (he : s.heap.get? e = Option.none) : Go Fr s s₂ where
  sm := x.sm.trans sm
  ext := fun b o hb q => k.same b o (fun z => by rw [z, he] at q; cases q) (fun z => (hfr b z).elim hb fun z => by rw [q] at z; cases z) (x.ext b o hb q)
  hid := fun a ma o q => by
    obtain ⟨sl, q'⟩ := x.hid a ma o q
    obtain ⟨sl', q''⟩ := k.slot a _ (fun z => by rw [z, he] at q; cases q) q'
    exact ⟨sl', q''⟩
theorem Mk.ns (k : Mk e fr h h') (hn : h.Ns L m) (hne : L ≠ e) : h'.Ns L m := by
  obtain ⟨o, es, ep, ho, hd, r⟩ := hn
  obtain ⟨sl, q⟩ := k.slot L o hne ho
  exact ⟨_, es, ep, q, hd, r⟩
theorem exc_ne_ns {ob : Obj} {vs : Array Value} (he : h.get? e = some ob) (hd : ob.data = .fields vs) (hn : h.Ns L m) : L ≠ e := by
  rintro rfl
  obtain ⟨o, es, ep, ho, hd', _⟩ := hn
  rw [he] at ho; cases ho; rw [hd] at hd'; cases hd'
end
section
variable {prog : Program} {w : World} {M : Model} {A : Around} {E : Value → Shared → Prop} {s : Shared} {K : Frag} {env : Env}
/-- f(e) where f is a def of the text -/
theorem callDef1 {x : Str} {np pos : Pos} {e : Expr} {f : Addr} {o : Obj} {fd : FuncData} {Q : Value → Shared → Prop}
    (ho : K.lookup f = some o) (hd : o.data = .func fd) (hx : ∀ {Q' : Value → Shared → Prop}, Q' (.ref f) s → wpAny M A (eval (.Name x np) env) Q' E s)
    (hst : starEach [e] env = [(false, eval e env)])
    (h : wpAny M A (eval e env) (fun v s₁ => Gr K s₁.heap ∧ wpAny M A (call (.ref f) [v]) Q E s₁) E s) :
    wpAny M A (eval (.Call (.Name x np) [e] [] pos) env) Q E s := by
  refine wpAny_Call_ofName (hx ?_)
  rw [hst]
  exact callWith_function (evalArgs_plain (spliced_cons (wpAny_mono h (fun v s₁ q => spliced_nil ⟨⟨q.1.X _ _ ho, hd⟩, q.2⟩) fun _ _ e => e)))
theorem callDef2 {x : Str} {np pos : Pos} {e e' : Expr} {f : Addr} {o : Obj} {fd : FuncData} {Q : Value → Shared → Prop}
    (ho : K.lookup f = some o) (hd : o.data = .func fd) (hx : ∀ {Q' : Value → Shared → Prop}, Q' (.ref f) s → wpAny M A (eval (.Name x np) env) Q' E s)
    (hst : starEach [e, e'] env = [(false, eval e env), (false, eval e' env)])
    (h : wpAny M A (eval e env) (fun v s₁ => wpAny M A (eval e' env) (fun v' s₂ => Gr K s₂.heap ∧ wpAny M A (call (.ref f) [v, v']) Q E s₂) E s₁) E s) :
    wpAny M A (eval (.Call (.Name x np) [e, e'] [] pos) env) Q E s := by
  refine wpAny_Call_ofName (hx ?_)
  rw [hst]
  exact callWith_function (evalArgs_plain (spliced_cons (wpAny_mono h (fun v s₁ q => spliced_cons (wpAny_mono q (fun v' s₂ q => spliced_nil ⟨⟨q.1.X _ _ ho, hd⟩, q.2⟩) fun _ _ e => e)) fun _ _ e => e)))
theorem callDef3 {x : Str} {np pos : Pos} {e e' e'' : Expr} {f : Addr} {o : Obj} {fd : FuncData} {Q : Value → Shared → Prop}
    (ho : K.lookup f = some o) (hd : o.data = .func fd) (hx : ∀ {Q' : Value → Shared → Prop}, Q' (.ref f) s → wpAny M A (eval (.Name x np) env) Q' E s)
    (hst : starEach [e, e', e''] env = [(false, eval e env), (false, eval e' env), (false, eval e'' env)])
    (h : wpAny M A (eval e env) (fun v s₁ => wpAny M A (eval e' env) (fun v' s₂ => wpAny M A (eval e'' env) (fun v'' s₃ => Gr K s₃.heap ∧ wpAny M A (call (.ref f) [v, v', v'']) Q E s₃) E s₂) E s₁) E s) :
    wpAny M A (eval (.Call (.Name x np) [e, e', e''] [] pos) env) Q E s := by
  refine wpAny_Call_ofName (hx ?_)
  rw [hst]
  exact callWith_function (evalArgs_plain (spliced_cons (wpAny_mono h (fun v s₁ q => spliced_cons (wpAny_mono q (fun v' s₂ q => spliced_cons (wpAny_mono q (fun v'' s₃ q => spliced_nil ⟨⟨q.1.X _ _ ho, hd⟩, q.2⟩) fun _ _ e => e)) fun _ _ e => e)) fun _ _ e => e)))
/-- o.name(e): the method found, then called -/
theorem callMeth1 {o e : Expr} {name : Str} {apos pos : Pos} {Q : Value → Shared → Prop}
    (hbase : attributeBase o name env (eval o env) = eval o env) (hline : (apos.endLine == pos.line) = true) (hst : starEach [e] env = [(false, eval e env)])
    (h : wpAny M A (eval o env) (fun ov s₁ => wpAny M A (getMethod ov name (do return (← importBound o env).getD true)) (fun fx s₂ => wpAny M A (callWith pos fx.1 fx.2 [(false, eval e env)] []) Q E s₂) E s₁) E s) :
    wpAny M A (eval (.Call (.Attribute o name apos) [e] [] pos) env) Q E s := by
  rw [arm_eval_Call, hbase]
  refine wpAny_bind (wpAny_mono h (fun ov s₁ h₁ => ?_) fun _ _ e => e)
  refine wpAny_bind (wpAny_standAt ?_)
  have hb : backTo pos (starEach [e] env) = [(false, eval e env)] := by rw [hst]; rfl
  have hform : methodCallForm ([e].length + ([] : List Keyword).length) (backTo pos (starEach [e] env)) (backToKw pos (keywordEach [] env)) = true := by rw [hb]; rfl
  have hpos : methodCallPos true o env apos pos = pure pos := by unfold methodCallPos; simp [hline]
  unfold methodCall
  rw [hform]
  refine wpAny_bind (wpAny_holding (wpAny_mono (show wpAny M A (calleeOf true o env ov name) _ E s₁ from h₁) (fun fx s₂ h₂ => ?_) fun _ _ e => e))
  refine wpAny_bind (wpAny_of_eq hpos ?_)
  rw [hb]
  exact h₂
/-- a built-in function or a type, called with one argument -/
theorem callB1 {x : Str} {np pos : Pos} {e : Expr} {id : String} {Q : Value → Shared → Prop}
    (hx : ∀ {Q' : Value → Shared → Prop}, Q' (.builtin id) s → wpAny M A (eval (.Name x np) env) Q' E s)
    (hst : starEach [e] env = [(false, eval e env)])
    (h : wpAny M A (eval e env) (fun v s₁ => wpAny M A (call (.builtin id) [v]) Q E s₁) E s) :
    wpAny M A (eval (.Call (.Name x np) [e] [] pos) env) Q E s := by
  refine wpAny_Call_ofName (hx ?_)
  rw [hst]
  exact callWith_builtin rfl (evalArgs_plain (spliced_cons (wpAny_mono h (fun v s₁ q => spliced_nil q) fun _ _ e => e)))
end
end Mine
end

section
open PySem PySem.W PyProof.Rows PySem.Calls
namespace Mine
/-- a plain list that reads as xs -/
def RL (h : Heap) (v : Value) (xs : List PyData) : Prop := ∃ a vs, v = .ref a ∧ DL h a vs ∧ RdAll h vs xs
theorem RL.rd {h : Heap} {v : Value} {xs : List PyData} (x : RL h v xs) : Rd h v (.list xs) := by
  obtain ⟨a, vs, rfl, h1, h2⟩ := x; exact Rd.list_of h1.isList h2
theorem RL.mono {h h' : Heap} {v : Value} {xs : List PyData} (e : Ext h h') (x : RL h v xs) : RL h' v xs := let ⟨a, vs, h1, h2, h3⟩ := x; ⟨a, vs, h1, h2.ext e, h3.mono e⟩
section
variable {prog : Program} {w : World} {M : Model} {A : Around} {E : Value → Shared → Prop} {s : Shared} {K : Frag} {env : Env} {Fr W : List Addr}
/-- a list display's or an operator's new list -/
theorem new_list {vs : List Value} {xs : List PyData} {Q : Value → Shared → Prop} (lv : Live W s.heap) (r : RdAll (V W s.heap) vs xs)
    (h : ∀ l s', Go Fr s s' → s.heap.get? l = none → DL s'.heap l vs → RL (V W s'.heap) (.ref l) xs → Q (.ref l) s') : Q (.ref s.heap.objs.size) { s with heap := s.heap.push { cls := .type "list", data := .seq vs.toArray } } := by
  have e0 := Ext.push s.heap { cls := .type "list", data := .seq vs.toArray }
  have dl := DL.of_push s.heap vs
  exact h _ _ (.of (Sm.heap s _) e0) (push_none _) dl ⟨_, vs, rfl, dl.see (lv.not (push_none _)), r.mono (V_mono e0)⟩
/-- [e] -/
theorem list1 {e : Expr} {pos : Pos} {Q : Value → Shared → Prop} (hst : starEach [e] env = [(false, eval e env)])
    (h : wpAny M A (eval e env) (fun v s₁ => ∃ d, Live W s₁.heap ∧ Rd (V W s₁.heap) v d ∧ ∀ l s', Go Fr s₁ s' → s₁.heap.get? l = none → DL s'.heap l [v] → RL (V W s'.heap) (.ref l) [d] → Q (.ref l) s') E s) :
    wpAny M A (eval (.List [e] pos) env) Q E s := by
  refine wpAny_List (wpAny_items_cons (wpAny_mono h (fun v s₁ q => wpAny_items_nil ⟨by rw [sizeLine_eq]; simp, ?_⟩) fun _ _ e => e) hst)
  obtain ⟨d, lv, r, k⟩ := q
  exact new_list (Fr := Fr) (Q := Q) lv (RdAll.cons r RdAll.nil) k
theorem tuple1 {e : Expr} {pos : Pos} {n : Nat} {Q : Value → Shared → Prop} (hst : starEach [e] env = [(false, eval e env)])
    (h : wpAny M A (eval e env) (fun v s₁ => ∃ d, Live W s₁.heap ∧ Rd (V W s₁.heap) v d ∧ ∀ l s', Go Fr s₁ s' → Rd (V W s'.heap) (.ref l) (.tuple [d]) → Q (.ref l) s') E s) :
    wpAny M A (eval (.Tuple [e] n pos) env) Q E s := by
  refine wpAny_Tuple (wpAny_items_cons (wpAny_mono h (fun v s₁ q => wpAny_items_nil ⟨by rw [sizeLine_eq]; simp, ?_⟩) fun _ _ e => e) hst)
  obtain ⟨d, lv, r, k⟩ := q
  have e0 := Ext.push s₁.heap { cls := .type "tuple", data := .seq [v].toArray }
  exact k _ _ (.of (Sm.heap s₁ _) e0) (Rd.tuple_of (vs := [v]) ⟨_, V_in (Heap.get?_push_size _ rfl) (lv.not (push_none _)), rfl, 0, rfl⟩ ((RdAll.cons r RdAll.nil).mono (V_mono e0)))
theorem op_add {a b : Value} {xs ys : List PyData} {Q : Value → Shared → Prop} (lv : Live W s.heap) (ra : Rd (V W s.heap) a (.list xs)) (rb : Rd (V W s.heap) b (.list ys)) (hsz : xs.length + ys.length ≤ 1000000)
    (h : ∀ l s', Go Fr s s' → s.heap.get? l = none → RL (V W s'.heap) (.ref l) (xs ++ ys) → Q (.ref l) s') : wpAny (model prog w) A (binaryOp .Add a b) Q E s := by
  obtain ⟨l, vs, rfl, hl, rs⟩ := ra.list_inv
  obtain ⟨b, ws, rfl, hb, rt⟩ := rb.list_inv
  obtain ⟨⟨cls, dd, data, sl⟩, ho, hc, n, hd⟩ := IsList.ext V_le hl
  obtain ⟨⟨cls2, dd2, data2, sl2⟩, ho2, hc2, n2, hd2⟩ := IsList.ext V_le hb
  simp only at hc hd hc2 hd2
  subst hc hd hc2 hd2
  have e : vs.toArray ++ ws.toArray = (vs ++ ws).toArray := by simp
  refine concat_meets ⟨_, ho, rfl⟩ ⟨_, ho2, rfl⟩ noFill_list_add seq_list_add PySem.F.slot_list_add PySem.F.entry_list_add (PySem.F.args_list_add_2 _ _) (list_addW l b vs.toArray ws.toArray n n2 dd dd2 sl sl2 (by have := rs.length; have := rt.length; rw [sizeLine_eq]; simp; omega)) ⟨ho, ho2, ?_⟩
  rw [e]
  exact new_list lv (rs.append rt) fun l s' g hn _ r => h l s' g hn r
theorem op_add_tuple {a b : Value} {xs ys : List PyData} {Q : Value → Shared → Prop} (lv : Live W s.heap) (ra : Rd (V W s.heap) a (.tuple xs)) (rb : Rd (V W s.heap) b (.tuple ys)) (hsz : xs.length + ys.length ≤ 1000000)
    (h : ∀ v s', Go Fr s s' → Rd (V W s'.heap) v (.tuple (xs ++ ys)) → Q v s') : wpAny (model prog w) A (binaryOp .Add a b) Q E s := by
  obtain ⟨l, vs, rfl, hl, rs⟩ := ra.tuple_inv
  obtain ⟨b, ws, rfl, hb, rt⟩ := rb.tuple_inv
  have hl' := hl
  have hb' := hb
  obtain ⟨⟨cls, dd, data, sl⟩, ho, hc, n, hd⟩ := hl.keeps V_le
  obtain ⟨⟨cls2, dd2, data2, sl2⟩, ho2, hc2, n2, hd2⟩ := hb.keeps V_le
  simp only at hc hd hc2 hd2
  subst hc hd hc2 hd2
  by_cases h1 : vs.toArray.isEmpty = true
  · refine concat_meets ⟨_, ho, rfl⟩ ⟨_, ho2, rfl⟩ noFill_tuple_add seq_tuple_add PySem.F.slot_tuple_add PySem.F.entry_tuple_add (PySem.F.args_tuple_add_2 _ _) (tuple_addW0 l b vs.toArray ws.toArray n n2 dd dd2 sl sl2 h1) ⟨ho, ho2, ?_⟩
    have : vs = [] := by simpa using h1
    subst this
    have : xs = [] := by have := rs.length; simpa using this.symm
    subst this
    exact h _ s (Go.refl Fr s) (Rd.tuple_of hb' rt)
  · by_cases h2 : ws.toArray.isEmpty = true
    · refine concat_meets ⟨_, ho, rfl⟩ ⟨_, ho2, rfl⟩ noFill_tuple_add seq_tuple_add PySem.F.slot_tuple_add PySem.F.entry_tuple_add (PySem.F.args_tuple_add_2 _ _) (tuple_addW1 l b vs.toArray ws.toArray n n2 dd dd2 sl sl2 h1 h2) ⟨ho, ho2, ?_⟩
      have : ws = [] := by simpa using h2
      subst this
      have : ys = [] := by have := rt.length; simpa using this.symm
      subst this
      exact h _ s (Go.refl Fr s) (by rw [List.append_nil]; exact Rd.tuple_of hl' rs)
    · refine concat_meets ⟨_, ho, rfl⟩ ⟨_, ho2, rfl⟩ noFill_tuple_add seq_tuple_add PySem.F.slot_tuple_add PySem.F.entry_tuple_add (PySem.F.args_tuple_add_2 _ _) (tuple_addW2 l b vs.toArray ws.toArray n n2 dd dd2 sl sl2 h1 h2 (by have := rs.length; have := rt.length; rw [sizeLine_eq]; simp; omega)) ⟨ho, ho2, ?_⟩
      have e0 := Ext.push s.heap { cls := .type "tuple", data := .seq (vs.toArray ++ ws.toArray) }
      refine h _ _ (.of (Sm.heap s _) e0) (Rd.tuple_of (vs := vs ++ ws) ⟨_, V_in (Heap.get?_push_size _ rfl) (lv.not (push_none _)), rfl, 0, by simp⟩ ((rs.append rt).mono (V_mono e0)))
/-- a built-in type, called with one argument -/
theorem callT1 {x : Str} {np pos : Pos} {e : Expr} {T : String} {Q : Value → Shared → Prop}
    (hx : ∀ {Q' : Value → Shared → Prop}, Q' (.type T) s → wpAny M A (eval (.Name x np) env) Q' E s)
    (hst : starEach [e] env = [(false, eval e env)])
    (h : wpAny M A (eval e env) (fun v s₁ => wpAny M A (call (.type T) [v]) Q E s₁) E s) :
    wpAny M A (eval (.Call (.Name x np) [e] [] pos) env) Q E s := by
  refine wpAny_Call_ofName (hx ?_)
  rw [hst]
  exact PyProof.Rows.callWith_type rfl (evalArgs_plain (spliced_cons (wpAny_mono h (fun v s₁ q => spliced_nil q) fun _ _ e => e)))
end
end Mine
end

section
open PySem PySem.W PyProof.Rows PySem.Calls
namespace Mine
/-- an iterator I, made between s₁ and s₂, that gives what reads as ds -/
def Src (prog : Program) (w : World) (A : Around) (Fr W : List Addr) (s₁ s₂ : Shared) (I : Addr) (ds : List PyData) : Prop :=
  Sm s₁ s₂ ∧ Ext s₁.heap s₂.heap ∧ s₁.heap.get? I = none ∧ ∃ fp P St, Walks prog w A I fp [I] ds.length P St ∧ St 0 s₂.heap ∧ (∀ b ∈ fp, (b ∉ Fr ∧ b ∉ W) ∧ ∃ o, s₂.heap.get? b = some o) ∧ I ∉ Fr ∧ (∀ i h, St i h → ∃ o, h.get? I = some o) ∧
    (∀ i v, P i v → ∃ d, ds[i]? = some d ∧ Rd (V W s₁.heap) v d)

section
variable {prog : Program} {w : World} {A : Around} {E : Value → Shared → Prop} {s : Shared} {K : Frag} {env : Env} {Fr W : List Addr}
theorem walks_list (hh : A.handled = none) (I l : Addr) (hne : l ≠ I) (vs : List Value) :
    Walks prog w A I [I, l] [I] vs.length (fun i v => vs[i]? = some v) (fun i h => h.IsListIter I l i ∧ h.IsList l vs.toArray) where
  sub := fun b hb => by simp at hb; simp [hb]
  frame := fun _ _ _ st hk => ⟨st.1.at fun o e => hk I (by simp) o e, st.2.at fun o e => hk l (by simp) o e⟩
  item := fun i s Q E hi st hQ => by
    refine wpAny_pyNext_list_item st.1 st.2 (x := vs[i]) (by simp [hi]) fun h' hit' hs' => ?_
    exact hQ _ h' s.toks (by simp [hi]) ⟨hit', st.2.extBut hs'.extBut hne⟩ fun b o hb e => hs'.extBut b o (fun h => hb (by simp [h])) e
  done := fun s Q E st hQ => wpAny_pyNext_list_end hh st.1 st.2 (by simp) fun h' he' => hQ h' s.toks fun b o hb e => he' b o (fun h => hb (by simp [h])) e
  self := fun _ _ _ _ st hQ => wpAny_pyIter_listiter st.1 hQ

theorem src_list {v : Value} {ds : List PyData} {Q : Value → Shared → Prop} (hh : A.handled = none) (C : Cx K A Fr W s) (r : Rd (V W s.heap) v (.list ds))
    (h : ∀ I s₂, Src prog w A Fr W s s₂ I ds → Q (.ref I) s₂) : wpAny (model prog w) A (pyIter v) Q E s := by
  obtain ⟨l, vs, rfl, hl, rs⟩ := r.list_inv
  have hls := IsList.ext V_le hl
  have hlW : l ∉ W := by
    obtain ⟨o, q, _⟩ := hl; exact V_not q
  refine iter_list hls fun I s' sm ex hI hit => h I s' ?_
  refine ⟨sm, ex, hI, [I, l], fun i v => vs[i]? = some v, fun i h => h.IsListIter I l i ∧ h.IsList l vs.toArray, ?_, ⟨hit, IsList.ext ex hls⟩, ?_, ?_, ?_, ?_⟩
  · rw [← rs.length]
    refine walks_list hh I l ?_ vs
    rintro rfl
    obtain ⟨o, q, _⟩ := hls
    rw [hI] at q; cases q
  · intro b hb
    simp at hb
    rcases hb with rfl | rfl
    · obtain ⟨o, q, _⟩ := hit
      exact ⟨⟨fun m => (C.lv.not hI) (C.sub _ m), C.lv.not hI⟩, o, q⟩
    · obtain ⟨o, q, _⟩ := IsList.ext ex hls
      exact ⟨⟨fun m => hlW (C.sub _ m), hlW⟩, o, q⟩
  · exact fun m => (C.lv.not hI) (C.sub _ m)
  · intro i h' st
    obtain ⟨⟨o, q, _⟩, _⟩ := st
    exact ⟨o, q⟩
  · intro i v hv
    exact rs.get hv

/-- the tests of a clause, as the machine runs them -/
abbrev tests (ifs : List Expr) (cenv : Env) : Sem Bool := forIn ifs true fun c r => if r = true then do let ok ← isTrue c cenv (eval c cenv); pure (ForInStep.yield ok) else pure (ForInStep.yield r)

theorem filter_map_take {ds : List PyData} {p : PyData → Bool} {f : PyData → PyData} {i : Nat} {d : PyData} (h : ds[i]? = some d) :
    ((ds.take (i + 1)).filter p).map f = ((ds.take i).filter p).map f ++ (if p d then [f d] else []) := by
  rw [take_succ_filter p _ i d h, List.map_append]
  cases p d <;> rfl

/-- [elt for x in <source> if ..]: one clause -/
theorem comp1G {elt iter : Expr} {x : Str} {px : Pos} {ifs : List Expr} {scope : Scope} {cl : List (Str × Addr)} {pos pos' : Pos} {use : Option (Value → Sem Unit)} {ds : List PyData} (p : PyData → Bool) (f : PyData → PyData) {Q : Value → Shared → Prop}
    (C : Cx K A Fr W s) (hh : A.handled = none) (hclos : closureFor scope env = pure cl) (hkind : scope.kind = .function) (hnames : ∀ y ∈ scope.names, y.2 = .local → scope.names.lookup y.1 = some .local)
    (hcell : ∀ y ∈ scope.names, y.2 ≠ .cell) (hx : scope.names.lookup x = some .local) (hlen : ds.length ≤ 100000)
    (src : wpAny (model prog w) A (eval iter env) (fun xv s₁ => Go Fr s s₁ ∧ wpAny (model prog w) A (pyIter xv) (fun it s₂ => ∃ I, it = .ref I ∧ Src prog w A Fr W s₁ s₂ I ds ∧
      (∀ Cc W2 s' m v d (i : Nat) E', ds[i]? = some d → Go Fr s₁ s' → Own W W2 s₁.heap → Cx K A Fr W2 s' → s'.heap.Ns Cc m → m x = some v → Rd (V W2 s'.heap) v d →
        wpAny (model prog w) A (tests ifs (compEnvC scope cl Cc env)) (fun ok s'' => Go Fr s' s'' ∧ ok = p d) E' s') ∧
      (∀ Cc W2 s' m v d (i : Nat) E', ds[i]? = some d → p d = true → Go Fr s₁ s' → Own W W2 s₁.heap → Cx K A Fr W2 s' → s'.heap.Ns Cc m → m x = some v → Rd (V W2 s'.heap) v d →
        wpAny (model prog w) A (eval elt (compEnvC scope cl Cc env)) (fun y s'' => Go Fr s' s'' ∧ Rd (V W2 s''.heap) y (f d)) E' s') ∧
      (∀ D Cc m s', Go Fr s₁ s' → s₁.heap.get? D = none → s₁.heap.get? Cc = none → s'.heap.Ns Cc m → RL (V (Cc :: W) s'.heap) (.ref D) ((ds.filter p).map f) → compPost (model prog w) A E use Q (.ref D) Cc (.ok .next) s')) E s₁) E s)
    (hs : ∀ x, foldedSetIterable iter env x = pure x := by intro _; rfl) :
    wpAny (model prog w) A (comprehension (.ListComp elt [⟨.Name x px, iter, ifs, 0⟩] scope pos) scope env pos' (newList []) false (eval iter env) use) Q E s := by
  refine wpAny_comprehension_free (use := use) rfl hs hclos hkind hnames (wpAny_mono src (fun xv s₁ q => ?_) fun _ _ e => e)
  obtain ⟨go₁, q⟩ := q
  refine wpAny_mono q (fun it s₂ q => ?_) fun _ _ e => e
  obtain ⟨I, rfl, ⟨sm₂, ex₂, hI, fp, P, St, Wk, hst, hfp, hIF, hIl, hP⟩, htests, helt, hQ⟩ := q
  have C₁ := C.go go₁
  obtain ⟨oI, hoI⟩ := hIl _ _ hst
  refine wpAny_newObj_type (wpAny_newFunctionEnv hcell (by intro y hy; simp at hy) (fun h₄ hns₄ hsb₄ => ?_) hkind)
  dsimp only at hns₄ hsb₄ ⊢
  -- D, the list; Cc, the names
  have hD2 : s₂.heap.get? s₂.heap.objs.size = none := push_none _
  have hdl3 := DL.of_push s₂.heap []
  have ex3 : Ext s₂.heap (s₂.heap.push { cls := .type "list", data := .seq ([] : List Value).toArray }) := Ext.push _ _
  have hC3 : (s₂.heap.push { cls := .type "list", data := .seq ([] : List Value).toArray }).get? (s₂.heap.push { cls := .type "list", data := .seq ([] : List Value).toArray }).objs.size = none := push_none _
  have ex4 : Ext (s₂.heap.push { cls := .type "list", data := .seq ([] : List Value).toArray }) h₄ := fun b o q => hsb₄.extBut b o (Nat.ne_of_lt (Heap.lt_size q)) (Heap.get?_push_of_some _ q)
  generalize s₂.heap.push { cls := .type "list", data := .seq ([] : List Value).toArray } = H3 at hns₄ hsb₄ hdl3 ex3 hC3 ex4 ⊢
  generalize hCc : H3.objs.size = Cc at hns₄ hsb₄ hC3 ⊢
  generalize s₂.heap.objs.size = D at hD2 hdl3 ⊢
  have hC2 : s₂.heap.get? Cc = none := ex3.fresh hC3
  have hdl4 : DL h₄ D [] := hdl3.ext ex4
  have hDC : D ≠ Cc := dl_ne_ns hdl4 hns₄
  have hD1 := ex₂.fresh hD2
  have hC1 := ex₂.fresh hC2
  have ow : Own W (D :: Cc :: I :: W) s₁.heap := (((Own.refl W _).cons hI).cons hC1).cons hD1
  have hDfp : D ∉ fp := fun m => by obtain ⟨_, o, q⟩ := hfp _ m; rw [hD2] at q; cases q
  have hCfp : Cc ∉ fp := fun m => by obtain ⟨_, o, q⟩ := hfp _ m; rw [hC2] at q; cases q
  have hDI : D ≠ I := by rintro rfl; rw [hD2] at hoI; cases hoI
  have hCI : Cc ≠ I := by rintro rfl; rw [hC2] at hoI; cases hoI
  have hDF : D ∉ Fr := fun m => C₁.lv.not hD1 (C₁.sub _ m)
  have hCF : Cc ∉ Fr := fun m => C₁.lv.not hC1 (C₁.sub _ m)
  have hDW : D ∉ W := C₁.lv.not hD1
  have st4 : St 0 h₄ := Wk.frame _ _ _ hst fun b _ o q => ex4 _ _ (ex3 _ _ q)
  have cx : ∀ s', Go Fr s₁ s' → (∃ ys, DL s'.heap D ys) → (∃ m, s'.heap.Ns Cc m) → (∃ o, s'.heap.get? I = some o) → Cx K A Fr (D :: Cc :: I :: W) s' := fun s' g ⟨ys, o, n, q, _⟩ ⟨m, o', es, ep, q', _⟩ ⟨o'', q''⟩ =>
    C₁.more g ow (Live.cons q (Live.cons q' (Live.cons q'' (g.live C₁.lv))))
  have loop : ∀ s₄ : Shared, s₄ = { s₂ with heap := h₄, toks := s₂.toks + ([] : List (Str × Value)).length } →
      codeAny (model prog w) A (.compLoop (.ListComp elt [⟨.Name x px, iter, ifs, 0⟩] scope pos) 0 (.ref I) (.ref D) (compEnvC scope cl Cc env)) (compPost (model prog w) A E use Q (.ref D) Cc) s₄ := by
    rintro s₄ rfl
    have go4 : Go Fr s₁ { s₂ with heap := h₄, toks := s₂.toks + ([] : List (Str × Value)).length } := .of (sm₂.trans ⟨_, _, rfl⟩) (ex₂.trans (ex3.trans ex4))
    refine codeAny_compLoop_tests
      (fun k s' => ∃ i m ys, Go Fr s₁ s' ∧ St i s'.heap ∧ s'.heap.Ns Cc m ∧ DL s'.heap D ys ∧ RdAll (V (D :: Cc :: I :: W) s'.heap) ys (((ds.take i).filter p).map f) ∧ i ≤ ds.length ∧ k = ds.length + 1 - i) ?_ (ds.length + 1)
      ⟨0, _, [], go4, st4, hns₄, hdl4, by simpa using RdAll.nil, Nat.zero_le _, rfl⟩
    rintro k s' ⟨i, m, ys, g, st, hn, hdl, hr, hi, rfl⟩
    by_cases hlt : i < ds.length
    · refine Wk.item i s' _ _ hlt st fun v h' tk hPv st' hk' => ?_
      obtain ⟨d, hd, hv⟩ := hP i v hPv
      have hbI : ∀ b o, b ≠ I → s'.heap.get? b = some o → h'.get? b = some o := fun b o hb q => hk' b o (by simpa using hb) q
      have hn' : h'.Ns Cc m := by
        obtain ⟨o, es, ep, q, z⟩ := hn
        exact ⟨o, es, ep, hbI _ _ hCI q, z⟩
      have hdl' : DL h' D ys := hdl.at fun o q => hbI D o hDI q
      have gI : Go Fr s₁ { s' with heap := h', toks := tk } := g.but ⟨_, _, rfl⟩ (fun b o hb q => hbI b o hb q) hI
      have hmem := List.mem_of_getElem? hd
      -- x := v
      refine wpAny_assign_Name (wpAny_storeName_local (lookup_relabel_local hx) hn' (fun h'' hn'' hs'' => ?_) (by simp [compEnvC, relabel, hkind]))
      have hC'' : (compEnvC scope cl Cc env).locals = Cc := rfl
      rw [hC''] at hn'' hs''
      have gC : Go Fr s₁ { s' with heap := h'', toks := tk + 1 } := gI.but ⟨_, _, rfl⟩ hs''.extBut hC1
      have hdl'' : DL h'' D ys := hdl'.but hs''.extBut hDC
      have st'' : St (i + 1) h'' := Wk.frame _ _ _ st' fun b hb o q => hs''.extBut b o (fun z => hCfp (z ▸ hb)) q
      have cx'' : Cx K A Fr (D :: Cc :: I :: W) { s' with heap := h'', toks := tk + 1 } := cx _ gC ⟨_, hdl''⟩ ⟨_, hn''⟩ (hIl _ _ st'')
      have hr'' : RdAll (V (D :: Cc :: I :: W) h'') ys (((ds.take i).filter p).map f) := hr.mono (V_ext fun b o hb q => hs''.extBut b o (fun z => hb (by simp [z])) (hbI b o (fun z => hb (by simp [z])) q))
      have hv'' : Rd (V (D :: Cc :: I :: W) h'') v d := hv.mono (gC.see' C₁.sub ow)
      refine wpAny_mono (htests Cc _ _ _ v d i _ hd gC ow cx'' hn'' (by simp) hv'') (fun ok s₅ q => ?_) fun _ _ e => e
      obtain ⟨g5, rfl⟩ := q
      have gC5 : Go Fr s₁ s₅ := gC.trans g5
      have st5 : St (i + 1) s₅.heap := Wk.frame _ _ _ st'' fun b hb o q => g5.ext b o (hfp b hb).1.1 q
      have hn5 := g5.ns hn''
      have hdl5 := g5.dl hdl''
      have hr5 := hr''.mono (g5.see cx''.sub)
      cases hp : p d with
      | false =>
        simp only [Bool.false_eq_true, if_false]
        refine ⟨ds.length + 1 - (i + 1), by omega, i + 1, _, ys, gC5, st5, hn5, hdl5, ?_, hlt, rfl⟩
        rw [filter_map_take hd, hp]; simpa using hr5
      | true =>
        simp only [if_true]
        have cx5 : Cx K A Fr (D :: Cc :: I :: W) s₅ := cx''.go g5
        refine wpAny_mono (helt Cc _ s₅ _ v d i _ hd hp gC5 ow cx5 hn5 (by simp) (hv''.mono (g5.see cx''.sub))) (fun y s₆ q => ?_) fun _ _ e => e
        obtain ⟨g6, hy⟩ := q
        have hdl6 := g6.dl hdl5
        have hlen6 : ys.length ≤ 1000000 := by
          have q1 := hr.length
          have q2 : (((ds.take i).filter p).map f).length ≤ (ds.take i).length := by rw [List.length_map]; exact List.length_filter_le _ _
          have q3 : (ds.take i).length ≤ ds.length := List.length_take_le' _ _
          omega
        refine dl_append hdl6 hlen6 fun s₇ sm₇ hdl₇ hs₇ => ?_
        refine ⟨ds.length + 1 - (i + 1), by omega, i + 1, _, ys ++ [y], (gC5.trans g6).but sm₇ hs₇.extBut hD1, ?_, (g6.ns hn5).sameBut hs₇ (Ne.symm hDC), hdl₇, ?_, hlt, rfl⟩
        · exact Wk.frame _ _ _ st5 fun b hb o q => hs₇.extBut b o (fun z => hDfp (z ▸ hb)) (g6.ext b o (hfp b hb).1.1 q)
        · rw [filter_map_take hd, hp]
          have e7 : Ext (V (D :: Cc :: I :: W) s₆.heap) (V (D :: Cc :: I :: W) s₇.heap) := V_same hs₇ (by simp)
          exact ((hr5.mono (g6.see cx5.sub)).snoc hy).mono e7
    · have hi' : i = ds.length := by omega
      subst hi'
      refine Wk.done s' _ _ st fun h' tk hk' => ?_
      have hbI : ∀ b o, b ≠ I → s'.heap.get? b = some o → h'.get? b = some o := fun b o hb q => hk' b o (by simpa using hb) q
      have gI : Go Fr s₁ { s' with heap := h', toks := tk } := g.but ⟨_, _, rfl⟩ (fun b o hb q => hbI b o hb q) hI
      have hn' : h'.Ns Cc m := by
        obtain ⟨o, es, ep, q, z⟩ := hn
        exact ⟨o, es, ep, hbI _ _ hCI q, z⟩
      have hdl'' : DL h' D ys := hdl.at fun o q => hbI D o hDI q
      rw [List.take_length] at hr
      refine hQ D Cc m _ gI hD1 hC1 hn' ⟨D, ys, rfl, hdl''.see (by simp [hDC, hDW]), ?_⟩
      have e1 : Ext (V (D :: Cc :: I :: W) s'.heap) (V (D :: Cc :: I :: W) h') := V_ext fun b o hb q => hbI b o (fun z => hb (by simp [z])) q
      exact hr.mono (e1.trans (V_sub fun a ma => by simp at ma; rcases ma with rfl | ma <;> simp [*]))
  exact codeAny_compStart_list (loop _ rfl) (Wk.self 0 _ _ _ st4 (loop _ rfl))
/-- [elt for x in <source> if ..]: one clause -/
theorem comp1 {elt iter : Expr} {x : Str} {px : Pos} {ifs : List Expr} {scope : Scope} {cl : List (Str × Addr)} {pos : Pos} {ds : List PyData} (p : PyData → Bool) (f : PyData → PyData) {Q : Value → Shared → Prop}
    (C : Cx K A Fr W s) (hh : A.handled = none) (hclos : closureFor scope env = pure cl) (hkind : scope.kind = .function) (hnames : ∀ y ∈ scope.names, y.2 = .local → scope.names.lookup y.1 = some .local)
    (hcell : ∀ y ∈ scope.names, y.2 ≠ .cell) (hx : scope.names.lookup x = some .local) (hlen : ds.length ≤ 100000)
    (src : wpAny (model prog w) A (eval iter env) (fun xv s₁ => Go Fr s s₁ ∧ wpAny (model prog w) A (pyIter xv) (fun it s₂ => ∃ I, it = .ref I ∧ Src prog w A Fr W s₁ s₂ I ds ∧
      (∀ Cc W2 s' m v d (i : Nat) E', ds[i]? = some d → Go Fr s₁ s' → Own W W2 s₁.heap → Cx K A Fr W2 s' → s'.heap.Ns Cc m → m x = some v → Rd (V W2 s'.heap) v d →
        wpAny (model prog w) A (tests ifs (compEnvC scope cl Cc env)) (fun ok s'' => Go Fr s' s'' ∧ ok = p d) E' s') ∧
      (∀ Cc W2 s' m v d (i : Nat) E', ds[i]? = some d → p d = true → Go Fr s₁ s' → Own W W2 s₁.heap → Cx K A Fr W2 s' → s'.heap.Ns Cc m → m x = some v → Rd (V W2 s'.heap) v d →
        wpAny (model prog w) A (eval elt (compEnvC scope cl Cc env)) (fun y s'' => Go Fr s' s'' ∧ Rd (V W2 s''.heap) y (f d)) E' s') ∧
      (∀ D s', Go Fr s₁ s' → s₁.heap.get? D = none → RL (V W s'.heap) (.ref D) ((ds.filter p).map f) → Q (.ref D) s')) E s₁) E s)
    (hs : ∀ x, foldedSetIterable iter env x = pure x := by intro _; rfl) :
    wpAny (model prog w) A (eval (.ListComp elt [⟨.Name x px, iter, ifs, 0⟩] scope pos) env) Q E s := by
  rw [eval_ListComp]
  refine comp1G p f C hh hclos hkind hnames hcell hx hlen (wpAny_mono src (fun xv s₁ q => ⟨q.1, wpAny_mono q.2 (fun it s₂ q => ?_) fun _ _ e => e⟩) fun _ _ e => e) hs
  obtain ⟨I, h1, h2, h3, h4, hQ⟩ := q
  refine ⟨I, h1, h2, h3, h4, fun D Cc m s' g hD hC hn rl => ⟨m, hn, fun h' hs' => hQ D _ (g.but ⟨_, _, rfl⟩ hs'.extBut hC) hD ?_⟩⟩
  exact (rl.mono (V_same hs' (by simp))).mono (V_sub fun a ma => by simp [ma])
/-- the store of a comprehension's list in a local name, ahead of the comprehension's own names' going -/
theorem use_local {y : Str} {m m' : Str → Option Value} {s₁ s' : Shared} {D Cc : Addr} {xs : List PyData} (Q : Shared → Prop) (hek : env.scope.kind = .function) (hy : env.kindOf y = some .local) (hn0 : s.heap.Ns env.locals m) (hLW : env.locals ∈ W) (hLF : env.locals ∈ Fr)
    (go₁ : Go Fr s s₁) (g : Go Fr s₁ s') (hC : s₁.heap.get? Cc = none) (hn : s'.heap.Ns Cc m') (rl : RL (V (Cc :: W) s'.heap) (.ref D) xs)
    (hQ : ∀ s' s₃, Go Fr s₁ s' → RL (V W s'.heap) (.ref D) xs → Sm s' s₃ → s₃.heap.Ns env.locals (fun z => if z = y then some (.ref D) else m z) → Heap.SameBut env.locals s'.heap s₃.heap → Q s₃) :
    wpAny (model prog w) A (storeName env y (.ref D)) (fun _ s'' => ∃ m, s''.heap.Ns Cc m ∧ ∀ h', Heap.SameBut Cc s''.heap h' → Q { s'' with heap := h' }) E s' := by
  have hnL : s'.heap.Ns env.locals m := g.ns (go₁.ns hn0)
  have hLC : env.locals ≠ Cc := by
    rintro rfl
    obtain ⟨o, es, ep, q, _⟩ := go₁.ns hn0
    rw [hC] at q; cases q
  refine st_local hnL hek hy fun s₂ sm₂ hn₂ hs₂ => ⟨m', hn.sameBut hs₂ (Ne.symm hLC), fun h' hs' => ?_⟩
  obtain ⟨oL, es, ep, hoL, hdL, rest⟩ := id hnL
  have hn3 : h'.Ns env.locals (fun z => if z = y then some (.ref D) else m z) := hn₂.sameBut hs' hLC
  obtain ⟨o3, es3, ep3, ho3, hd3, _⟩ := id hn3
  -- the same heap with the frame's table as it stood
  have hup : (h'.update env.locals fun _ => oL).get? env.locals = some oL := Heap.get?_update_self _ ho3 (by
    obtain ⟨c, d, dt, sl⟩ := oL
    simp only at hdL
    subst hdL; rfl)
  have hoth : ∀ b, b ≠ env.locals → (h'.update env.locals fun _ => oL).get? b = h'.get? b := fun b hb => Heap.get?_update_other _ _ (Ne.symm hb)
  have hkeep : ∀ b o, b ≠ Cc → s'.heap.get? b = some o → (h'.update env.locals fun _ => oL).get? b = some o := fun b o hb q => by
    by_cases z : b = env.locals
    · subst z; rw [hoL] at q; cases q; exact hup
    · rw [hoth b z]; exact hs'.extBut b o hb (hs₂.extBut b o z q)
  obtain ⟨h2, t2, rfl⟩ := sm₂
  refine hQ { s' with heap := h'.update env.locals fun _ => oL, toks := t2 } _ (g.but ⟨_, _, rfl⟩ (fun b o hb q => hkeep b o hb q) hC) ?_ ⟨h', t2, rfl⟩ hn3 ?_
  · have e1 : Ext (V (Cc :: W) s'.heap) (V (Cc :: W) (h'.update env.locals fun _ => oL)) := V_ext fun b o hb q => hkeep b o (fun z => hb (by simp [z])) q
    exact (rl.mono e1).mono (V_sub fun a ma => by simp [ma])
  · exact ⟨(Heap.SameBut.update h' env.locals fun _ => oL).1.symm, fun b hb => ((Heap.SameBut.update h' env.locals fun _ => oL).2 b hb).symm⟩
/-- y = [..], y a local -/
theorem comp1S {elt iter : Expr} {x y : Str} {px py spos : Pos} {ifs : List Expr} {scope : Scope} {cl : List (Str × Addr)} {pos : Pos} {ds : List PyData} (p : PyData → Bool) (f : PyData → PyData) {m : Str → Option Value} {Q : Flow → Shared → Prop}
    (hsw : swapsWith (.ListComp elt [⟨.Name x px, iter, ifs, 0⟩] scope pos) (some (.Name y py)) spos.line env = pure true) (hek : env.scope.kind = .function) (hy : env.kindOf y = some .local) (hn0 : s.heap.Ns env.locals m) (hLW : env.locals ∈ W) (hLF : env.locals ∈ Fr)
    (C : Cx K A Fr W s) (hh : A.handled = none) (hclos : closureFor scope env = pure cl) (hkind : scope.kind = .function) (hnames : ∀ y ∈ scope.names, y.2 = .local → scope.names.lookup y.1 = some .local)
    (hcell : ∀ y ∈ scope.names, y.2 ≠ .cell) (hx : scope.names.lookup x = some .local) (hlen : ds.length ≤ 100000)
    (src : wpAny (model prog w) A (eval iter env) (fun xv s₁ => Go Fr s s₁ ∧ wpAny (model prog w) A (pyIter xv) (fun it s₂ => ∃ I, it = .ref I ∧ Src prog w A Fr W s₁ s₂ I ds ∧
      (∀ Cc W2 s' m v d (i : Nat) E', ds[i]? = some d → Go Fr s₁ s' → Own W W2 s₁.heap → Cx K A Fr W2 s' → s'.heap.Ns Cc m → m x = some v → Rd (V W2 s'.heap) v d →
        wpAny (model prog w) A (tests ifs (compEnvC scope cl Cc env)) (fun ok s'' => Go Fr s' s'' ∧ ok = p d) E' s') ∧
      (∀ Cc W2 s' m v d (i : Nat) E', ds[i]? = some d → p d = true → Go Fr s₁ s' → Own W W2 s₁.heap → Cx K A Fr W2 s' → s'.heap.Ns Cc m → m x = some v → Rd (V W2 s'.heap) v d →
        wpAny (model prog w) A (eval elt (compEnvC scope cl Cc env)) (fun y s'' => Go Fr s' s'' ∧ Rd (V W2 s''.heap) y (f d)) E' s') ∧
      (∀ D s' s₃, Go Fr s₁ s' → s₁.heap.get? D = none → RL (V W s'.heap) (.ref D) ((ds.filter p).map f) → Sm s' s₃ → s₃.heap.Ns env.locals (fun z => if z = y then some (.ref D) else m z) → Heap.SameBut env.locals s'.heap s₃.heap → Q .next s₃)) E s₁) E s)
    (hs : ∀ x, foldedSetIterable iter env x = pure x := by intro _; rfl) :
    wpAny (model prog w) A (exec (.Assign [.Name y py] (.ListComp elt [⟨.Name x px, iter, ifs, 0⟩] scope pos) spos) env) Q E s := by
  rw [exec_Assign_Name_used _ _ _ _ hsw]
  refine wpAny_bind (wpAny_standAt (wpAny_bind ?_))
  show wpAny _ A (do let _ ← comprehension (.ListComp elt [⟨.Name x px, iter, ifs, 0⟩] scope pos) scope env _ (newList []) false (eval iter env) (some (assign (.Name y py) env))) _ _ s
  refine wpAny_bind (comp1G (use := some (assign (.Name y py) env)) p f C hh hclos hkind hnames hcell hx hlen (wpAny_mono src (fun xv s₁ q => ⟨q.1, wpAny_mono q.2 (fun it s₂ q' => ?_) fun _ _ e => e⟩) fun _ _ e => e) hs)
  have go₁ := q.1
  obtain ⟨I, h1, h2, h3, h4, hQ⟩ := q'
  exact ⟨I, h1, h2, h3, h4, fun D Cc m' s' g hD hC hn rl => wpAny_assign_Name (use_local (fun s' => wpAny (model prog w) A (pure ()) (fun a s' => wpAny (model prog w) A (pure Flow.next) Q E s') E s') hek hy hn0 hLW hLF go₁ g hC hn rl fun s' s₃ g rl sm hn hs => wpAny_pure (wpAny_pure (hQ D s' s₃ g hD rl sm hn hs)))⟩
end
end Mine
end

section
open PySem PySem.W PyProof.Rows PySem.Calls
namespace Mine
section
variable {prog : Program} {w : World} {M : Model} {A : Around} {E : Value → Shared → Prop} {s : Shared} {K : Frag} {env : Env}
/-- entering a def that has cells -/
theorem call_enterC {f : Addr} {o : Obj} {fd : FuncData} {body : List Stmt} {pos : List Value} {binds : List (Str × Value)} {Q : Value → Shared → Prop}
    (G : Gr K s.heap) (hroom : A.depth < recursionLimit) (ho : K.lookup f = some o) (hdata : o.data = .func fd) (hcd : codeIn K fd.code fd.qualname = true) (hbody : fd.body = .stmts body) (hbind : bindArgs fd ⟨pos, []⟩ = pure binds) (hclo : fd.closure = [])
    (hkind : ∀ n, (binds.all fun x => decide (fd.scope.names.lookup x.1 = some .local) || (decide (fd.scope.names.lookup x.1 = some .cell) && ((cellsFrom n fd.scope.names []).lookup x.1).isSome)) = true)
    (h : ∀ env s₁, env = callEnvC fd s.heap.objs.size f → Sm s s₁ → Ext s.heap s₁.heap → s₁.heap.Ns env.locals (bindL env.kindOf binds fun _ => none) → s.heap.get? env.locals = none →
      (∀ n c, env.cells.lookup n = some c → s₁.heap.IsCell c (bindC env.kindOf binds (fun _ => none) n)) → (∀ n c, env.cells.lookup n = some c → s.heap.get? c = none ∧ c ≠ env.locals) →
      wpAny (model prog w) (A.deeper env) (execs body env) (fun f s' => Q (match f with | .ret v => v | _ => .none) s') (fun _ _ => False) s₁)
    (hco : fd.scope.isCoroutine = false := by rfl) (hgen : fd.scope.isGenerator = false := by rfl) (hk : fd.scope.kind = .function := by rfl) :
    wpAny (model prog w) A (call (.ref f) pos) Q E s := by
  refine wpAny_call (codeAny_call_cells hroom (G.X _ _ ho) hdata G.lim (codeRec_of G.X hcd) hbody hbind hclo (fun x hx => ?_) (fun s₁ x => ?_) hco hgen hk)
  · have := List.all_eq_true.mp (hkind (s.heap.objs.size + 1)) x hx
    simpa using this
  refine wpAny_mono (h _ s₁ rfl x.toInCall.same x.toInCall.keep x.toInCall.ns (push_none _) (fun n c q => x.cell n c q) (fun n c q => ?_)) (fun _ _ q => q) fun _ _ f => f.elim
  have h1 := x.above n c (mem_of_lookup q)
  have h2 : s.heap.objs.size ≤ (callEnvC fd s.heap.objs.size f).locals := x.toInCall.fresh
  exact ⟨get_none_ge (Nat.le_of_lt (Nat.lt_of_le_of_lt h2 h1)), Nat.ne_of_gt h1⟩
theorem callDefKw {x kn : Str} {np pos kp : Pos} {e kv : Expr} {f : Addr} {o : Obj} {fd : FuncData} {Q : Value → Shared → Prop}
    (ho : K.lookup f = some o) (hd : o.data = .func fd) (hx : ∀ {Q' : Value → Shared → Prop}, Q' (.ref f) s → wpAny M A (eval (.Name x np) env) Q' E s)
    (hst : starEach [e] env = [(false, eval e env)]) (hkw : keywordEach [⟨some kn, kv, kp⟩] env = [(some kn, eval kv env)])
    (h : wpAny M A (eval e env) (fun v s₁ => wpAny M A (eval kv env) (fun u s₂ => Gr K s₂.heap ∧ wpAny M A (call (.ref f) [v] [(kn, u)]) Q E s₂) E s₁) E s) :
    wpAny M A (eval (.Call (.Name x np) [e] [⟨some kn, kv, kp⟩] pos) env) Q E s := by
  refine wpAny_Call_ofName (hx ?_)
  rw [hst, hkw]
  refine callWith_function_kw (o := o) (fd := fd) (evalArgs_kw rfl (spliced_cons (wpAny_mono h (fun v s₁ q => spliced_nil ?_) fun _ _ e => e)))
  exact wpAny_evalAll_cons (wpAny_bind (wpAny_mono q (fun u s₂ q => wpAny_bind (wpAny_standAt (wpAny_pure (wpAny_evalAll_nil ⟨⟨q.1.X _ _ ho, hd⟩, q.2⟩)))) fun _ _ e => e))
theorem nm_cell {x : Str} {pos : Pos} {c : Addr} {v : Value} {Q : Value → Shared → Prop} (hk : env.scope.kind = .function) (hx : env.kindOf x = some .cell) (hc : env.cells.lookup x = some c) (hv : s.heap.IsCell c (some v)) (h : Q v s)
    (hd : (x == ("__debug__" : Str)) = false := by decide) : wpAny M A (eval (.Name x pos) env) Q E s := wpAny_Name (wpAny_loadName_cell hk hx hc hv h) hd
theorem IsCell.ext {h h' : Heap} {c : Addr} {v : Option Value} (e : Ext h h') (x : h.IsCell c v) : h'.IsCell c v := x.keeps e
theorem Go.isCell {Fr : List Addr} {s s₁ : Shared} {c : Addr} {v : Option Value} (g : Go Fr s s₁) (x : s.heap.IsCell c v) : s₁.heap.IsCell c v := by
  obtain ⟨o, h1, h2⟩ := x
  obtain ⟨sl, q⟩ := g.kept h1
  exact ⟨_, q, h2⟩
theorem cell_ne_ns {h : Heap} {c L : Addr} {v : Option Value} {m : Str → Option Value} (x : h.IsCell c v) (n : h.Ns L m) : c ≠ L := by
  rintro rfl
  obtain ⟨o, h1, h2⟩ := x
  obtain ⟨o', es, ep, ho', hd', _⟩ := n
  rw [h1] at ho'; cases ho'; rw [h2] at hd'; cases hd'
end

abbrev IL (ns : List Int) : PyData := .list (ns.map .int)
abbrev TL (ns : List Int) : PyData := .tuple (ns.map .int)
theorem eqvAll_ints : ∀ (a b : List Int), PyData.eqvAll (a.map .int) (b.map .int) = decide (a = b)
  | [], [] => rfl
  | [], _ :: _ => by simp [PyData.eqvAll]
  | _ :: _, [] => by simp [PyData.eqvAll]
  | x :: a, y :: b => by
    simp only [List.map_cons, PyData.eqvAll, eqvAll_ints a b, PyData.eqv]
    by_cases h1 : x = y <;> by_cases h2 : a = b <;> simp [h1, h2]
theorem eqv_IL (a b : List Int) : PyData.eqv (IL a) (IL b) = decide (a = b) := by rw [PyData.eqv]; exact eqvAll_ints a b
theorem eqv_TL (a b : List Int) : PyData.eqv (TL a) (TL b) = decide (a = b) := by rw [PyData.eqv]; exact eqvAll_ints a b
theorem lay_ints : ∀ a : List Int, PyData.canLayAll0 (a.map .int) = true
  | [] => rfl
  | _ :: a => by simp [PyData.canLayAll0, PyData.canLay0, lay_ints a]
theorem depth_ints : ∀ a : List Int, PyData.depthAll (a.map .int) = 0
  | [] => rfl
  | _ :: a => by simp [PyData.depthAll, PyData.depth, depth_ints a]
theorem lay_IL (a : List Int) : (IL a).canLay0 = true := by rw [PyData.canLay0]; exact lay_ints a
theorem lay_TL (a : List Int) : (TL a).canLay0 = true := by rw [PyData.canLay0]; exact lay_ints a
theorem depth_IL (a : List Int) : (IL a).depth = 1 := by rw [PyData.depth, depth_ints]
theorem depth_TL (a : List Int) : (TL a).depth = 1 := by rw [PyData.depth, depth_ints]
theorem lay_ILs (rows : List (List Int)) : PyData.canLayAll0 (rows.map IL) = true := by
  induction rows with
  | nil => rfl
  | cons a r ih => simp only [List.map_cons, PyData.canLayAll0, lay_IL, ih, Bool.and_self]
theorem depth_ILs (rows : List (List Int)) : PyData.depthAll (rows.map IL) ≤ 1 := by
  induction rows with
  | nil => simp [PyData.depthAll]
  | cons a r ih => simp only [List.map_cons, PyData.depthAll, depth_IL]; omega
end Mine
end

section
open PySem PySem.W PyProof.Rows PySem.Calls
namespace Mine
section
variable {prog : Program} {w : World} {M : Model} {A : Around} {E : Value → Shared → Prop} {s : Shared} {K : Frag} {env : Env} {Fr W : List Addr}
/-- iter(v) -/
theorem bi_iter {v : Value} {Q : Value → Shared → Prop} (h : wpAny (model prog w) A.in1 (pyIter v) Q E s) : wpAny (model prog w) A (call (.builtin "iter") [v]) Q E s := by
  refine call_function_entry (by decide +kernel) (by decide +kernel) kdk_entry_iter (kdk_args_iter _) ?_
  unfold Builtin.«iter»
  refine wpAny_bind (m := someArgs "iter" 1 2 _) (wpAny_of_eq (a := [v]) (by first | rfl | kernel_rfl!) ?_)
  show wpAny _ _ (pyIter v >>= _) _ _ _
  exact wpAny_bind (wpAny_mono h (fun u s' q => wpAny_pure ⟨_, rfl, q⟩) fun _ _ e => e)

/-- for x in <an iterator I>: J i m s is what holds before turn i -/
theorem for_walk {R : Result → Shared → Prop} {x : Str} {px : Pos} {body : List Stmt} {I : Addr} {fp : List Addr} {n : Nat} {P : Nat → Value → Prop} {St : Nat → Heap → Prop} (Wk : Walks prog w A I fp [I] n P St) (J : Nat → (Str → Option Value) → Shared → Prop)
    (hk : env.scope.kind = .function) (hx : env.kindOf x = some .local) (hLI : env.locals ≠ I) (hLf : env.locals ∉ fp)
    (hJ : ∀ i m s', J i m s' → St i s'.heap ∧ s'.heap.Ns env.locals m)
    (turn : ∀ i v m s' s'', J i m s' → i < n → P i v → Sm s' s'' → St (i + 1) s''.heap → s''.heap.Ns env.locals (fun y => if y = x then some v else m y) →
      (∀ b o, b ≠ I → b ≠ env.locals → s'.heap.get? b = some o → s''.heap.get? b = some o) →
      wpAny (model prog w) A (execs body env) (fun f s₃ => match f with
        | .next | .cont => ∃ m', J (i + 1) m' s₃
        | .brk => R (.ok .next) s₃
        | .ret v => R (.ok (.ret v)) s₃) (notedBy (model prog w) A env fun e s' => R (.error e) s') s'')
    (done : ∀ m s' s'', J n m s' → Sm s' s'' → Heap.ExtBut I s'.heap s''.heap → R (.ok .next) s'')
    {m₀ : Str → Option Value} (h : J 0 m₀ s) : codeAny (model prog w) A (.forLoop (.Name x px) (.ref I) body [] env) R s := by
  refine codeAny_forLoop_any (fun k s' => ∃ i m, J i m s' ∧ i ≤ n ∧ k = n - i) ?_ n ⟨0, m₀, h, Nat.zero_le _, rfl⟩
  rintro k s' ⟨i, m, hj, hi, rfl⟩
  obtain ⟨st, hn⟩ := hJ i m s' hj
  by_cases hlt : i < n
  · refine Wk.item i s' _ _ hlt st fun v h₁ tk hPv st₁ hk₁ => ?_
    have hbI : ∀ b o, b ≠ I → s'.heap.get? b = some o → h₁.get? b = some o := fun b o hb q => hk₁ b o (by simpa using hb) q
    refine wpAny_of_eq (a := ()) (by rfl) ?_
    have hn₁ : h₁.Ns env.locals m := by
      obtain ⟨o, es, ep, q, z⟩ := hn
      exact ⟨o, es, ep, hbI _ _ hLI q, z⟩
    refine wpAny_assign_Name (st_local hn₁ hk hx fun s₂ sm₂ hn₂ hs₂ => ?_)
    refine wpAny_mono (turn i v m s' s₂ hj hlt hPv (Sm.trans ⟨h₁, tk, rfl⟩ sm₂) (Wk.frame _ _ _ st₁ fun b hb o q => hs₂.extBut b o (fun z => hLf (z ▸ hb)) q) hn₂ fun b o hb hb' e => hs₂.extBut b o hb' (hbI b o hb e)) (fun f s₃ q => ?_) fun _ _ e => e
    cases f with
    | next => obtain ⟨m', q⟩ := q; exact ⟨n - (i + 1), by omega, i + 1, m', q, hlt, rfl⟩
    | cont => obtain ⟨m', q⟩ := q; exact ⟨n - (i + 1), by omega, i + 1, m', q, hlt, rfl⟩
    | brk => exact q
    | ret v => exact q
  · have hi' : i = n := by omega
    subst hi'
    refine Wk.done s' _ _ st fun h₁ tk hk₁ => ?_
    exact wpAny_execs_nil (done m s' _ hj ⟨h₁, tk, rfl⟩ fun b o hb q => hk₁ b o (by simpa using hb) q)
end
end Mine
end

section
open PySem PySem.W PyProof.Rows PySem.Calls
open AutoSeq1 (wpAny_loadPart')
open MeetsSeq MeetsSeq2 MeetsSeq3 SeqRoads2 SeqAt
namespace Mine
theorem remove_loopAt (l : Addr) (items : Array Value) (n : Nat) (x : Value) (e : Value → Bool) (j : Nat) (hj : j < items.size)
    (hit : e items[j] = true) (k : Nat) (hs1 : items.size ≤ sizeLine) :
    ∀ i : Nat, j - i = k → i ≤ j → (∀ m (hm : m < items.size), i ≤ m → m < j → e items[m] = false) → Meets (Builtin.«list.remove.loop» ⟨[.ref l, x, rawInt i], []⟩)
      (fun A R s => s.heap.get? l = some { cls := .type "list", dict := none, data := .seq items n, slots := #[] } ∧ (∀ y, y ∈ items → EqAt A.in1 s y x (e y)) ∧ R (.ok (.ret .none)) { s with heap := s.heap.update l (Obj.mapSeq fun xs => xs.eraseIdxIfInBounds j) }) := by
  induction k with
  | zero =>
    intro i hk hij hno prog w A R s h
    obtain ⟨hp, g, d, tk, os⟩ := s; obtain ⟨hl, he, h⟩ := h
    have hij' : i = j := by omega
    subst hij'
    wp_walk using wpAny_loadPart' hl
    have hi : items[((i : Nat) : Int).toNat]? = some items[i] := by simp [hj]
    rw [hi]
    refine wpAny_bind (he _ (Array.getElem_mem hj) prog w _ _ ?_)
    rw [hit]
    have hz' : (items.eraseIdxIfInBounds i).size ≤ sizeLine + 1 := Nat.le_trans (size_erased items _) (Nat.le_succ_of_le hs1)
    wp_walk using (wpAny_updateSeq hl rfl (hz := hs1) (_hz' := hz')), wpAny_loadPart' hl
    simpa using h
  | succ k ih =>
    intro i hk hij hno prog w A R s h
    obtain ⟨hp, g, d, tk, os⟩ := s; obtain ⟨hl, he, h⟩ := h
    have hlt : i < items.size := by omega
    wp_walk using wpAny_loadPart' hl
    have hi : items[((i : Nat) : Int).toNat]? = some items[i] := by simp [hlt]
    have hc : ((i : Int) + 1) = ((i + 1 : Nat) : Int) := by push_cast; rfl
    rw [hi]
    refine wpAny_bind (he _ (Array.getElem_mem hlt) prog w _ _ ?_)
    rw [hno i hlt (Nat.le_refl _) (by omega)]
    wp_walk
    rw [hc]
    exact ⟨plainId_quiet plain_remove_loop _, codeAny_builtin entry_remove_loop (by
      rw [Around.under_plainId plain_remove_loop _]
      exact ih (i + 1) (by omega) (by omega) (fun m hm h1 h2 => hno m hm (by omega) h2) prog w A R _ ⟨hl, he, h⟩)⟩
theorem list_removeAt (l : Addr) (items : Array Value) (n : Nat) (x : Value) (e : Value → Bool) (j : Nat) (hj : j < items.size)
    (hit : e items[j] = true) (hno : ∀ m (hm : m < items.size), m < j → e items[m] = false) (hs1 : items.size ≤ sizeLine) :
    Meets (Builtin.«list.remove» ⟨[.ref l, x], []⟩)
      (fun A R s => s.heap.get? l = some { cls := .type "list", dict := none, data := .seq items n, slots := #[] } ∧ (∀ y, y ∈ items → EqAt A.in1 s y x (e y)) ∧ R (.ok (.ret .none)) { s with heap := s.heap.update l (Obj.mapSeq fun xs => xs.eraseIdxIfInBounds j) }) := by
  intro prog w A R s h
  obtain ⟨hp, g, d, tk, os⟩ := s; obtain ⟨hl, he, h⟩ := h
  wp_walk using wpAny_loadPart' hl
  exact ⟨plainId_quiet plain_remove_loop _, codeAny_builtin entry_remove_loop (by
    rw [Around.under_plainId plain_remove_loop _]
    exact remove_loopAt l items n x e j hj hit _ hs1 0 rfl (Nat.zero_le _) (fun m hm _ h2 => hno m hm h2) prog w A R _ ⟨hl, he, h⟩)⟩
theorem remove_loop_noneAt (l : Addr) (items : Array Value) (n : Nat) (x : Value) (e : Value → Bool) (hno : ∀ m (hm : m < items.size), e items[m] = false) (k : Nat) :
    ∀ i : Nat, items.size - i = k → Meets (Builtin.«list.remove.loop» ⟨[.ref l, x, rawInt i], []⟩)
      (fun A R s => s.heap.get? l = some { cls := .type "list", dict := none, data := .seq items n, slots := #[] } ∧ (∀ y, y ∈ items → EqAt A.in1 s y x (e y)) ∧ raisesNew "ValueError" A R s) := by
  induction k with
  | zero =>
    intro i hk prog w A R s h
    obtain ⟨hp, g, d, tk, os⟩ := s; obtain ⟨hl, he, h⟩ := h
    wp_walk using wpAny_loadPart' hl
    have hi : items[((i : Nat) : Int).toNat]? = none := by simp; omega
    rw [hi]
    wp_walk
    exact_raiseError plainExc_ValueError h.1 h.2
  | succ k ih =>
    intro i hk prog w A R s h
    obtain ⟨hp, g, d, tk, os⟩ := s; obtain ⟨hl, he, h⟩ := h
    have hlt : i < items.size := by omega
    wp_walk using wpAny_loadPart' hl
    have hi : items[((i : Nat) : Int).toNat]? = some items[i] := by simp [hlt]
    have hc : ((i : Int) + 1) = ((i + 1 : Nat) : Int) := by push_cast; rfl
    rw [hi]
    refine wpAny_bind (he _ (Array.getElem_mem hlt) prog w _ _ ?_)
    rw [hno i hlt]
    wp_walk
    rw [hc]
    exact ⟨plainId_quiet plain_remove_loop _, codeAny_builtin entry_remove_loop (by
      rw [Around.under_plainId plain_remove_loop _]
      exact ih (i + 1) (by omega) prog w A R _ ⟨hl, he, h⟩)⟩
theorem list_remove_noneAt (l : Addr) (items : Array Value) (n : Nat) (x : Value) (e : Value → Bool) (hno : ∀ m (hm : m < items.size), e items[m] = false) :
    Meets (Builtin.«list.remove» ⟨[.ref l, x], []⟩)
      (fun A R s => s.heap.get? l = some { cls := .type "list", dict := none, data := .seq items n, slots := #[] } ∧ (∀ y, y ∈ items → EqAt A.in1 s y x (e y)) ∧ raisesNew "ValueError" A R s) := by
  intro prog w A R s h
  obtain ⟨hp, g, d, tk, os⟩ := s; obtain ⟨hl, he, h⟩ := h
  wp_walk using wpAny_loadPart' hl
  exact ⟨plainId_quiet plain_remove_loop _, codeAny_builtin entry_remove_loop (by
    rw [Around.under_plainId plain_remove_loop _]
    exact remove_loop_noneAt l items n x e hno _ 0 rfl prog w A R _ ⟨hl, he, h⟩)⟩
end Mine
end

section
open PySem PySem.W PyProof.Rows PySem.Calls
namespace Mine
theorem lay_iff {xs : List PyData} : PyData.canLayAll0 xs = true ↔ ∀ x ∈ xs, x.canLay0 = true := by
  induction xs with
  | nil => simp [PyData.canLayAll0]
  | cons x xs ih => simp [PyData.canLayAll0, ih]
theorem dep_le {xs : List PyData} {n : Nat} : PyData.depthAll xs ≤ n ↔ ∀ x ∈ xs, x.depth ≤ n := by
  induction xs with
  | nil => simp [PyData.depthAll]
  | cons x xs ih => simp only [PyData.depthAll, List.mem_cons, forall_eq_or_imp, ← ih]; omega
theorem RdAll.eraseIdx {h : Heap} : ∀ {vs : List Value} {ds : List PyData} (j : Nat), RdAll h vs ds → RdAll h (vs.eraseIdx j) (ds.eraseIdx j)
  | [], [], _, r => r
  | [], _ :: _, _, r => by have := r.length; simp at this
  | _ :: _, [], _, r => by have := r.length; simp at this
  | _ :: _, _ :: _, 0, r => r.cons_inv.2
  | _ :: _, _ :: _, j + 1, r => RdAll.cons r.cons_inv.1 (RdAll.eraseIdx j r.cons_inv.2)
section
variable {prog : Program} {w : World} {A : Around} {E : Value → Shared → Prop} {s : Shared} {Fr W : List Addr} {T : Addr} {vs : List Value} {ts : List PyData} {x : Value} {d : PyData}
/-- t.remove(x) -/
theorem op_remove {Q : Value → Shared → Prop} (hT : s.heap.PlainList T vs.toArray) (rs : RdAll s.heap vs ts) (rx : Rd s.heap x d) (hts : PyData.canLayAll0 ts = true) (hd : d.canLay0 = true) (hdep : d.depth ≤ 8) (hu : A.units + 64 < cLine) (hlen : ts.length ≤ 100000) (hh : A.handled = none)
    (hit : ∀ j s', ts.findIdx? (fun y => PyData.eqv y d) = some j → Sm s s' → s'.heap.PlainList T (vs.eraseIdx j).toArray → Heap.SameBut T s.heap s'.heap → Q .none s')
    (hno : ∀ e s', ts.any (fun y => PyData.eqv y d) = false → Sm s s' → Heap.NewExc s.heap s'.heap e "ValueError" → E (.ref e) s') :
    wpAny (model prog w) A (call (.builtin "list.remove") [.ref T, x]) Q E s := by
  obtain ⟨n, ho⟩ := hT
  obtain ⟨as, rs'⟩ := id rs
  obtain ⟨bs, rx'⟩ := rx
  have hmap := SeqAt.readsAll_map ts vs as hts rs'
  have he : ∀ y, y ∈ vs.toArray → SeqAt.EqAt A.in1 s y x (PyData.eqv (SeqAt.readOf s.heap y) d) := SeqAt.items_eqAt (vs := vs.toArray) rs' rx' hts hd (by omega)
  have hsz : vs.toArray.size ≤ sizeLine := by have := rs.length; rw [sizeLine_eq]; simp; omega
  have hfi : vs.findIdx? (fun y => PyData.eqv (SeqAt.readOf s.heap y) d) = ts.findIdx? (fun y => PyData.eqv y d) := by
    rw [← hmap, List.findIdx?_map]; rfl
  cases q : ts.findIdx? (fun y => PyData.eqv y d) with
  | some j =>
    rw [q] at hfi
    obtain ⟨hj, h1, h2⟩ := List.findIdx?_eq_some_iff_getElem.mp hfi
    refine call_meets F.slot_list_remove ⟨_, ho, rfl⟩ F.entry_list_remove (F.args_list_remove_2 _ _) (list_removeAt T vs.toArray n x _ j (by simpa using hj) (by simpa using h1) (fun m hm hmj => by simpa using h2 m hmj) hsz) ⟨ho, he, ?_⟩
    refine hit j _ q (Sm.heap s _) ?_ (Heap.SameBut.update ..)
    have this : vs.toArray.eraseIdxIfInBounds j = (vs.eraseIdx j).toArray := by simp
    rw [← this]
    exact ⟨_, Heap.get?_update_self (Obj.mapSeq fun xs => xs.eraseIdxIfInBounds j) ho (by simp [Obj.mapSeq]; rfl)⟩
  | none =>
    have hno' := List.findIdx?_eq_none_iff.mp (hfi.trans q)
    refine call_meets F.slot_list_remove ⟨_, ho, rfl⟩ F.entry_list_remove (F.args_list_remove_2 _ _) (list_remove_noneAt T vs.toArray n x _ (fun m hm => by simpa using hno' _ (List.getElem_mem (by simpa using hm)))) ⟨ho, he, hh, fun h' tk e ne => ?_⟩
    refine hno e _ ?_ ⟨h', tk, rfl⟩ ne
    rw [List.any_eq_false]
    intro y hy
    have := List.findIdx?_eq_none_iff.mp q y hy
    simpa using this

/-- a new exception in a loop's turn in this frame's own try: noted, handed on by the loop, looked at by the handlers -/
theorem land_loop {M : Model} {A : Around} {E0 : Value → Shared → Prop} {s : Shared} {env : Env} {outer : List Env} {L e : Addr} {g : Heap} {cls t : Value} {Q : Value → Unit → Shared → Prop} {E : Value → Value → Shared → Prop} {oe : Obj} (hfr : A.frames = some (env :: outer)) (hl : s.heap.FunFrames g (env :: outer)) (hf : env.frame = some L)
    (he : s.heap.get? e = some oe) (hc : oe.cls = cls) (hd : oe.data = .fields #[t, .none, .none, .none, .bool false, .none])
    (h : ∀ s' tb, Sm s s' → s.heap.get? tb = none → Mk e ((env :: outer).filterMap (·.frame)) s.heap s'.heap → Tb s'.heap e cls t tb .none → Q (.ref e) () s') :
    wpAny M A (noteFrame (.ref e) env) (fun _ s'' => cameBackBy M A env (fun e s₁ => wpAny M A (noteFrame e env) (fun _ s₂ => wpAny M A (setFlight e none) (Q e) (E e) s₂) (E e) s₁) (.ref e) s'') E0 s := by
  refine note_new hfr hl hf he hc hd fun s₂ tb sm hn mk ht => ?_
  unfold cameBackBy
  have ht0 := ht
  obtain ⟨ob, ot, ts, h1, h2, h3, h4, h5, h6, h7, h8⟩ := ht0
  refine wpAny_bind (wpAny_field h1 h3 (x := .ref tb) (by rfl) ?_)
  refine KFB.if_not (by simp) ?_
  rw [hf]
  refine flight ht fun s₃ sm₃ hs₃ ht₃ => ?_
  refine note_again hf ht₃ ?_
  refine flight ht₃ fun s₄ sm₄ hs₄ ht₄ => ?_
  exact h s₄ tb (sm.trans (sm₃.trans sm₄)) hn ((mk.but hn hs₃).but hn hs₄) ht₄
end
end Mine
end

section
open PySem PySem.W PyProof.Rows PySem.Calls
namespace Mine
section
variable {prog : Program} {w : World} {M : Model} {A : Around} {E : Value → Shared → Prop} {s : Shared} {K : Frag}
theorem call_enterE {f : Addr} {o : Obj} {fd : FuncData} {body : List Stmt} {pos : List Value} {kw : List (Str × Value)} {binds : List (Str × Value)} {Q : Value → Shared → Prop}
    (G : Gr K s.heap) (hroom : A.depth < recursionLimit) (ho : K.lookup f = some o) (hdata : o.data = .func fd) (hcd : codeIn K fd.code fd.qualname = true) (hbody : fd.body = .stmts body) (hbind : BindsTo s fd ⟨pos, kw⟩ binds)
    (hcell : ∀ x ∈ fd.scope.names, x.2 ≠ .cell) (hloc : ∀ x ∈ binds, fd.scope.names.lookup x.1 = some .local)
    (h : ∀ env s₁, env = callEnv fd s.heap.objs.size f → Sm s s₁ → Ext s.heap s₁.heap → s₁.heap.Ns env.locals (fun x => binds.reverse.lookup x) → s.heap.get? env.locals = none →
      wpAny (model prog w) (A.deeper env) (execs body env) (fun f s' => Q (match f with | .ret v => v | _ => .none) s') (fun e s' => wpAny (model prog w) (A.deeper env) (leaving env e) (fun _ s'' => E e s'') E s') s₁)
    (hco : fd.scope.isCoroutine = false := by rfl) (hgen : fd.scope.isGenerator = false := by rfl) (hk : fd.scope.kind = .function := by rfl) :
    wpAny (model prog w) A (call (.ref f) pos kw) Q E s := by
  refine wpAny_call (codeAny_call_def hroom (G.X _ _ ho) hdata G.lim (codeRec_of G.X hcd) hbody hbind hcell hloc (fun h₀ hn he => ?_) hco hgen hk)
  exact wpAny_mono (h _ _ rfl (Sm.mk s h₀ _) he hn (get_none_ge (Nat.le_refl _))) (fun _ _ q => q) fun _ _ f => f
end
section
variable {prog : Program} {w : World} {M : Model} {A : Around} {E : Value → Shared → Prop} {s : Shared} {env : Env} {outer : List Env} {L e tb : Addr} {g : Heap} {cls t : Value}
/-- an exception that has left a frame, noted in the next one -/
theorem note_next {Q : Unit → Shared → Prop} (hfr : A.frames = some (env :: outer)) (hl : s.heap.FunFrames g (env :: outer)) (hf : env.frame = some L) (ht : Tb s.heap e cls t tb .none)
    (h : ∀ s' tb', Sm s s' → s.heap.get? tb' = none → (∀ b o, b ≠ e → b ≠ tb → b ∉ (env :: outer).filterMap (·.frame) → s.heap.get? b = some o → s'.heap.get? b = some o) → (∀ b o, b ≠ e → b ≠ tb → s.heap.get? b = some o → ∃ sl, s'.heap.get? b = some { o with slots := sl }) →
      Tb s'.heap e cls t tb' (rawInt L) → Q () s') : wpAny M A (noteFrame (.ref e) env) Q E s := by
  obtain ⟨ob, ot, ts, h1, h2, h3, h4, h5, h6, h7, h8⟩ := ht
  have hnf : ∀ (b : Addr) (o : Obj) (vs : Array Value), s.heap.get? b = some o → o.data = .fields vs → b ∉ (env :: outer).filterMap (·.frame) := fun b o vs q1 q2 hm => by
    obtain ⟨_, o', ho', hn'⟩ := hl.mem hm
    rw [q1] at ho'; cases ho'; exact hn' vs q2
  unfold noteFrame
  simp only [hf]
  refine wpAny_bind (wpAny_field h1 h3 (x := .ref tb) (by rfl) ?_)
  rw [if_pos (show (Value.ref tb != Value.none) = true from by simp)]
  refine wpAny_bind (wpAny_field h5 h6 h8 ?_)
  rw [if_neg (by simp [rawInt])]
  refine wpAny_bind (wpAny_setField h5 h6 h7 ?_)
  have hd6 := Obj.data_mapFields h6 (·.setIfInBounds 3 Value.none)
  have he1 : (s.heap.update tb (Obj.mapFields (·.setIfInBounds 3 Value.none))).get? e = some ob := (Heap.get?_update_other _ _ h4).trans h1
  have hl1 : (s.heap.update tb (Obj.mapFields (·.setIfInBounds 3 Value.none))).FunFrames g (env :: outer) := hl.of_keeps fun b o q hn => by
    by_cases hb : b = tb
    · subst hb; rw [h5] at q; cases q; exact absurd h6 (hn _)
    · exact ⟨o, (Heap.get?_update_other _ _ (Ne.symm hb)).trans q, rfl⟩
  refine wpAny_bind (wpAny_frameOf_fun hfr hl1 hf fun h₁ hs₁ => ?_)
  refine wpAny_bind (wpAny_entryPlaceOf fun pl hpl => ?_)
  unfold EntryCells.newEntry newFields
  refine wpAny_bind (wpAny_newObj_type ?_ (hpl.sizeOk5 _ _ _ _ _))
  have hene := hnf e ob _ h1 h3
  have he₁ : h₁.get? e = some ob := (hs₁.2.1 e hene).trans he1
  have he₂ := Heap.get?_push_of_some (h := h₁) { cls := .type "traceback", dict := none, data := .fields ([Value.ref tb, .ref L, .none, rawInt L, .none] ++ (if pl.isEmpty then List.replicate 6 Value.none else pl)).toArray } he₁
  refine wpAny_setField he₂ h3 (by simp) ?_
  have hTe : h₁.objs.size ≠ e := Nat.ne_of_gt (Heap.lt_size he₁)
  have htbn : s.heap.get? h₁.objs.size = none := get_none_ge (by rw [hs₁.1, Heap.size_after_update]; exact Nat.le_refl _)
  refine h _ h₁.objs.size (Sm.heap s _) htbn (fun b o hb hbt hbf q => ?_) (fun b o hb hbt q => ?_) ?_
  · rw [Heap.get?_update_other _ _ (Ne.symm hb)]
    exact Heap.get?_push_of_some _ ((hs₁.2.1 b hbf).trans ((Heap.get?_update_other _ _ (Ne.symm hbt)).trans q))
  · obtain ⟨sl, q'⟩ := hs₁.2.2 b o ((Heap.get?_update_other _ _ (Ne.symm hbt)).trans q)
    refine ⟨sl, ?_⟩
    rw [Heap.get?_update_other _ _ (Ne.symm hb)]
    exact Heap.get?_push_of_some _ q'
  · refine ⟨_, { cls := .type "traceback", dict := none, data := .fields ([Value.ref tb, .ref L, .none, rawInt L, .none] ++ (if pl.isEmpty then List.replicate 6 Value.none else pl)).toArray }, _, Heap.get?_update_self _ he₂ (Obj.isFreed_of_fields (Obj.data_mapFields h3 _)), (Obj.cls_mapFields ..).trans h2, ?_, hTe, ?_, rfl, ?_, ?_⟩
    · rw [Obj.data_mapFields h3]; rfl
    · rw [Heap.get?_update_other _ _ (Ne.symm hTe)]
      exact Heap.get?_push_size h₁ rfl
    · simp
    · simp
/-- raise, alone, where e is being handled: it leaves the handler, and the frame -/
theorem reraise {Q : Flow → Shared → Prop} {pos : Pos} {fl : Value} {A' : Around} (hA' : A'.handled = some (.ref e)) (hf : env.frame = some L) (ht : Tb s.heap e cls t tb fl)
    (hE : ∀ s', Sm s s' → Heap.SameBut tb s.heap s'.heap → Tb s'.heap e cls t tb (rawInt L) → E (.ref e) s') : wpAny M A' (exec (.Raise none none pos) env) Q E s := by
  show wpAny M A' (do standAt pos; raiseStmt env none none) Q E s
  refine wpAny_bind (wpAny_standAt ?_)
  unfold raiseStmt
  refine wpAny_bind (wpAny_handled ?_)
  rw [hA']
  have ht0 := ht
  obtain ⟨ob, ot, ts, h1, h2, h3, h4, h5, h6, h7, h8⟩ := ht0
  refine wpAny_bind (wpAny_rule (wpAny_bind (wpAny_field h1 h3 (x := .ref tb) (by rfl) ?_)))
  refine KFB.if_not (by simp) ?_
  rw [hf]
  refine wpAny_bind (flight ht fun s₃ sm₃ hs₃ ht₃ => ?_)
  exact wpAny_throw (hE s₃ sm₃ hs₃ ht₃)
end
end Mine
end

section
open PySem PySem.W PyProof.Rows PySem.Calls
namespace Mine
theorem RdAll.drop {h : Heap} : ∀ {vs : List Value} {ds : List PyData} (j : Nat), RdAll h vs ds → RdAll h (vs.drop j) (ds.drop j)
  | [], [], j, _ => by simpa using RdAll.nil
  | [], _ :: _, _, r => by have := r.length; simp at this
  | _ :: _, [], _, r => by have := r.length; simp at this
  | _ :: _, _ :: _, 0, r => r
  | _ :: _, _ :: _, j + 1, r => RdAll.drop j r.cons_inv.2
theorem RdAll.take {h : Heap} : ∀ {vs : List Value} {ds : List PyData} (j : Nat), RdAll h vs ds → RdAll h (vs.take j) (ds.take j)
  | [], [], j, _ => by simpa using RdAll.nil
  | [], _ :: _, _, r => by have := r.length; simp at this
  | _ :: _, [], _, r => by have := r.length; simp at this
  | _ :: _, _ :: _, 0, r => RdAll.nil
  | _ :: _, _ :: _, j + 1, r => RdAll.cons r.cons_inv.1 (RdAll.take j r.cons_inv.2)
theorem RdAll.reverse {h : Heap} : ∀ {vs : List Value} {ds : List PyData}, RdAll h vs ds → RdAll h vs.reverse ds.reverse
  | [], [], _ => RdAll.nil
  | [], _ :: _, r => by have := r.length; simp at this
  | _ :: _, [], r => by have := r.length; simp at this
  | _ :: _, _ :: _, r => by
    rw [List.reverse_cons, List.reverse_cons]
    exact r.cons_inv.2.reverse.snoc r.cons_inv.1
/-- xs[k:] -/
def dropI {α : Type} (xs : List α) (k : Int) : List α := if 0 ≤ k then xs.drop k.toNat else xs.drop (xs.length - (-k).toNat)
theorem pick_from (vs : List Value) (k : Int) : slicePick vs.toArray (some k) none none = (dropI vs k).toArray := by
  unfold dropI
  by_cases h : 0 ≤ k
  · rw [if_pos h]
    obtain ⟨n, rfl⟩ := Int.eq_ofNat_of_zero_le h
    rw [slicePick_from']; simp
  · rw [if_neg h]
    obtain ⟨n, hn⟩ := Int.eq_ofNat_of_zero_le (show 0 ≤ -k by omega)
    have : k = -(n : Int) := by omega
    subst this
    rw [slicePick_last _ n (by omega)]; simp
theorem RdAll.dropI {h : Heap} {vs : List Value} {ds : List PyData} (k : Int) (r : RdAll h vs ds) : RdAll h (Mine.dropI vs k) (Mine.dropI ds k) := by
  unfold Mine.dropI
  split
  · exact r.drop _
  · rw [r.length]; exact r.drop _
section
variable {prog : Program} {w : World} {A : Around} {E : Value → Shared → Prop} {s : Shared} {env : Env} {Fr W : List Addr}
theorem slice_new {o vl vu vs' : Value} {lo hi st : Option Int} {xs ys : List PyData} {slice value : Expr} {Q : Value → Shared → Prop} (lv : Live W s.heap) (r : Rd (V W s.heap) o (.list xs)) (hlen : xs.length ≤ 1000000) (pl : IsPart vl lo) (pu : IsPart vu hi) (ps : IsPart vs' st) (h0 : st ≠ some 0)
    (hs : ∀ o i, ∃ ops, subscripted slice false o i = operate ops (getItem o i))
    (hp : ∀ vs : List Value, RdAll (V W s.heap) vs xs → ∃ ws, slicePick vs.toArray lo hi st = ws.toArray ∧ RdAll (V W s.heap) ws ys)
    (h : ∀ l s', Go Fr s s' → s.heap.get? l = none → RL (V W s'.heap) (.ref l) ys → Q (.ref l) s') :
    wpAny (model prog w) A (subscriptTail value slice o (.ref s.heap.objs.size)) Q E { s with heap := s.heap.push { cls := .type "slice", data := .fields #[vl, vu, vs'] } } := by
  obtain ⟨l, vs, rfl, hl, rs⟩ := r.list_inv
  have hls := IsList.ext V_le hl
  obtain ⟨ws, e, rw'⟩ := hp vs rs
  obtain ⟨ops, hs⟩ := hs (.ref l) (.ref s.heap.objs.size)
  refine tail_any (hls.push _).typeIs slot_list_getitem.lookup (wpAny_getItem_list_slice (hls.push _) (Heap.IsSliceOf.new ..) pl pu ps h0 ?_ (by have := rs.length; rw [sizeLine_eq]; simp; omega)) hs
  rw [e]
  have e0 := Ext.push s.heap { cls := .type "slice", data := .fields #[vl, vu, vs'] }
  have e1 := Ext.push (s.heap.push { cls := .type "slice", data := .fields #[vl, vu, vs'] }) { cls := .type "list", data := .seq ws.toArray }
  have hn : s.heap.get? (s.heap.push { cls := .type "slice", data := .fields #[vl, vu, vs'] }).objs.size = none := e0.fresh (push_none _)
  exact h _ _ (.of ⟨_, _, rfl⟩ (e0.trans e1)) hn ⟨_, ws, rfl, (DL.of_push _ ws).see (lv.not hn), rw'.mono (V_mono (e0.trans e1))⟩
/-- value[lower:] -/
theorem sub_from {value lower : Expr} {p pos : Pos} {Q : Value → Shared → Prop}
    (h : wpAny (model prog w) A (eval value env) (fun o s₁ => wpAny (model prog w) A (eval lower env) (fun vl s₂ => ∃ k t xs, vl = .int k t ∧ Live W s₂.heap ∧ Rd (V W s₂.heap) o (.list xs) ∧ xs.length ≤ 1000000 ∧
      ∀ l s', Go Fr s₂ s' → s₂.heap.get? l = none → RL (V W s'.heap) (.ref l) (dropI xs k) → Q (.ref l) s') E s₁) E s) :
    wpAny (model prog w) A (eval (.Subscript value (.Slice (some lower) none none p) pos) env) Q E s := by
  refine Subscript_ (wpAny_mono h (fun o s₁ q => wpAny_Slice (wpAny_mono q (fun vl s₂ q => ?_) fun _ _ e => e)) fun _ _ e => e)
  obtain ⟨k, t, xs, rfl, lv, r, hl, hq⟩ := q
  rw [evalPart_none]
  refine wpAny_pure (wpAny_pure ?_)
  exact slice_new lv r hl (.int k t) .none .none (by simp) (fun o i => ⟨_, rfl⟩) (fun vs rv => ⟨dropI vs k, pick_from vs k, rv.dropI k⟩) hq
/-- value[:n] -/
theorem sub_upto {value upper : Expr} {p pos : Pos} {Q : Value → Shared → Prop}
    (h : wpAny (model prog w) A (eval value env) (fun o s₁ => wpAny (model prog w) A (eval upper env) (fun vl s₂ => ∃ (n : Nat) (t : Tok) (xs : List PyData), vl = .int (n : Int) t ∧ Live W s₂.heap ∧ Rd (V W s₂.heap) o (.list xs) ∧ xs.length ≤ 1000000 ∧
      ∀ l s', Go Fr s₂ s' → s₂.heap.get? l = none → RL (V W s'.heap) (.ref l) (xs.take n) → Q (.ref l) s') E s₁) E s) :
    wpAny (model prog w) A (eval (.Subscript value (.Slice none (some upper) none p) pos) env) Q E s := by
  refine Subscript_ (wpAny_mono h (fun o s₁ q => wpAny_Slice ?_) fun _ _ e => e)
  rw [evalPart_none]
  refine wpAny_pure (wpAny_mono q (fun vl s₂ q => ?_) fun _ _ e => e)
  obtain ⟨k, t, xs, rfl, lv, r, hl, hq⟩ := q
  refine wpAny_pure ?_
  exact slice_new lv r hl .none (.int _ t) .none (by simp) (fun o i => ⟨_, rfl⟩) (fun vs rv => ⟨vs.take k, by rw [slicePick_upto'], rv.take k⟩) hq
/-- value[::-1] -/
theorem sub_rev {value step : Expr} {p pos : Pos} {Q : Value → Shared → Prop} (hstep : ∀ i o, ∃ ops, subscripted (.Slice none none (some step) p) false o i = operate ops (getItem o i))
    (h : wpAny (model prog w) A (eval value env) (fun o s₁ => wpAny (model prog w) A (eval step env) (fun vl s₂ => ∃ t xs, vl = .int (-1) t ∧ Live W s₂.heap ∧ Rd (V W s₂.heap) o (.list xs) ∧ xs.length ≤ 1000000 ∧
      ∀ l s', Go Fr s₂ s' → s₂.heap.get? l = none → RL (V W s'.heap) (.ref l) xs.reverse → Q (.ref l) s') E s₁) E s) :
    wpAny (model prog w) A (eval (.Subscript value (.Slice none none (some step) p) pos) env) Q E s := by
  refine Subscript_ (wpAny_mono h (fun o s₁ q => wpAny_Slice ?_) fun _ _ e => e)
  rw [evalPart_none]
  refine wpAny_pure (wpAny_pure (wpAny_mono q (fun vl s₂ q => ?_) fun _ _ e => e))
  obtain ⟨t, xs, rfl, lv, r, hl, hq⟩ := q
  exact slice_new lv r hl .none .none (.int _ t) (by simp) (fun o i => hstep i o) (fun vs rv => ⟨vs.reverse, by rw [krv_pick], rv.reverse⟩) hq
/-- value[i], i in bounds -/
theorem sub_item {value index : Expr} {pos : Pos} {Q : Value → Shared → Prop} (hs : ∀ o i, ∃ ops, subscripted index false o i = operate ops (getItem o i))
    (h : wpAny (model prog w) A (eval value env) (fun o s₁ => wpAny (model prog w) A (eval index env) (fun vl s₂ => ∃ (n : Nat) (t : Tok) (xs : List PyData) (d : PyData), vl = .int (n : Int) t ∧ Rd (V W s₂.heap) o (.list xs) ∧ xs.length ≤ 1000000 ∧ xs[n]? = some d ∧
      ∀ v, Rd (V W s₂.heap) v d → Q v s₂) E s₁) E s) :
    wpAny (model prog w) A (eval (.Subscript value index pos) env) Q E s := by
  refine Subscript_ (wpAny_mono h (fun o s₁ q => wpAny_mono q (fun vl s₂ q => ?_) fun _ _ e => e) fun _ _ e => e)
  obtain ⟨n, t, xs, d, rfl, r, hl, hd, hq⟩ := q
  obtain ⟨l, vs, rfl, hL, rs⟩ := r.list_inv
  obtain ⟨ops, hs⟩ := hs (.ref l) (.int n t)
  have hlt : n < vs.length := by rw [rs.length]; exact (List.getElem?_eq_some_iff.mp hd).1
  obtain ⟨d', hd', hr⟩ := rs.get (show vs[n]? = some vs[n] by simp [hlt])
  rw [hd] at hd'; cases hd'
  have hls := IsList.ext V_le hL
  have := rs.length
  exact tail_any hls.typeIs slot_list_getitem.lookup (wpAny_getItem_list hls (by omega) (by omega) (by simp [hlt]) (hq _ hr)) hs
/-- len(xs) -/
theorem op_len {v : Value} {xs : List PyData} {Q : Value → Shared → Prop} (r : Rd (V W s.heap) v (.list xs)) (hlen : xs.length ≤ 1000000) (h : ∀ t s', Go Fr s s' → Q (.int xs.length t) s') : wpAny (model prog w) A (call (.builtin "len") [v]) Q E s := by
  obtain ⟨l, vs, rfl, hl, rs⟩ := r.list_inv
  have e := rs.length
  refine call_len_list (IsList.ext V_le hl) (by simp; omega) ?_
  have : ((vs.toArray.size : Nat) : Int) = (xs.length : Int) := by simp [e]
  rw [this]
  exact h _ _ (.of ⟨_, _, rfl⟩ (Ext.refl _))
/-- xs.index(k) of ints -/
theorem op_index {l : Addr} {vs : List Value} {ns : List Int} {k : Int} {t : Tok} {Q : Value → Shared → Prop} (hl : DL s.heap l vs) (rs : RdAll s.heap vs (ns.map .int)) (hlen : ns.length ≤ 100000) (hk : k ∈ ns) (hu : A.units + 64 < cLine)
    (h : ∀ t s', Go Fr s s' → Q (.int (ns.idxOf k : Nat) t) s') : wpAny (model prog w) A (call (.builtin "list.index") [.ref l, .int k t]) Q E s := by
  obtain ⟨⟨cls, dd, data, sl⟩, n, ho, hc, hdn, hd⟩ := id hl
  simp only at hc hd hdn
  subst hc hd hdn
  obtain ⟨as, rs'⟩ := id rs
  have hmap := SeqAt.readsAll_map (ns.map .int) vs as (lay_ints ns) rs'
  have he : ∀ y, y ∈ vs.toArray → SeqAt.EqAt A.in1 s y (.int k t) (PyData.eqv (SeqAt.readOf s.heap y) (.int k)) := SeqAt.items_eqAt (vs := vs.toArray) rs' (.int k t) (lay_ints ns) rfl (by show A.units + 1 + min _ 0 < cLine; omega)
  have hvl : vs.length = ns.length := by rw [rs.length, List.length_map]
  have hj : ns.idxOf k < ns.length := List.idxOf_lt_length_of_mem hk
  have hget : ∀ m (hm : m < vs.length), PyData.eqv (SeqAt.readOf s.heap vs[m]) (.int k) = decide (ns[m]'(by omega) = k) := by
    intro m hm
    have : (vs.map (SeqAt.readOf s.heap))[m]? = some (SeqAt.readOf s.heap vs[m]) := by simp [hm]
    rw [hmap, List.getElem?_map, List.getElem?_eq_getElem (by omega)] at this
    have e := Option.some.inj this
    rw [← e]
    simp only [PyData.eqv]
    rw [Bool.eq_iff_iff]; simp
  refine call_meets F.slot_list_index ⟨_, ho, rfl⟩ F.entry_list_index (F.args_list_index_2 _ _) (SeqAt.list_indexAt l vs.toArray n none sl (.int k t) _ (ns.idxOf k) (by simp; omega) (by omega) ?_ ?_) ⟨ho, he, h _ _ (.of ⟨_, _, rfl⟩ (Ext.refl _))⟩
  · have := hget (ns.idxOf k) (by omega)
    simp only [List.getElem_toArray] at this ⊢
    rw [this]; simp
  · intro m hm hmj
    have := hget m (by simpa using hm)
    simp only [List.getElem_toArray] at this ⊢
    rw [this]
    have : ns[m]'(by simp at hm; omega) ≠ k := fun z => by
      have := List.not_of_lt_findIdx (p := (· == k)) (xs := ns) (i := m) hmj
      simp [z] at this
    simpa using this
end
end Mine
end

section
open PySem PySem.W PyProof.Rows PySem.Calls
namespace Mine
theorem ints_any {h h' : Heap} : ∀ {vs : List Value} {ns : List Int}, RdAll h vs (ns.map .int) → RdAll h' vs (ns.map .int)
  | [], [], _ => RdAll.nil
  | [], _ :: _, r => by have := r.length; simp at this
  | _ :: _, [], r => by have := r.length; simp at this
  | v :: vs, n :: ns, r => by
    obtain ⟨t, rfl⟩ := r.cons_inv.1.int_inv
    exact RdAll.cons (Rd.int n t) (ints_any r.cons_inv.2)
theorem rl_of_dl {W : List Addr} {h : Heap} {a : Addr} {vs : List Value} {xs : List PyData} (d : DL h a vs) (hW : a ∉ W) (r : RdAll (V W h) vs xs) : RL (V W h) (.ref a) xs := ⟨a, vs, rfl, d.see hW, r⟩
theorem dl_ne_cell {h : Heap} {a c : Addr} {vs : List Value} {v : Option Value} (d : DL h a vs) (x : h.IsCell c v) : a ≠ c := by
  rintro rfl
  obtain ⟨o, n, h1, _, _, h4⟩ := d
  obtain ⟨o', q1, q2⟩ := x
  rw [h1] at q1; cases q1; rw [h4] at q2; cases q2
theorem cell_but {h h' : Heap} {X c : Addr} {v : Option Value} (x : h.IsCell c v) (k : Heap.ExtBut X h h') (hne : c ≠ X) : h'.IsCell c v := by
  obtain ⟨o, q1, q2⟩ := x
  exact ⟨o, k c o hne q1, q2⟩
theorem cell_but2 {h h' : Heap} {X Y c : Addr} {v : Option Value} (x : h.IsCell c v) (k : ∀ b o, b ≠ X → b ≠ Y → h.get? b = some o → h'.get? b = some o) (hne : c ≠ X) (hne' : c ≠ Y) : h'.IsCell c v := by
  obtain ⟨o, q1, q2⟩ := x
  exact ⟨o, k c o hne hne' q1, q2⟩
theorem cell_ne_riter {h : Heap} {I c : Addr} {v : Option Value} {x l st : Int} (hi : IsRangeIter h I x l st) (k : h.IsCell c v) : c ≠ I := by
  rintro rfl
  obtain ⟨o, q1, q2⟩ := k
  have hi' : h.get? c = some _ := hi
  rw [q1] at hi'
  cases hi'
  cases q2
theorem ns_ne_riter {h : Heap} {I L : Addr} {m : Str → Option Value} {x l st : Int} (hi : IsRangeIter h I x l st) (k : h.Ns L m) : L ≠ I := by
  rintro rfl
  obtain ⟨o, es, ep, q1, q2, _⟩ := k
  have hi' : h.get? L = some _ := hi
  rw [q1] at hi'
  cases hi'
  cases q2
theorem dl_ne_riter {h : Heap} {I D : Addr} {vs : List Value} {x l st : Int} (hi : IsRangeIter h I x l st) (k : DL h D vs) : D ≠ I := by
  rintro rfl
  obtain ⟨o, n, q1, _, _, q2⟩ := k
  have hi' : h.get? D = some _ := hi
  rw [q1] at hi'
  cases hi'
  cases q2
theorem Go.riter {Fr : List Addr} {s s' : Shared} {I : Addr} {x l st : Int} (g : Go Fr s s') (hI : I ∉ Fr) (h : IsRangeIter s.heap I x l st) : IsRangeIter s'.heap I x l st := g.ext I _ hI h
abbrev RG (n : Nat) : List PyData := (List.range n).map fun (i : Nat) => PyData.int (i : Int)
theorem RG_get {n i : Nat} {d : PyData} (h : (RG n)[i]? = some d) : d = .int i ∧ i < n := by
  rw [List.getElem?_map] at h
  obtain ⟨a, q, rfl⟩ := Option.map_eq_some_iff.mp h
  obtain ⟨hi, e⟩ := List.getElem?_eq_some_iff.mp q
  rw [List.getElem_range] at e
  subst e
  exact ⟨rfl, by simpa using hi⟩
theorem RG_fm (n : Nat) (p : PyData → Bool) (f : PyData → PyData) : ((RG n).filter p).map f = ((List.range n).filter fun (i : Nat) => p (.int (i : Int))).map fun (i : Nat) => f (.int (i : Int)) := by
  rw [List.filter_map, List.map_map]; rfl
section
variable {prog : Program} {w : World} {M : Model} {A : Around} {E : Value → Shared → Prop} {s : Shared} {K : Frag} {env : Env} {Fr W : List Addr}
theorem st_cell {x : Str} {c : Addr} {v₀ : Option Value} {v : Value} {Q : Unit → Shared → Prop} (hk : env.scope.kind = .function) (hx : env.kindOf x = some .cell) (hc : env.cells.lookup x = some c) (hv : s.heap.IsCell c v₀)
    (h : ∀ s', Sm s s' → s'.heap.IsCell c (some v) → Heap.SameBut c s.heap s'.heap → Q () s') : wpAny M A (storeName env x v) Q E s :=
  wpAny_storeName_cell hk hx hc hv fun h' q1 q2 => h _ (Sm.heap s _) q1 q2
/-- range(n) -/
theorem op_range {n : Nat} {t : Tok} {Q : Value → Shared → Prop} (h : ∀ r s' t' u v, Go Fr s s' → s.heap.get? r = none → IsRange s'.heap r 0 (n : Int) 1 t' u v → Q (.ref r) s') : wpAny (model prog w) A (call (.type "range") [.int (n : Int) t]) Q E s :=
  call_range_1 (h _ _ _ _ _ (.of ⟨_, _, rfl⟩ (Ext.push _ _)) (push_none _) (IsRange.new ..))
theorem iter_range {n : Nat} {r : Addr} {t u v : Tok} {Q : Value → Shared → Prop} (hr : IsRange s.heap r 0 (n : Int) 1 t u v) (hn : n ≤ 1000000)
    (h : ∀ I s', Sm s s' → Ext s.heap s'.heap → s.heap.get? I = none → IsRangeIter s'.heap I 0 (n : Int) 1 → Q (.ref I) s') : wpAny (model prog w) A (pyIter (.ref r)) Q E s := by
  refine wpAny_pyIter_range hr (small_one (by omega) (by omega) (by omega) (by omega)) ?_
  have : Builtin.Range.rangeSize 0 (n : Int) 1 = n := by rw [rangeSize_one]; split <;> omega
  rw [this]
  exact h _ _ (Sm.heap s _) (Ext.push _ _) (push_none _) (Heap.get?_push_size _ rfl)
theorem src_range {n : Nat} {r : Addr} {t u v : Tok} {Q : Value → Shared → Prop} (hh : A.handled = none) (C : Cx K A Fr W s) (hr : IsRange s.heap r 0 (n : Int) 1 t u v) (hn : n ≤ 1000000)
    (h : ∀ I s₂, Src prog w A Fr W s s₂ I (RG n) → Q (.ref I) s₂) : wpAny (model prog w) A (pyIter (.ref r)) Q E s := by
  refine iter_range hr hn fun I s' sm ex hI hit => h I s' ?_
  have Wk := (Walks.range (prog := prog) (w := w) (A := A) hh I 0 1 n).bound
  have hl : (RG n).length = n := by simp
  have hIF : I ∉ Fr := fun m => (C.lv.not hI) (C.sub _ m)
  refine ⟨sm, ex, hI, [I], _, _, by rw [hl]; exact Wk, ?_, ?_, hIF, ?_, ?_⟩
  · show IsRangeIter _ _ _ _ _
    have e1 : (0 : Int) + ((0 : Nat) : Int) * 1 = 0 := by omega
    have e2 : (n : Int) - ((0 : Nat) : Int) = n := by omega
    rw [e1, e2]; exact hit
  · intro b hb
    have : b = I := by simpa using hb
    subst this
    exact ⟨⟨hIF, C.lv.not hI⟩, _, hit⟩
  · intro i h' st
    exact ⟨_, st⟩
  · rintro i v ⟨hi, t, rfl⟩
    refine ⟨.int i, by simp [hi], ?_⟩
    have : (0 : Int) + (i : Int) * 1 = i := by omega
    rw [this]; exact Rd.int _ _

/-- for x in <an iterator I>, x a cell -/
theorem for_walkC {R : Result → Shared → Prop} {x : Str} {px : Pos} {body : List Stmt} {I c : Addr} {fp : List Addr} {n : Nat} {P : Nat → Value → Prop} {St : Nat → Heap → Prop} (Wk : Walks prog w A I fp [I] n P St) (J : Nat → Shared → Prop)
    (hk : env.scope.kind = .function) (hx : env.kindOf x = some .cell) (hc : env.cells.lookup x = some c) (hcI : c ≠ I) (hcf : c ∉ fp)
    (hJ : ∀ i s', J i s' → St i s'.heap ∧ ∃ o, s'.heap.IsCell c o)
    (turn : ∀ i v s' s'', J i s' → i < n → P i v → Sm s' s'' → St (i + 1) s''.heap → s''.heap.IsCell c (some v) →
      (∀ b o, b ≠ I → b ≠ c → s'.heap.get? b = some o → s''.heap.get? b = some o) →
      wpAny (model prog w) A (execs body env) (fun f s₃ => match f with
        | .next | .cont => J (i + 1) s₃
        | .brk => R (.ok .next) s₃
        | .ret v => R (.ok (.ret v)) s₃) (notedBy (model prog w) A env fun e s' => R (.error e) s') s'')
    (done : ∀ s' s'', J n s' → Sm s' s'' → Heap.ExtBut I s'.heap s''.heap → R (.ok .next) s'')
    (h : J 0 s) : codeAny (model prog w) A (.forLoop (.Name x px) (.ref I) body [] env) R s := by
  refine codeAny_forLoop_any (fun k s' => ∃ i, J i s' ∧ i ≤ n ∧ k = n - i) ?_ n ⟨0, h, Nat.zero_le _, rfl⟩
  rintro k s' ⟨i, hj, hi, rfl⟩
  obtain ⟨st, o, hn⟩ := hJ i s' hj
  by_cases hlt : i < n
  · refine Wk.item i s' _ _ hlt st fun v h₁ tk hPv st₁ hk₁ => ?_
    have hbI : ∀ b o, b ≠ I → s'.heap.get? b = some o → h₁.get? b = some o := fun b o hb q => hk₁ b o (by simpa using hb) q
    refine wpAny_of_eq (a := ()) (by rfl) ?_
    have hn₁ : h₁.IsCell c o := cell_but hn (fun b o hb q => hbI b o hb q) hcI
    refine wpAny_assign_Name (st_cell hk hx hc hn₁ fun s₂ sm₂ hn₂ hs₂ => ?_)
    refine wpAny_mono (turn i v s' s₂ hj hlt hPv (Sm.trans ⟨h₁, tk, rfl⟩ sm₂) (Wk.frame _ _ _ st₁ fun b hb o q => hs₂.extBut b o (fun z => hcf (z ▸ hb)) q) hn₂ fun b o hb hb' e => hs₂.extBut b o hb' (hbI b o hb e)) (fun f s₃ q => ?_) fun _ _ e => e
    cases f with
    | next => exact ⟨n - (i + 1), by omega, i + 1, q, hlt, rfl⟩
    | cont => exact ⟨n - (i + 1), by omega, i + 1, q, hlt, rfl⟩
    | brk => exact q
    | ret v => exact q
  · have hi' : i = n := by omega
    subst hi'
    refine Wk.done s' _ _ st fun h₁ tk hk₁ => ?_
    exact wpAny_execs_nil (done s' _ hj ⟨h₁, tk, rfl⟩ fun b o hb q => hk₁ b o (by simpa using hb) q)
theorem allInts_of {h : Heap} : ∀ {vs : List Value} {ns : List Int}, RdAll h vs (ns.map .int) → ∃ xs : Array (Int × Tok), vs.toArray = intItems xs ∧ xs.toList.map (·.1) = ns
  | [], [], _ => ⟨#[], by simp [intItems], rfl⟩
  | [], _ :: _, r => by have := r.length; simp at this
  | _ :: _, [], r => by have := r.length; simp at this
  | v :: vs, n :: ns, r => by
    obtain ⟨t, rfl⟩ := r.cons_inv.1.int_inv
    obtain ⟨xs, h1, h2⟩ := allInts_of r.cons_inv.2
    refine ⟨((n, t) :: xs.toList).toArray, ?_, by simp [h2]⟩
    have : vs = (intItems xs).toList := by rw [← h1]
    rw [this]; simp [intItems]
theorem op_sum {v : Value} {ns : List Int} {Q : Value → Shared → Prop} (hh : A.handled = none) (r : Rd (V W s.heap) v (IL ns)) (h : ∀ t s', Go Fr s s' → Q (.int ns.sum t) s') : wpAny (model prog w) A (call (.builtin "sum") [v]) Q E s := by
  obtain ⟨l, vs, rfl, hl, rs⟩ := r.list_inv
  obtain ⟨xs, e1, e2⟩ := allInts_of rs
  have hl' := IsList.ext V_le hl
  rw [e1] at hl'
  refine sum_intListG hh hl' fun h' tk t' hk => ?_
  rw [preSum_eq, List.take_of_length_le (by simp), e2]
  exact h _ _ (.of ⟨_, _, rfl⟩ hk)
/-- value[-1] -/
theorem sub_last {value index : Expr} {pos : Pos} {Q : Value → Shared → Prop} (hs : ∀ o i, ∃ ops, subscripted index false o i = operate ops (getItem o i))
    (h : wpAny (model prog w) A (eval value env) (fun o s₁ => wpAny (model prog w) A (eval index env) (fun vl s₂ => ∃ (t : Tok) (xs : List PyData) (d : PyData), vl = .int (-1) t ∧ Rd (V W s₂.heap) o (.list xs) ∧ xs.length ≤ 1000000 ∧ xs.getLast? = some d ∧
      ∀ v, Rd (V W s₂.heap) v d → Q v s₂) E s₁) E s) :
    wpAny (model prog w) A (eval (.Subscript value index pos) env) Q E s := by
  refine Subscript_ (wpAny_mono h (fun o s₁ q => wpAny_mono q (fun vl s₂ q => ?_) fun _ _ e => e) fun _ _ e => e)
  obtain ⟨t, xs, d, rfl, r, hl, hd, hq⟩ := q
  obtain ⟨l, vs, rfl, hL, rs⟩ := r.list_inv
  obtain ⟨ops, hs⟩ := hs (.ref l) (.int (-1) t)
  rw [List.getLast?_eq_getElem?] at hd
  have hlt : xs.length - 1 < xs.length := (List.getElem?_eq_some_iff.mp hd).1
  have e := rs.length
  obtain ⟨d', hd', hr⟩ := rs.get (i := xs.length - 1) (show vs[xs.length - 1]? = some (vs[xs.length - 1]'(by omega)) by simp [e, hlt])
  rw [hd] at hd'; cases hd'
  have hls := IsList.ext V_le hL
  have hz : (-1 + ((vs.toArray.size : Nat) : Int)).toNat = xs.length - 1 := by simp; omega
  exact tail_any hls.typeIs slot_list_getitem.lookup (wpAny_getItem_list_neg hls (by omega) (by simp; omega) (by omega) (by rw [hz]; simp [e, hlt]) (hq _ hr)) hs
end
end Mine
end

section
open PySem PySem.W PyProof.Rows PySem.Calls
namespace Mine
/-! comprehensions of two clauses, whose names may be cells -/
theorem turn2_0 (elt t1 i1 t2 i2 : Expr) (f1 f2 : List Expr) (scope : Scope) (pos : Pos) (it acc : Value) (env : Env) :
    compTurn (.ListComp elt [⟨t1, i1, f1, 0⟩, ⟨t2, i2, f2, 0⟩] scope pos) 0 it acc env = (do
      standAt i1.pos
      match ← pyNext it with
      | none => pure (.done .next)
      | some v =>
        letOwnedTupleGo t1 it v
        assign t1 env v
        let mut ok := true
        for c in f1 do
          if ok then ok ← isTrue c env (eval c env)
        if ok then
          let x ← eval i2 env
          standAt i2.pos
          let x ← foldedSetIterable i2 env x
          let _ ← runOwn (.compStart (.ListComp elt [⟨t1, i1, f1, 0⟩, ⟨t2, i2, f2, 0⟩] scope pos) 1 (← holding [x] (pyIter x)) acc env) env
        again (.compLoop (.ListComp elt [⟨t1, i1, f1, 0⟩, ⟨t2, i2, f2, 0⟩] scope pos) 0 it acc env)) := by rfl
theorem turn2_1 (elt t1 i1 t2 i2 : Expr) (f1 f2 : List Expr) (scope : Scope) (pos : Pos) (it acc : Value) (env : Env) :
    compTurn (.ListComp elt [⟨t1, i1, f1, 0⟩, ⟨t2, i2, f2, 0⟩] scope pos) 1 it acc env = (do
      standAt i2.pos
      match ← pyNext it with
      | none => pure (.done .next)
      | some v =>
        letOwnedTupleGo t2 it v
        assign t2 env v
        let mut ok := true
        for c in f2 do
          if ok then ok ← isTrue c env (eval c env)
        if ok then
          (do let _ ← call (.builtin "list.append") [acc, ← eval elt env])
        again (.compLoop (.ListComp elt [⟨t1, i1, f1, 0⟩, ⟨t2, i2, f2, 0⟩] scope pos) 1 it acc env)) := by rfl
section
variable {prog : Program} {w : World} {A : Around} {E : Value → Shared → Prop} {R : Result → Shared → Prop} {s : Shared}
theorem loop2_0 {elt t1 i1 t2 i2 : Expr} {f1 f2 : List Expr} {scope : Scope} {pos : Pos} {it acc : Value} {env : Env} (I : Nat → Shared → Prop)
    (turn : ∀ n s, I n s → wpAny (model prog w) A (pyNext it) (fun r s₁ => match r with
      | none => R (.ok .next) s₁
      | some v => wpAny (model prog w) A (assign t1 env v) (fun _ s₂ =>
          wpAny (model prog w) A (tests f1 env) (fun ok s₃ =>
            if ok = true then wpAny (model prog w) A (eval i2 env) (fun x s₄ => wpAny (model prog w) A (pyIter x) (fun it' s₅ =>
              codeAny (model prog w) A (.compStart (.ListComp elt [⟨t1, i1, f1, 0⟩, ⟨t2, i2, f2, 0⟩] scope pos) 1 it' acc env) (fun r s₆ => match r with | .ok _ => ∃ m, m < n ∧ I m s₆ | .error e => cameBackBy (model prog w) A env (notedBy (model prog w) A env fun e s' => R (.error e) s') e s₆) s₅)
                (notedBy (model prog w) A env fun e s' => R (.error e) s') s₄) (notedBy (model prog w) A env fun e s' => R (.error e) s') s₃
            else ∃ m, m < n ∧ I m s₃) (notedBy (model prog w) A env fun e s' => R (.error e) s') s₂) (notedBy (model prog w) A env fun e s' => R (.error e) s') s₁) (notedBy (model prog w) A env fun e s' => R (.error e) s') s)
    (n : Nat) (h : I n s) (ht : ∀ v, letOwnedTupleGo t1 it v = pure () := by intro _; rfl) (hs : ∀ x, foldedSetIterable i2 env x = pure x := by intro _; rfl) :
    codeAny (model prog w) A (.compLoop (.ListComp elt [⟨t1, i1, f1, 0⟩, ⟨t2, i2, f2, 0⟩] scope pos) 0 it acc env) R s := by
  refine codeAny_loop rfl I (fun n s hI => ?_) n h
  show wpAny _ A ((compTurn (.ListComp elt [⟨t1, i1, f1, 0⟩, ⟨t2, i2, f2, 0⟩] scope pos) 0 it acc env).onRaise (fun x => do noteFrame x env; theTreesLotGoes x)) _ _ s
  refine wpAny_noted ?_
  rw [turn2_0]
  refine wpAny_bind (wpAny_standAt (wpAny_bind (wpAny_mono (turn n s hI) (fun r s₁ h₁ => ?_) fun _ _ h' => h')))
  cases r with
  | none => exact wpAny_pure h₁
  | some v =>
    refine wpAny_bind (wpAny_of_eq (ht v) ?_)
    refine wpAny_bind (wpAny_mono h₁ (fun _ s₂ h₂ => wpAny_bind (wpAny_mono h₂ (fun ok s₃ h₃ => ?_) fun _ _ h' => h')) fun _ _ h' => h')
    cases ok with
    | false => exact wpAny_pure ⟨rfl, h₃⟩
    | true =>
      refine wpAny_bind (wpAny_mono h₃ (fun x s₄ h₄ => wpAny_bind (wpAny_standAt (wpAny_bind (wpAny_of_eq (hs x) ?_)))) fun _ _ h' => h')
      refine wpAny_bind (wpAny_holding (wpAny_mono h₄ (fun it' s₅ h₅ => wpAny_bind (wpAny_runOwn (codeAny_mono h₅ fun r s₆ h₆ => ?_))) fun _ _ h' => h'))
      cases r with
      | ok f => exact wpAny_pure ⟨rfl, h₆⟩
      | error e => exact h₆
theorem loop2_1 {elt t1 i1 t2 i2 : Expr} {f1 f2 : List Expr} {scope : Scope} {pos : Pos} {it acc : Value} {env : Env} (I : Nat → Shared → Prop)
    (turn : ∀ n s, I n s → wpAny (model prog w) A (pyNext it) (fun r s₁ => match r with
      | none => R (.ok .next) s₁
      | some v => wpAny (model prog w) A (assign t2 env v) (fun _ s₂ =>
          wpAny (model prog w) A (tests f2 env) (fun ok s₃ =>
            if ok = true then wpAny (model prog w) A (eval elt env) (fun x s₄ =>
              wpAny (model prog w) A (call (.builtin "list.append") [acc, x]) (fun _ s₅ => ∃ m, m < n ∧ I m s₅) (notedBy (model prog w) A env fun e s' => R (.error e) s') s₄) (notedBy (model prog w) A env fun e s' => R (.error e) s') s₃
            else ∃ m, m < n ∧ I m s₃) (notedBy (model prog w) A env fun e s' => R (.error e) s') s₂) (notedBy (model prog w) A env fun e s' => R (.error e) s') s₁) (notedBy (model prog w) A env fun e s' => R (.error e) s') s)
    (n : Nat) (h : I n s) (ht : ∀ v, letOwnedTupleGo t2 it v = pure () := by intro _; rfl) :
    codeAny (model prog w) A (.compLoop (.ListComp elt [⟨t1, i1, f1, 0⟩, ⟨t2, i2, f2, 0⟩] scope pos) 1 it acc env) R s := by
  refine codeAny_loop rfl I (fun n s hI => ?_) n h
  show wpAny _ A ((compTurn (.ListComp elt [⟨t1, i1, f1, 0⟩, ⟨t2, i2, f2, 0⟩] scope pos) 1 it acc env).onRaise (fun x => do noteFrame x env; theTreesLotGoes x)) _ _ s
  refine wpAny_noted ?_
  rw [turn2_1]
  refine wpAny_bind (wpAny_standAt (wpAny_bind (wpAny_mono (turn n s hI) (fun r s₁ h₁ => ?_) fun _ _ h' => h')))
  cases r with
  | none => exact wpAny_pure h₁
  | some v =>
    refine wpAny_bind (wpAny_of_eq (ht v) ?_)
    refine wpAny_bind (wpAny_mono h₁ (fun _ s₂ h₂ => wpAny_bind (wpAny_mono h₂ (fun ok s₃ h₃ => ?_) fun _ _ h' => h')) fun _ _ h' => h')
    cases ok with
    | false => exact wpAny_pure ⟨rfl, h₃⟩
    | true =>
      exact wpAny_bind (wpAny_bind (wpAny_mono h₃ (fun x s₄ h₄ => wpAny_bind (wpAny_mono h₄ (fun _ s₅ h₅ => wpAny_pure (wpAny_pure ⟨rfl, h₅⟩)) fun _ _ h' => h')) fun _ _ h' => h'))
theorem start2_1 {elt t1 i1 t2 i2 : Expr} {f1 f2 : List Expr} {scope : Scope} {pos : Pos} {it acc : Value} {env : Env}
    (h0 : codeAny (model prog w) A (.compLoop (.ListComp elt [⟨t1, i1, f1, 0⟩, ⟨t2, i2, f2, 0⟩] scope pos) 1 it acc env) R s)
    (h : wpAny (model prog w) A (pyIter it) (fun it' s' => codeAny (model prog w) A (.compLoop (.ListComp elt [⟨t1, i1, f1, 0⟩, ⟨t2, i2, f2, 0⟩] scope pos) 1 it' acc env) R s')
      (notedBy (model prog w) A env fun x s' => R (.error x) s') s) :
    codeAny (model prog w) A (.compStart (.ListComp elt [⟨t1, i1, f1, 0⟩, ⟨t2, i2, f2, 0⟩] scope pos) 1 it acc env) R s := by
  refine codeAny_of_tree ?_
  show wpAny _ _ ((compStart (.ListComp elt [⟨t1, i1, f1, 0⟩, ⟨t2, i2, f2, 0⟩] scope pos) 1 it acc env).onRaise (fun x => do noteFrame x env; standAt theWindowsPlace)) _ _ s
  refine wpAny_notedAt ?_
  unfold compStart
  show wpAny _ _ (ask >>= _) _ _ s
  refine wpAny_bind (wpAny_askSetting (wpAny_ite ?_))
  split
  · first
      | exact wpAny_bind (wpAny_pure (wpAny_pure (And.intro rfl h0)))
      | exact wpAny_pure (And.intro rfl h0)
  · first
      | exact wpAny_bind (wpAny_rule (wpAny_bind (wpAny_standAt (wpAny_bind (wpAny_mono h (fun it' s' h' => wpAny_pure (And.intro rfl h')) fun _ _ x => x)))))
      | (refine wpAny_bind (wpAny_rule ?_); show wpAny _ _ (standAt i2.pos >>= _) _ _ s; exact wpAny_bind (wpAny_standAt (wpAny_bind (wpAny_mono h (fun it' s' h' => wpAny_pure (And.intro rfl h')) fun _ _ x => x))))
end

theorem nu_addr : ∀ {OC : List (Str × Addr)} {x : Str} {c c' : Addr}, (OC.map (·.1)).Nodup → (x, c) ∈ OC → (x, c') ∈ OC → c = c'
  | (y, d) :: r, x, c, c', hp, h, h' => by
    rw [List.map_cons, List.nodup_cons] at hp
    rcases List.mem_cons.mp h with e | h <;> rcases List.mem_cons.mp h' with e' | h'
    · cases e; cases e'; rfl
    · cases e; exact absurd (List.mem_map.mpr ⟨_, h', rfl⟩) hp.1
    · cases e'; exact absurd (List.mem_map.mpr ⟨_, h, rfl⟩) hp.1
    · exact nu_addr hp.2 h h'
/-- the names of a comprehension: a table, and cells of its own -/
structure VS (env : Env) (OC : List (Str × Addr)) (h : Heap) (m : Str → Option Value) : Prop where
  ns : ∃ m0, h.Ns env.locals m0 ∧ ∀ x, env.kindOf x = some .local → m0 x = m x
  cl : ∀ x c, (x, c) ∈ OC → h.IsCell c (m x)
  ap : OC.Pairwise fun x y => x.2 ≠ y.2
  nu : (OC.map (·.1)).Nodup
abbrev VX (env : Env) (OC : List (Str × Addr)) : List Addr := env.locals :: OC.map (·.2)
def Var (env : Env) (OC : List (Str × Addr)) (x : Str) : Prop := (env.kindOf x = some .local ∧ ∀ c, (x, c) ∉ OC) ∨ (env.kindOf x = some .cell ∧ ∃ c, (x, c) ∈ OC ∧ env.cells.lookup x = some c)
section
variable {M : Model} {A : Around} {E : Value → Shared → Prop} {s : Shared} {env : Env} {OC : List (Str × Addr)} {h h' : Heap} {m : Str → Option Value}
theorem VS.at (x : VS env OC h m) (k : ∀ b ∈ VX env OC, ∀ o, h.get? b = some o → h'.get? b = some o) : VS env OC h' m where
  ns := let ⟨m0, q, r⟩ := x.ns; ⟨m0, q.at' fun o e => k _ (.head _) o e, r⟩
  cl := fun n c q => by
    obtain ⟨o, q1, q2⟩ := x.cl n c q
    exact ⟨o, k c (.tail _ (List.mem_map.mpr ⟨(n, c), q, rfl⟩)) o q1, q2⟩
  ap := x.ap
  nu := x.nu
theorem VS.live (x : VS env OC h m) : Live (VX env OC) h := fun a q => by
  rcases List.mem_cons.mp q with rfl | q
  · obtain ⟨m0, ⟨o, es, ep, e, _⟩, _⟩ := x.ns; exact ⟨o, e⟩
  · obtain ⟨⟨n, c⟩, q', rfl⟩ := List.mem_map.mp q
    obtain ⟨o, e, _⟩ := x.cl n c q'; exact ⟨o, e⟩
theorem nm_var {x : Str} {pos : Pos} {v : Value} {Q : Value → Shared → Prop} (hk : env.scope.kind = .function) (hx : Var env OC x) (V : VS env OC s.heap m) (hv : m x = some v) (h : Q v s) (hd : (x == ("__debug__" : Str)) = false := by decide)
    : wpAny M A (eval (.Name x pos) env) Q E s := by
  rcases hx with ⟨hl, _⟩ | ⟨hl, c, hc, hcl⟩
  · obtain ⟨m0, q, r⟩ := V.ns
    exact nm_local q hk hl (by rw [r x hl]; exact hv) h hd
  · have := V.cl x c hc
    rw [hv] at this
    exact wpAny_Name (wpAny_loadName_cell hk hl hcl this h) hd
theorem st_var {x : Str} {v : Value} {Q : Unit → Shared → Prop} (hk : env.scope.kind = .function) (hx : Var env OC x) (V : VS env OC s.heap m)
    (h : ∀ s', Sm s s' → VS env OC s'.heap (fun y => if y = x then some v else m y) → (∀ b o, b ∉ VX env OC → s.heap.get? b = some o → s'.heap.get? b = some o) → Q () s') : wpAny M A (storeName env x v) Q E s := by
  rcases hx with ⟨hl, hnc⟩ | ⟨hl, c, hc, hcl⟩
  · obtain ⟨m0, q, r⟩ := V.ns
    refine st_local q hk hl fun s' sm hn hs => h s' sm ⟨⟨_, hn, fun y hy => ?_⟩, fun y c hc => ?_, V.ap, V.nu⟩ fun b o hb e => hs.extBut b o (fun z => hb (by simp [z])) e
    · by_cases z : y = x
      · simp [z]
      · simp [z, r y hy]
    · have hne : y ≠ x := fun z => hnc c (z ▸ hc)
      simp only [hne, if_false]
      exact cell_but (V.cl y c hc) hs.extBut (cell_ne_ns (V.cl y c hc) q)
  · refine st_cell hk hl hcl (V.cl x c hc) fun s' sm hcx hs => h s' sm ⟨?_, fun y c' hc' => ?_, V.ap, V.nu⟩ fun b o hb e => hs.extBut b o (fun z => hb (by rw [z]; exact .tail _ (List.mem_map.mpr ⟨(x, c), hc, rfl⟩))) e
    · obtain ⟨m0, q, r⟩ := V.ns
      refine ⟨m0, q.sameBut hs (Ne.symm (cell_ne_ns (V.cl x c hc) q)), fun y hy => ?_⟩
      have hne : y ≠ x := fun z => by rw [z, hl] at hy; cases hy
      simp only [hne, if_false]; exact r y hy
    · by_cases z : y = x
      · have e : c' = c := by
          subst z
          exact nu_addr V.nu hc' hc
        subst e; simp only [z, if_true]; exact hcx
      · have hne : c' ≠ c := fun e => z (name_of_addr V.ap (e ▸ hc') hc)
        simp only [z, if_false]
        exact cell_but (V.cl y c' hc') hs.extBut hne
end
end Mine
end

section
open PySem PySem.W PyProof.Rows PySem.Calls
namespace Mine
def compEnvO (scope : Scope) (cl : List (Str × Addr)) (C : Addr) (env : Env) : Env :=
  { scope := relabel scope env, locals := C, globals := env.globals, cells := cellsFrom (C + 1) scope.names cl, qual := env.qual, func := none, code := env.code, frame := env.frame, builtins := env.builtins }
abbrev ownC (scope : Scope) (C : Addr) : List (Str × Addr) := cellsFrom (C + 1) scope.names []
theorem newEnvO {M : Model} {A : Around} {E : Value → Shared → Prop} {s : Shared} {scope : Scope} {globals : Addr} {cl : List (Str × Addr)} {qual : Str} {env : Env} {Q : Env → Shared → Prop}
    (hQ : ∀ s', Sm s s' → Ext s.heap s'.heap → s'.heap.Ns s.heap.objs.size (fun _ => none) → CellsOk s'.heap (s.heap.objs.size + 1) (ownC scope s.heap.objs.size) →
      Q (newEnv scope s.heap.objs.size globals (cellsFrom (s.heap.objs.size + 1) scope.names cl) qual none .none (some env) builtinsNs) s') :
    wpAny M A (newFunctionEnv scope globals cl [] qual none .none (some env)) Q E s := by
  simp only [newFunctionEnv, Option.isSome_some, if_true]
  refine wpAny_bind (wpAny_alloc ?_)
  refine wpAny_bind (wpAny_layCells _ (fun name kind cells => by cases hkc : kind == NameKind.cell <;> simp [hkc]) _ _ _ _ ?_)
  have ok := cellsFrom_ok scope.names (s.heap.push { cls := .type "dict", data := .dict #[] }) (s.heap.objs.size + 1) [] ⟨fun _ _ hm => (nomatch hm), List.Pairwise.nil⟩ (by rw [Heap.size_push]; exact Nat.le_refl _)
  rw [Heap.size_push] at ok
  rw [show ({ s with heap := s.heap.push { cls := .type "dict", data := .dict #[] } } : Shared).heap.objs.size = s.heap.objs.size + 1 from Heap.size_push ..]
  refine wpAny_bind ?_
  rw [List.forIn_nil]
  refine wpAny_pure (wpAny_pure ?_)
  exact hQ _ ⟨_, _, rfl⟩ (fun b o e => pushCells_keeps _ _ b o (Heap.get?_push_of_some _ e)) ((Heap.Ns.new s.heap (.type "dict")).keeps (pushCells_keeps _ _)) ok
section
variable {prog : Program} {w : World} {A : Around} {E : Value → Shared → Prop} {s : Shared} {K : Frag} {env : Env} {Fr W : List Addr}
theorem flat_take {ds : List PyData} {p : PyData → Bool} {g : PyData → List PyData} {i : Nat} {d : PyData} (h : ds[i]? = some d) :
    ((ds.take (i + 1)).filter p).flatMap g = ((ds.take i).filter p).flatMap g ++ (if p d then g d else []) := by
  rw [take_succ_filter p _ i d h, List.flatMap_append]
  cases p d <;> simp
theorem dl_append' {l : Addr} {vs : List Value} {x : Value} {Q : Value → Shared → Prop} (hl : DL s.heap l vs) (hsz : vs.length ≤ 1000000 + 1000)
    (hQ : ∀ s', Sm s s' → DL s'.heap l (vs ++ [x]) → Heap.SameBut l s.heap s'.heap → Q .none s') :
    wpAny (model prog w) A (call (.builtin "list.append") [.ref l, x]) Q E s := by
  obtain ⟨o, n, ho, hc, hdn, hd⟩ := id hl
  obtain ⟨n', hd'⟩ := Obj.data_mapSeq hd (·.push x)
  refine wpAny_call_entry slot_list_append ⟨_, ho, hc⟩ entry_list_append ?_ (args_list_append _ _)
  show wpAny _ _ (updateSeq l (·.push x) >>= fun _ => ret .none) _ _ s
  refine wpAny_bind ?_
  refine wpAny_updateSeq ho hd (wpAny_pure ⟨.none, rfl, hQ _ (Sm.heap s _) ?_ (Heap.SameBut.update ..)⟩) (by rw [sizeLine_eq]; simp; omega)
  refine ⟨_, n', Heap.get?_update_self _ ho (Obj.isFreed_of_seq hd'), (Obj.cls_mapSeq ..).trans hc, ?_, by simpa using hd'⟩
  obtain ⟨c, d, dt, sl⟩ := o
  simp only at hd; subst hd
  exact hdn
/-- [elt for x in <source> if .. for y in <source> if ..] -/
theorem comp2G {elt i1 i2 : Expr} {x y : Str} {px py : Pos} {f1 f2 : List Expr} {scope : Scope} {cl : List (Str × Addr)} {pos pos' : Pos} {use : Option (Value → Sem Unit)} {ds : List PyData}
    (p1 : PyData → Bool) (es : PyData → List PyData) (p2 : PyData → PyData → Bool) (f : PyData → PyData → PyData) {Q : Value → Shared → Prop}
    (C : Cx K A Fr W s) (hh : A.handled = none) (hclos : closureFor scope env = pure cl) (hkind : scope.kind = .function) (hnames : ∀ y ∈ scope.names, y.2 = .local → scope.names.lookup y.1 = some .local)
    (hnu : ∀ Cc, ((ownC scope Cc).map (·.1)).Nodup) (hx : ∀ Cc, Var (compEnvO scope cl Cc env) (ownC scope Cc) x) (hy : ∀ Cc, Var (compEnvO scope cl Cc env) (ownC scope Cc) y) (hxy : x ≠ y)
    (hlen : ds.length ≤ 1000) (hlen2 : ∀ d ∈ ds, (es d).length ≤ 1000)
    (src : wpAny (model prog w) A (eval i1 env) (fun xv s₁ => Go Fr s s₁ ∧ wpAny (model prog w) A (pyIter xv) (fun it s₂ => ∃ I, it = .ref I ∧ Src prog w A Fr W s₁ s₂ I ds ∧
      (∀ Cc W2 s' m v d (i : Nat) E', ds[i]? = some d → Go Fr s₁ s' → Own W W2 s₁.heap → Cx K A Fr W2 s' → VS (compEnvO scope cl Cc env) (ownC scope Cc) s'.heap m → m x = some v → Rd (V W2 s'.heap) v d →
        wpAny (model prog w) A (tests f1 (compEnvO scope cl Cc env)) (fun ok s'' => Go Fr s' s'' ∧ ok = p1 d) E' s') ∧
      (∀ Cc W2 s' m v d (i : Nat) E', ds[i]? = some d → p1 d = true → Go Fr s₁ s' → Own W W2 s₁.heap → Cx K A Fr W2 s' → VS (compEnvO scope cl Cc env) (ownC scope Cc) s'.heap m → m x = some v → Rd (V W2 s'.heap) v d →
        wpAny (model prog w) A (eval i2 (compEnvO scope cl Cc env)) (fun xv s₃ => Go Fr s' s₃ ∧ wpAny (model prog w) A (pyIter xv) (fun it s₄ => ∃ I2, it = .ref I2 ∧ Src prog w A Fr W2 s₃ s₄ I2 (es d)) E' s₃) E' s') ∧
      (∀ Cc W2 s' m v u d d' (i j : Nat) E', ds[i]? = some d → p1 d = true → (es d)[j]? = some d' → Go Fr s₁ s' → Own W W2 s₁.heap → Cx K A Fr W2 s' → VS (compEnvO scope cl Cc env) (ownC scope Cc) s'.heap m → m x = some v → m y = some u → Rd (V W2 s'.heap) v d → Rd (V W2 s'.heap) u d' →
        wpAny (model prog w) A (tests f2 (compEnvO scope cl Cc env)) (fun ok s'' => Go Fr s' s'' ∧ ok = p2 d d') E' s') ∧
      (∀ Cc W2 s' m v u d d' (i j : Nat) E', ds[i]? = some d → p1 d = true → (es d)[j]? = some d' → p2 d d' = true → Go Fr s₁ s' → Own W W2 s₁.heap → Cx K A Fr W2 s' → VS (compEnvO scope cl Cc env) (ownC scope Cc) s'.heap m → m x = some v → m y = some u → Rd (V W2 s'.heap) v d → Rd (V W2 s'.heap) u d' →
        wpAny (model prog w) A (eval elt (compEnvO scope cl Cc env)) (fun z s'' => Go Fr s' s'' ∧ Rd (V W2 s''.heap) z (f d d')) E' s') ∧
      (∀ D Cc m s', Go Fr s₁ s' → s₁.heap.get? D = none → s₁.heap.get? Cc = none → s'.heap.Ns Cc m → RL (V (Cc :: W) s'.heap) (.ref D) ((ds.filter p1).flatMap fun d => ((es d).filter (p2 d)).map (f d)) → compPost (model prog w) A E use Q (.ref D) Cc (.ok .next) s')) E s₁) E s)
    (hs : ∀ x, foldedSetIterable i1 env x = pure x := by intro _; rfl) (hs2 : ∀ e x, foldedSetIterable i2 e x = pure x := by intro _ _; rfl) :
    wpAny (model prog w) A (comprehension (.ListComp elt [⟨.Name x px, i1, f1, 0⟩, ⟨.Name y py, i2, f2, 0⟩] scope pos) scope env pos' (newList []) false (eval i1 env) use) Q E s := by
  refine wpAny_comprehension_free (use := use) rfl hs hclos hkind hnames (wpAny_mono src (fun xv s₁ q => ?_) fun _ _ e => e)
  obtain ⟨go₁, q⟩ := q
  refine wpAny_mono q (fun it s₂ q => ?_) fun _ _ e => e
  obtain ⟨I, rfl, ⟨sm₂, ex₂, hI, fp, P, St, Wk, hst, hfp, hIF, hIl, hP⟩, htests, hsrc2, htests2, helt, hQ⟩ := q
  have C₁ := C.go go₁
  obtain ⟨oI, hoI⟩ := hIl _ _ hst
  refine wpAny_newObj_type (newEnvO fun s₄ sm₄ ex4 hns₄ ok₄ => ?_)
  have hD2 : s₂.heap.get? s₂.heap.objs.size = none := push_none _
  have hdl3 := DL.of_push s₂.heap []
  have ex3 : Ext s₂.heap (s₂.heap.push { cls := .type "list", data := .seq ([] : List Value).toArray }) := Ext.push _ _
  have hC3 : (s₂.heap.push { cls := .type "list", data := .seq ([] : List Value).toArray }).get? (s₂.heap.push { cls := .type "list", data := .seq ([] : List Value).toArray }).objs.size = none := push_none _
  have hO3 : ∀ c, (s₂.heap.push { cls := .type "list", data := .seq ([] : List Value).toArray }).objs.size + 1 ≤ c → (s₂.heap.push { cls := .type "list", data := .seq ([] : List Value).toArray }).get? c = none := fun c hc => get_none_ge (Nat.le_of_succ_le hc)
  dsimp only at sm₄ ex4 hns₄ ok₄ ⊢
  generalize s₂.heap.push { cls := .type "list", data := .seq ([] : List Value).toArray } = H3 at sm₄ hns₄ ok₄ hdl3 ex3 hC3 hO3 ex4 ⊢
  generalize hCc : H3.objs.size = Cc at hns₄ ok₄ hC3 hO3 ⊢
  generalize s₂.heap.objs.size = D at hD2 hdl3 ⊢
  have hC2 : s₂.heap.get? Cc = none := ex3.fresh hC3
  have hdl4 : DL s₄.heap D [] := hdl3.ext ex4
  have hD1 := ex₂.fresh hD2
  have hC1 := ex₂.fresh hC2
  generalize hce : compEnvO scope cl Cc env = cenv at *
  have hcl' : cenv.locals = Cc := by rw [← hce]; rfl
  have hck : cenv.scope.kind = .function := by rw [← hce]; exact hkind
  have vs4 : VS cenv (ownC scope Cc) s₄.heap (fun _ => none) := ⟨⟨_, by rw [hcl']; exact hns₄, fun _ _ => rfl⟩, fun n c q => (ok₄.empty n c q).1, ok₄.apart, hnu Cc⟩
  have hX2 : ∀ b ∈ VX cenv (ownC scope Cc), s₂.heap.get? b = none := fun b q => by
    rcases List.mem_cons.mp q with rfl | q
    · rw [hcl']; exact hC2
    · obtain ⟨⟨n, c⟩, q', rfl⟩ := List.mem_map.mp q
      exact ex3.fresh (hO3 c (ok₄.empty n c q').2)
  have hX1 : ∀ b ∈ VX cenv (ownC scope Cc), s₁.heap.get? b = none := fun b q => ex₂.fresh (hX2 b q)
  have hDX : D ∉ VX cenv (ownC scope Cc) := fun q => by
    rcases List.mem_cons.mp q with e | q
    · obtain ⟨m0, hn0, _⟩ := vs4.ns
      exact dl_ne_ns hdl4 hn0 e
    · obtain ⟨⟨n, c⟩, q', e⟩ := List.mem_map.mp q
      exact dl_ne_cell hdl4 (vs4.cl n c q') e.symm
  have hxV := hx Cc
  have hyV := hy Cc
  rw [hce] at hxV hyV
  replace htests := htests Cc
  replace hsrc2 := hsrc2 Cc
  replace htests2 := htests2 Cc
  replace helt := helt Cc
  rw [hce] at htests hsrc2 htests2 helt
  generalize hX : VX cenv (ownC scope Cc) = X at *
  have hW2 : ∀ a, a ∈ D :: I :: (X ++ W) ↔ a = D ∨ a = I ∨ a ∈ X ∨ a ∈ W := fun a => by simp
  have ow : Own W (D :: I :: (X ++ W)) s₁.heap := ⟨fun a m => by simp [m], fun a m => by
    rcases (hW2 a).mp m with rfl | rfl | m | m
    · exact .inr hD1
    · exact .inr hI
    · exact .inr (hX1 a m)
    · exact .inl m⟩
  have hDfp : D ∉ fp := fun m => by obtain ⟨_, o, q⟩ := hfp _ m; rw [hD2] at q; cases q
  have hXfp : ∀ b ∈ fp, b ∉ X := fun b hb m => by obtain ⟨_, o, q⟩ := hfp _ hb; rw [hX2 b m] at q; cases q
  have hDI : D ≠ I := by rintro rfl; rw [hD2] at hoI; cases hoI
  have hXI : I ∉ X := fun m => by rw [hX2 I m] at hoI; cases hoI
  have hDF : D ∉ Fr := fun m => C₁.lv.not hD1 (C₁.sub _ m)
  have hXF : ∀ b ∈ X, b ∉ Fr := fun b m q => C₁.lv.not (hX1 b m) (C₁.sub _ q)
  have hDW : D ∉ W := C₁.lv.not hD1
  have st4 : St 0 s₄.heap := Wk.frame _ _ _ hst fun b _ o q => ex4 _ _ (ex3 _ _ q)
  have cx : ∀ s', Go Fr s₁ s' → (∃ ys, DL s'.heap D ys) → (∃ m, VS cenv (ownC scope Cc) s'.heap m) → (∃ o, s'.heap.get? I = some o) → Cx K A Fr (D :: I :: (X ++ W)) s' := fun s' g ⟨ys, o, n, q, _⟩ ⟨m, vs⟩ ⟨o'', q''⟩ =>
    C₁.more g ow (fun a m => by
      rcases (hW2 a).mp m with rfl | rfl | m | m
      · exact ⟨_, q⟩
      · exact ⟨_, q''⟩
      · exact vs.live a (hX ▸ m)
      · exact g.live C₁.lv a m)
  have go4 : Go Fr s₁ s₄ := .of (sm₂.trans (Sm.trans ⟨_, _, rfl⟩ sm₄)) (ex₂.trans (ex3.trans ex4))
  -- a thing's change in what is one's own
  have gX : ∀ {s' s'' : Shared}, Go Fr s₁ s' → Sm s' s'' → (∀ b o, b ∉ X → s'.heap.get? b = some o → s''.heap.get? b = some o) → Go Fr s₁ s'' := fun {s' s''} g sm k => by
    refine ⟨g.sm.trans sm, fun b o hb q => k b o (fun z => by rw [hX1 b z] at q; cases q) (g.ext b o hb q), fun a ma o q => ?_⟩
    obtain ⟨sl, q'⟩ := g.hid a ma o q
    exact ⟨sl, k a _ (fun z => by rw [hX1 a z] at q; cases q) q'⟩
  have vsGo : ∀ {s' s'' : Shared} {m : Str → Option Value}, Go Fr s' s'' → VS cenv (ownC scope Cc) s'.heap m → VS cenv (ownC scope Cc) s''.heap m := fun g vs => vs.at fun b hb o q => g.ext b o (hXF b (hX ▸ hb)) q
  have lenOf : ∀ i, (((ds.take i).filter p1).flatMap fun d => ((es d).filter (p2 d)).map (f d)).length ≤ 1000 * 1000 := fun i => by
    have h1 : ∀ l : List PyData, (∀ d ∈ l, (es d).length ≤ 1000) → (l.flatMap fun d => ((es d).filter (p2 d)).map (f d)).length ≤ l.length * 1000 := by
      intro l
      induction l with
      | nil => intro _; simp
      | cons a l ih =>
        intro hl
        have := ih fun d hd => hl d (.tail _ hd)
        have h2 := hl a (.head _)
        have h3 : (((es a).filter (p2 a)).map (f a)).length ≤ (es a).length := by rw [List.length_map]; exact List.length_filter_le _ _
        simp only [List.flatMap_cons, List.length_append, List.length_cons]
        omega
    have h2 := h1 ((ds.take i).filter p1) fun d hd => hlen2 d (List.mem_of_mem_take (List.mem_filter.mp hd).1)
    have h3 : ((ds.take i).filter p1).length ≤ ds.length := Nat.le_trans (List.length_filter_le _ _) (List.length_take_le' _ _)
    exact Nat.le_trans h2 (Nat.mul_le_mul (Nat.le_trans h3 hlen) (Nat.le_refl _))
  have lf4 : Live fp s₄.heap := fun b hb => let ⟨_, o, q⟩ := hfp b hb; ⟨o, ex4 _ _ (ex3 _ _ q)⟩
  have loop : codeAny (model prog w) A (.compLoop (.ListComp elt [⟨.Name x px, i1, f1, 0⟩, ⟨.Name y py, i2, f2, 0⟩] scope pos) 0 (.ref I) (.ref D) cenv) (compPost (model prog w) A E use Q (.ref D) Cc) s₄ := by
    refine loop2_0
      (fun k s' => ∃ i m ys, Go Fr s₁ s' ∧ Live fp s'.heap ∧ St i s'.heap ∧ VS cenv (ownC scope Cc) s'.heap m ∧ DL s'.heap D ys ∧ RdAll (V (D :: I :: (X ++ W)) s'.heap) ys (((ds.take i).filter p1).flatMap fun d => ((es d).filter (p2 d)).map (f d)) ∧ i ≤ ds.length ∧ k = ds.length + 1 - i) ?_ (ds.length + 1)
      ⟨0, _, [], go4, lf4, st4, vs4, hdl4, by simpa using RdAll.nil, Nat.zero_le _, rfl⟩ (hs := fun x => hs2 _ x)
    rintro k s' ⟨i, m, ys, g, lf, st, vs, hdl, hr, hi, rfl⟩
    by_cases hlt : i < ds.length
    · refine Wk.item i s' _ _ hlt st fun v h' tk hPv st' hk' => ?_
      obtain ⟨d, hd, hv⟩ := hP i v hPv
      have hdm := List.mem_of_getElem? hd
      have hbI : ∀ b o, b ≠ I → s'.heap.get? b = some o → h'.get? b = some o := fun b o hb q => hk' b o (by simpa using hb) q
      have vs' : VS cenv (ownC scope Cc) h' m := vs.at fun b hb o q => hbI b o (fun z => hXI (z ▸ hX ▸ hb)) q
      have hdl' : DL h' D ys := hdl.at fun o q => hbI D o hDI q
      have gI : Go Fr s₁ { s' with heap := h', toks := tk } := g.but ⟨_, _, rfl⟩ (fun b o hb q => hbI b o hb q) hI
      refine wpAny_assign_Name (st_var hck hxV vs' fun s₅ sm₅ vs₅ hk₅ => ?_)
      rw [hX] at hk₅
      have g₅ : Go Fr s₁ s₅ := gX gI sm₅ hk₅
      have lf₅ : Live fp s₅.heap := fun b hb => by
        by_cases z : b = I
        · subst z; obtain ⟨o, q⟩ := hIl _ _ st'; exact ⟨o, hk₅ b o (hXfp b hb) q⟩
        · obtain ⟨o, q⟩ := lf b hb; exact ⟨o, hk₅ b o (hXfp b hb) (hbI b o z q)⟩
      have hdl₅ : DL s₅.heap D ys := hdl'.at fun o q => hk₅ D o hDX q
      have st₅ : St (i + 1) s₅.heap := Wk.frame _ _ _ st' fun b hb o q => hk₅ b o (hXfp b hb) q
      have cx₅ := cx _ g₅ ⟨_, hdl₅⟩ ⟨_, vs₅⟩ (hIl _ _ st₅)
      have hr₅ : RdAll (V (D :: I :: (X ++ W)) s₅.heap) ys _ := hr.mono (V_ext fun b o hb q => hk₅ b o (fun z => hb ((hW2 b).mpr (.inr (.inr (.inl z))))) (hbI b o (fun z => hb ((hW2 b).mpr (.inr (.inl z)))) q))
      have hv₅ : Rd (V (D :: I :: (X ++ W)) s₅.heap) v d := hv.mono (g₅.see' C₁.sub ow)
      refine wpAny_mono (htests _ s₅ _ v d i _ hd g₅ ow cx₅ vs₅ (by simp) hv₅) (fun ok s₆ q => ?_) fun _ _ e => e
      obtain ⟨g6, rfl⟩ := q
      have g₆ : Go Fr s₁ s₆ := g₅.trans g6
      have st₆ : St (i + 1) s₆.heap := Wk.frame _ _ _ st₅ fun b hb o q => g6.ext b o (hfp b hb).1.1 q
      have vs₆ := vsGo g6 vs₅
      have hdl₆ := g6.dl hdl₅
      have hr₆ := hr₅.mono (g6.see cx₅.sub)
      have hv₆ := hv₅.mono (g6.see cx₅.sub)
      cases hp : p1 d with
      | false =>
        simp only [Bool.false_eq_true, if_false]
        refine ⟨ds.length + 1 - (i + 1), by omega, i + 1, _, ys, g₆, g6.live lf₅, st₆, vs₆, hdl₆, ?_, hlt, rfl⟩
        rw [flat_take hd, hp]; simpa using hr₆
      | true =>
        simp only [if_true]
        have cx₆ := cx₅.go g6
        refine wpAny_mono (hsrc2 _ s₆ _ v d i _ hd hp g₆ ow cx₆ vs₆ (by simp) hv₆) (fun xv2 s₇ q => ?_) fun _ _ e => e
        obtain ⟨g7, q⟩ := q
        refine wpAny_mono q (fun it2 s₈ q => ?_) fun _ _ e => e
        obtain ⟨I2, rfl, sm₈, ex₈, hI2, fp2, P2, St2, Wk2, hst2, hfp2, hIF2, hIl2, hP2⟩ := q
        have g₇ : Go Fr s₁ s₇ := g₆.trans g7
        have g₈ : Go Fr s₁ s₈ := g₇.trans (.of sm₈ ex₈)
        have vs₇ := vsGo g7 vs₆
        have hdl₇ := g7.dl hdl₆
        have cx₇ := cx₆.go g7
        have hI21 : s₁.heap.get? I2 = none := g₇.fresh hI2
        have hI2W : I2 ∉ D :: I :: (X ++ W) := cx₇.lv.not hI2
        have hI2D : D ≠ I2 := fun z => hI2W ((hW2 _).mpr (.inl z.symm))
        have hI2X : I2 ∉ X := fun z => hI2W ((hW2 _).mpr (.inr (.inr (.inl z))))
        have st₇ : St (i + 1) s₇.heap := Wk.frame _ _ _ st₆ fun b hb o q => g7.ext b o (hfp b hb).1.1 q
        have st₈ : St (i + 1) s₈.heap := Wk.frame _ _ _ st₇ fun b hb o q => ex₈ b o q
        have lf₇ : Live fp s₇.heap := g7.live (g6.live lf₅)
        have hI2fp : I2 ∉ fp := lf₇.not hI2
        have hv₇ := hv₆.mono (g7.see cx₆.sub)
        have hr₇ := hr₆.mono (g7.see cx₆.sub)
        have hDfp2 : D ∉ fp2 := fun q => (hfp2 D q).1.2 ((hW2 _).mpr (.inl rfl))
        have hXfp2 : ∀ b ∈ fp2, b ∉ X := fun b q z => (hfp2 b q).1.2 ((hW2 _).mpr (.inr (.inr (.inl z))))
        have hbase := lenOf i
        have hed := hlen2 d hdm
        have e78 : Ext (V (D :: I :: (X ++ W)) s₇.heap) (V (I2 :: D :: I :: (X ++ W)) s₈.heap) := fun b o q => V_in (ex₈ _ _ (V_le _ _ q)) fun z => by
          rcases List.mem_cons.mp z with rfl | z
          · rw [V_le _ _ q] at hI2; cases hI2
          · exact V_not q z
        have ow3 : Own W (I2 :: D :: I :: (X ++ W)) s₁.heap := ow.cons hI21
        have loop2 : codeAny (model prog w) A (.compLoop (.ListComp elt [⟨.Name x px, i1, f1, 0⟩, ⟨.Name y py, i2, f2, 0⟩] scope pos) 1 (.ref I2) (.ref D) cenv) (fun r s₆ => match r with
            | .ok _ => ∃ m, m < ds.length + 1 - i ∧ ∃ i m_1 ys, Go Fr s₁ s₆ ∧ Live fp s₆.heap ∧ St i s₆.heap ∧ VS cenv (ownC scope Cc) s₆.heap m_1 ∧ DL s₆.heap D ys ∧ RdAll (V (D :: I :: (X ++ W)) s₆.heap) ys (((ds.take i).filter p1).flatMap fun d => ((es d).filter (p2 d)).map (f d)) ∧ i ≤ ds.length ∧ m = ds.length + 1 - i
            | .error e => cameBackBy (model prog w) A cenv (notedBy (model prog w) A cenv fun e s' => compPost (model prog w) A E use Q (.ref D) Cc (.error e) s') e s₆) s₈ := by
          refine loop2_1
            (fun k s' => ∃ j m ys, Go Fr s₁ s' ∧ Live fp s'.heap ∧ St (i + 1) s'.heap ∧ St2 j s'.heap ∧ VS cenv (ownC scope Cc) s'.heap m ∧ m x = some v ∧ DL s'.heap D ys ∧ (∀ b o, b ∉ D :: I :: (X ++ W) → s₇.heap.get? b = some o → s'.heap.get? b = some o) ∧
              RdAll (V (I2 :: D :: I :: (X ++ W)) s'.heap) ys ((((ds.take i).filter p1).flatMap fun d => ((es d).filter (p2 d)).map (f d)) ++ (((es d).take j).filter (p2 d)).map (f d)) ∧ j ≤ (es d).length ∧ k = (es d).length + 1 - j) ?_ ((es d).length + 1)
            ⟨0, _, ys, g₈, lf₇.mono ex₈, st₈, hst2, vs₇.at fun b _ o q => ex₈ b o q, by simp, hdl₇.ext ex₈, fun b o _ q => ex₈ b o q, by simpa using hr₇.mono e78, Nat.zero_le _, rfl⟩
          rintro k s' ⟨j, m', ys', g, lf, st, st2, vs, hmx, hdl, hkp, hr, hj, rfl⟩
          by_cases hlt2 : j < (es d).length
          · refine Wk2.item j s' _ _ hlt2 st2 fun u h' tk hPu st2' hk' => ?_
            obtain ⟨d', hd', hu'⟩ := hP2 j u hPu
            have hbI : ∀ b o, b ≠ I2 → s'.heap.get? b = some o → h'.get? b = some o := fun b o hb q => hk' b o (by simpa using hb) q
            have vs' : VS cenv (ownC scope Cc) h' m' := vs.at fun b hb o q => hbI b o (fun z => hI2X (z ▸ hX ▸ hb)) q
            have hdl' : DL h' D ys' := hdl.at fun o q => hbI D o hI2D q
            have gI : Go Fr s₁ { s' with heap := h', toks := tk } := g.but ⟨_, _, rfl⟩ (fun b o hb q => hbI b o hb q) hI21
            refine wpAny_assign_Name (st_var hck hyV vs' fun s₉ sm₉ vs₉ hk₉ => ?_)
            rw [hX] at hk₉
            have hb9 : ∀ b o, b ∉ D :: I :: (X ++ W) → b ≠ I2 → s'.heap.get? b = some o → s₉.heap.get? b = some o := fun b o hb hb2 q => hk₉ b o (fun z => hb ((hW2 b).mpr (.inr (.inr (.inl z))))) (hbI b o hb2 q)
            have g₉ : Go Fr s₁ s₉ := gX gI sm₉ hk₉
            have hdl₉ : DL s₉.heap D ys' := hdl'.at fun o q => hk₉ D o hDX q
            have lf₉ : Live fp s₉.heap := fun b hb => by
              obtain ⟨o, q⟩ := lf b hb; exact ⟨o, hk₉ b o (hXfp b hb) (hbI b o (fun z => hI2fp (z ▸ hb)) q)⟩
            have st₉ : St (i + 1) s₉.heap := Wk.frame _ _ _ st fun b hb o q => hk₉ b o (hXfp b hb) (hbI b o (fun z => hI2fp (z ▸ hb)) q)
            have st2₉ : St2 (j + 1) s₉.heap := Wk2.frame _ _ _ st2' fun b hb o q => hk₉ b o (hXfp2 b hb) q
            have cx₉ := cx _ g₉ ⟨_, hdl₉⟩ ⟨_, vs₉⟩ (hIl _ _ st₉)
            have hkp₉ : ∀ b o, b ∉ D :: I :: (X ++ W) → s₇.heap.get? b = some o → s₉.heap.get? b = some o := fun b o hb q => hb9 b o hb (fun z => by rw [z, hI2] at q; cases q) (hkp b o hb q)
            have e79 : Ext (V (D :: I :: (X ++ W)) s₇.heap) (V (D :: I :: (X ++ W)) s₉.heap) := V_ext hkp₉
            have e9 : ∀ {s₀ : Shared}, (∀ b o, b ∉ D :: I :: (X ++ W) → b ≠ I2 → s₀.heap.get? b = some o → s₉.heap.get? b = some o) → Ext (V (I2 :: D :: I :: (X ++ W)) s₀.heap) (V (I2 :: D :: I :: (X ++ W)) s₉.heap) := fun k => V_ext fun b o hb q => k b o (fun z => hb (.tail _ z)) (fun z => hb (by rw [z]; exact .head _)) q
            have hr₉ := hr.mono (e9 hb9)
            have e79' : Ext (V (D :: I :: (X ++ W)) s₇.heap) (V (I2 :: D :: I :: (X ++ W)) s₉.heap) := fun b o q => V_in (V_le _ _ (e79 _ _ q)) fun z => by
              rcases List.mem_cons.mp z with rfl | z
              · rw [V_le _ _ q] at hI2; cases hI2
              · exact V_not q z
            have cx3 : Cx K A Fr (I2 :: D :: I :: (X ++ W)) s₉ := C₁.more g₉ ow3 (fun a ma => by
              rcases List.mem_cons.mp ma with rfl | ma
              · exact hIl2 _ _ st2₉
              · exact cx₉.lv a ma)
            have hv₉ := hv₇.mono e79'
            have hu₉ := hu'.mono e79'
            refine wpAny_mono (htests2 _ s₉ _ v u d d' i j _ hd hp hd' g₉ ow3 cx3 vs₉ (by simp [hxy, hmx]) (by simp) hv₉ hu₉) (fun ok s₁₀ q => ?_) fun _ _ e => e
            obtain ⟨g10, rfl⟩ := q
            have g₁₀ : Go Fr s₁ s₁₀ := g₉.trans g10
            have vs₁₀ := vsGo g10 vs₉
            have st₁₀ : St (i + 1) s₁₀.heap := Wk.frame _ _ _ st₉ fun b hb o q => g10.ext b o (hfp b hb).1.1 q
            have st2₁₀ : St2 (j + 1) s₁₀.heap := Wk2.frame _ _ _ st2₉ fun b hb o q => g10.ext b o (hfp2 b hb).1.1 q
            have hkp₁₀ : ∀ b o, b ∉ D :: I :: (X ++ W) → s₇.heap.get? b = some o → s₁₀.heap.get? b = some o := fun b o hb q => g10.ext b o (fun z => hb (cx₉.sub b z)) (hkp₉ b o hb q)
            have hr₁₀ := hr₉.mono (g10.see cx3.sub)
            have hdl₁₀ := g10.dl hdl₉
            cases hp' : p2 d d' with
            | false =>
              simp only [Bool.false_eq_true, if_false]
              refine ⟨(es d).length + 1 - (j + 1), by omega, j + 1, _, ys', g₁₀, g10.live lf₉, st₁₀, st2₁₀, vs₁₀, by simp [hxy, hmx], hdl₁₀, hkp₁₀, ?_, hlt2, rfl⟩
              rw [filter_map_take hd', hp']; simpa using hr₁₀
            | true =>
              simp only [if_true]
              have cx10 := cx3.go g10
              refine wpAny_mono (helt _ s₁₀ _ v u d d' i j _ hd hp hd' hp' g₁₀ ow3 cx10 vs₁₀ (by simp [hxy, hmx]) (by simp) (hv₉.mono (g10.see cx3.sub)) (hu₉.mono (g10.see cx3.sub))) (fun z s₁₁ q => ?_) fun _ _ e => e
              obtain ⟨g11, hz⟩ := q
              have hdl11 := g11.dl hdl₁₀
              have hlen11 : ys'.length ≤ 1000000 + 1000 := by
                have q1 := hr.length
                rw [List.length_append] at q1
                have q2 : ((((es d).take j).filter (p2 d)).map (f d)).length ≤ ((es d).take j).length := by rw [List.length_map]; exact List.length_filter_le _ _
                have q3 : ((es d).take j).length ≤ (es d).length := List.length_take_le' _ _
                omega
              refine dl_append' hdl11 hlen11 fun s₁₂ sm₁₂ hdl₁₂ hs₁₂ => ?_
              have hne : ∀ b, b ∉ D :: I :: (X ++ W) → b ≠ D := fun b hb z => hb ((hW2 b).mpr (.inl z))
              refine ⟨(es d).length + 1 - (j + 1), by omega, j + 1, _, ys' ++ [z], (g₁₀.trans g11).but sm₁₂ hs₁₂.extBut hD1, ?_, ?_, ?_, (vsGo g11 vs₁₀).at ?_, by simp [hxy, hmx], hdl₁₂, ?_, ?_, hlt2, rfl⟩
              · exact fun b hb => let ⟨o, q⟩ := g11.live (g10.live lf₉) b hb; ⟨o, hs₁₂.extBut b o (fun z => hDfp (z ▸ hb)) q⟩
              · exact Wk.frame _ _ _ st₁₀ fun b hb o q => hs₁₂.extBut b o (fun z => hDfp (z ▸ hb)) (g11.ext b o (hfp b hb).1.1 q)
              · exact Wk2.frame _ _ _ st2₁₀ fun b hb o q => hs₁₂.extBut b o (fun z => hDfp2 (z ▸ hb)) (g11.ext b o (hfp2 b hb).1.1 q)
              · exact fun b hb o q => hs₁₂.extBut b o (fun z => hDX (hX ▸ z ▸ hb)) q
              · exact fun b o hb q => hs₁₂.extBut b o (hne b hb) (g11.ext b o (fun z => hb (cx₉.sub b z)) (hkp₁₀ b o hb q))
              · rw [filter_map_take hd', hp', if_pos rfl, ← List.append_assoc]
                have e12 : Ext (V (I2 :: D :: I :: (X ++ W)) s₁₁.heap) (V (I2 :: D :: I :: (X ++ W)) s₁₂.heap) := V_same hs₁₂ (by simp)
                exact ((hr₁₀.mono (g11.see cx10.sub)).snoc hz).mono e12
          · have hj' : j = (es d).length := by omega
            subst hj'
            refine Wk2.done s' _ _ st2 fun h' tk hk' => ?_
            have hbI : ∀ b o, b ≠ I2 → s'.heap.get? b = some o → h'.get? b = some o := fun b o hb q => hk' b o (by simpa using hb) q
            refine ⟨ds.length + 1 - (i + 1), by omega, i + 1, m', ys', g.but ⟨_, _, rfl⟩ (fun b o hb q => hbI b o hb q) hI21, ?_, ?_, vs.at ?_, hdl.at fun o q => hbI D o hI2D q, ?_, hlt, rfl⟩
            · exact fun b hb => let ⟨o, q⟩ := lf b hb; ⟨o, hbI b o (fun z => hI2fp (z ▸ hb)) q⟩
            · exact Wk.frame _ _ _ st fun b hb o q => hbI b o (fun z => hI2fp (z ▸ hb)) q
            · exact fun b hb o q => hbI b o (fun z => hI2X (z ▸ hX ▸ hb)) q
            · rw [flat_take hd, hp, if_pos rfl]
              rw [List.take_length] at hr
              have e1 : Ext (V (I2 :: D :: I :: (X ++ W)) s'.heap) (V (I2 :: D :: I :: (X ++ W)) h') := V_ext fun b o hb q => hbI b o (fun z => hb (by rw [z]; exact .head _)) q
              exact (hr.mono e1).mono (V_sub fun a ma => .tail _ ma)
        exact start2_1 loop2 (Wk2.self 0 _ _ _ hst2 loop2)
    · have hi' : i = ds.length := by omega
      subst hi'
      refine Wk.done s' _ _ st fun h' tk hk' => ?_
      have hbI : ∀ b o, b ≠ I → s'.heap.get? b = some o → h'.get? b = some o := fun b o hb q => hk' b o (by simpa using hb) q
      have gI : Go Fr s₁ { s' with heap := h', toks := tk } := g.but ⟨_, _, rfl⟩ (fun b o hb q => hbI b o hb q) hI
      have vs' : VS cenv (ownC scope Cc) h' m := vs.at fun b hb o q => hbI b o (fun z => hXI (z ▸ hX ▸ hb)) q
      obtain ⟨m0, hn0, _⟩ := vs'.ns
      rw [hcl'] at hn0
      have hdl'' : DL h' D ys := hdl.at fun o q => hbI D o hDI q
      rw [List.take_length] at hr
      have hCX : Cc ∈ X := by rw [← hX, ← hcl']; exact .head _
      refine hQ D Cc m0 _ gI hD1 hC1 hn0 ⟨D, ys, rfl, hdl''.see (by simp only [List.mem_cons, not_or]; exact ⟨dl_ne_ns hdl'' hn0, hDW⟩), ?_⟩
      have e1 : Ext (V (D :: I :: (X ++ W)) s'.heap) (V (D :: I :: (X ++ W)) h') := V_ext fun b o hb q => hbI b o (fun z => hb ((hW2 b).mpr (.inr (.inl z)))) q
      exact hr.mono (e1.trans (V_sub fun a ma => by
        rcases List.mem_cons.mp ma with rfl | ma
        · exact (hW2 _).mpr (.inr (.inr (.inl hCX)))
        · exact (hW2 _).mpr (.inr (.inr (.inr ma)))))
  have ce : ({ newEnv scope Cc env.globals (cellsFrom (Cc + 1) scope.names cl) env.qual none .none (some env) builtinsNs with scope := relabel scope env } : Env) = cenv := by rw [← hce]; rfl
  rw [ce]
  exact codeAny_compStart_list loop (Wk.self 0 _ _ _ st4 loop)
/-- z = [.. for x .. for y ..], z a local -/
theorem comp2S {elt i1 i2 : Expr} {x y z : Str} {px py pz spos : Pos} {f1 f2 : List Expr} {scope : Scope} {cl : List (Str × Addr)} {pos : Pos} {ds : List PyData}
    (p1 : PyData → Bool) (es : PyData → List PyData) (p2 : PyData → PyData → Bool) (f : PyData → PyData → PyData) {m : Str → Option Value} {Q : Flow → Shared → Prop}
    (hsw : swapsWith (.ListComp elt [⟨.Name x px, i1, f1, 0⟩, ⟨.Name y py, i2, f2, 0⟩] scope pos) (some (.Name z pz)) spos.line env = pure true) (hek : env.scope.kind = .function) (hz : env.kindOf z = some .local) (hn0 : s.heap.Ns env.locals m) (hLW : env.locals ∈ W) (hLF : env.locals ∈ Fr)
    (C : Cx K A Fr W s) (hh : A.handled = none) (hclos : closureFor scope env = pure cl) (hkind : scope.kind = .function) (hnames : ∀ y ∈ scope.names, y.2 = .local → scope.names.lookup y.1 = some .local)
    (hnu : ∀ Cc, ((ownC scope Cc).map (·.1)).Nodup) (hx : ∀ Cc, Var (compEnvO scope cl Cc env) (ownC scope Cc) x) (hy : ∀ Cc, Var (compEnvO scope cl Cc env) (ownC scope Cc) y) (hxy : x ≠ y)
    (hlen : ds.length ≤ 1000) (hlen2 : ∀ d ∈ ds, (es d).length ≤ 1000)
    (src : wpAny (model prog w) A (eval i1 env) (fun xv s₁ => Go Fr s s₁ ∧ wpAny (model prog w) A (pyIter xv) (fun it s₂ => ∃ I, it = .ref I ∧ Src prog w A Fr W s₁ s₂ I ds ∧
      (∀ Cc W2 s' m v d (i : Nat) E', ds[i]? = some d → Go Fr s₁ s' → Own W W2 s₁.heap → Cx K A Fr W2 s' → VS (compEnvO scope cl Cc env) (ownC scope Cc) s'.heap m → m x = some v → Rd (V W2 s'.heap) v d →
        wpAny (model prog w) A (tests f1 (compEnvO scope cl Cc env)) (fun ok s'' => Go Fr s' s'' ∧ ok = p1 d) E' s') ∧
      (∀ Cc W2 s' m v d (i : Nat) E', ds[i]? = some d → p1 d = true → Go Fr s₁ s' → Own W W2 s₁.heap → Cx K A Fr W2 s' → VS (compEnvO scope cl Cc env) (ownC scope Cc) s'.heap m → m x = some v → Rd (V W2 s'.heap) v d →
        wpAny (model prog w) A (eval i2 (compEnvO scope cl Cc env)) (fun xv s₃ => Go Fr s' s₃ ∧ wpAny (model prog w) A (pyIter xv) (fun it s₄ => ∃ I2, it = .ref I2 ∧ Src prog w A Fr W2 s₃ s₄ I2 (es d)) E' s₃) E' s') ∧
      (∀ Cc W2 s' m v u d d' (i j : Nat) E', ds[i]? = some d → p1 d = true → (es d)[j]? = some d' → Go Fr s₁ s' → Own W W2 s₁.heap → Cx K A Fr W2 s' → VS (compEnvO scope cl Cc env) (ownC scope Cc) s'.heap m → m x = some v → m y = some u → Rd (V W2 s'.heap) v d → Rd (V W2 s'.heap) u d' →
        wpAny (model prog w) A (tests f2 (compEnvO scope cl Cc env)) (fun ok s'' => Go Fr s' s'' ∧ ok = p2 d d') E' s') ∧
      (∀ Cc W2 s' m v u d d' (i j : Nat) E', ds[i]? = some d → p1 d = true → (es d)[j]? = some d' → p2 d d' = true → Go Fr s₁ s' → Own W W2 s₁.heap → Cx K A Fr W2 s' → VS (compEnvO scope cl Cc env) (ownC scope Cc) s'.heap m → m x = some v → m y = some u → Rd (V W2 s'.heap) v d → Rd (V W2 s'.heap) u d' →
        wpAny (model prog w) A (eval elt (compEnvO scope cl Cc env)) (fun z s'' => Go Fr s' s'' ∧ Rd (V W2 s''.heap) z (f d d')) E' s') ∧
      (∀ D s' s₃, Go Fr s₁ s' → s₁.heap.get? D = none → RL (V W s'.heap) (.ref D) ((ds.filter p1).flatMap fun d => ((es d).filter (p2 d)).map (f d)) → Sm s' s₃ → s₃.heap.Ns env.locals (fun y => if y = z then some (.ref D) else m y) → Heap.SameBut env.locals s'.heap s₃.heap → Q .next s₃)) E s₁) E s)
    (hs : ∀ x, foldedSetIterable i1 env x = pure x := by intro _; rfl) (hs2 : ∀ e x, foldedSetIterable i2 e x = pure x := by intro _ _; rfl) :
    wpAny (model prog w) A (exec (.Assign [.Name z pz] (.ListComp elt [⟨.Name x px, i1, f1, 0⟩, ⟨.Name y py, i2, f2, 0⟩] scope pos) spos) env) Q E s := by
  rw [exec_Assign_Name_used _ _ _ _ hsw]
  refine wpAny_bind (wpAny_standAt (wpAny_bind ?_))
  show wpAny _ A (do let _ ← comprehension (.ListComp elt [⟨.Name x px, i1, f1, 0⟩, ⟨.Name y py, i2, f2, 0⟩] scope pos) scope env _ (newList []) false (eval i1 env) (some (assign (.Name z pz) env))) _ _ s
  refine wpAny_bind (comp2G (use := some (assign (.Name z pz) env)) p1 es p2 f C hh hclos hkind hnames hnu hx hy hxy hlen hlen2 (wpAny_mono src (fun xv s₁ q => ⟨q.1, wpAny_mono q.2 (fun it s₂ q' => ?_) fun _ _ e => e⟩) fun _ _ e => e) hs hs2)
  have go₁ := q.1
  obtain ⟨I, h1, h2, h3, h4, h5, h6, hQ⟩ := q'
  exact ⟨I, h1, h2, h3, h4, h5, h6, fun D Cc m' s' g hD hC hn rl => wpAny_assign_Name (use_local (fun s' => wpAny (model prog w) A (pure ()) (fun a s' => wpAny (model prog w) A (pure Flow.next) Q E s') E s') hek hz hn0 hLW hLF go₁ g hC hn rl fun s' s₃ g rl sm hn hs => wpAny_pure (wpAny_pure (hQ D s' s₃ g hD rl sm hn hs)))⟩
/-- [.. for x .. for y ..] -/
theorem comp2 {elt i1 i2 : Expr} {x y : Str} {px py : Pos} {f1 f2 : List Expr} {scope : Scope} {cl : List (Str × Addr)} {pos : Pos} {ds : List PyData}
    (p1 : PyData → Bool) (es : PyData → List PyData) (p2 : PyData → PyData → Bool) (f : PyData → PyData → PyData) {Q : Value → Shared → Prop}
    (C : Cx K A Fr W s) (hh : A.handled = none) (hclos : closureFor scope env = pure cl) (hkind : scope.kind = .function) (hnames : ∀ y ∈ scope.names, y.2 = .local → scope.names.lookup y.1 = some .local)
    (hnu : ∀ Cc, ((ownC scope Cc).map (·.1)).Nodup) (hx : ∀ Cc, Var (compEnvO scope cl Cc env) (ownC scope Cc) x) (hy : ∀ Cc, Var (compEnvO scope cl Cc env) (ownC scope Cc) y) (hxy : x ≠ y)
    (hlen : ds.length ≤ 1000) (hlen2 : ∀ d ∈ ds, (es d).length ≤ 1000)
    (src : wpAny (model prog w) A (eval i1 env) (fun xv s₁ => Go Fr s s₁ ∧ wpAny (model prog w) A (pyIter xv) (fun it s₂ => ∃ I, it = .ref I ∧ Src prog w A Fr W s₁ s₂ I ds ∧
      (∀ Cc W2 s' m v d (i : Nat) E', ds[i]? = some d → Go Fr s₁ s' → Own W W2 s₁.heap → Cx K A Fr W2 s' → VS (compEnvO scope cl Cc env) (ownC scope Cc) s'.heap m → m x = some v → Rd (V W2 s'.heap) v d →
        wpAny (model prog w) A (tests f1 (compEnvO scope cl Cc env)) (fun ok s'' => Go Fr s' s'' ∧ ok = p1 d) E' s') ∧
      (∀ Cc W2 s' m v d (i : Nat) E', ds[i]? = some d → p1 d = true → Go Fr s₁ s' → Own W W2 s₁.heap → Cx K A Fr W2 s' → VS (compEnvO scope cl Cc env) (ownC scope Cc) s'.heap m → m x = some v → Rd (V W2 s'.heap) v d →
        wpAny (model prog w) A (eval i2 (compEnvO scope cl Cc env)) (fun xv s₃ => Go Fr s' s₃ ∧ wpAny (model prog w) A (pyIter xv) (fun it s₄ => ∃ I2, it = .ref I2 ∧ Src prog w A Fr W2 s₃ s₄ I2 (es d)) E' s₃) E' s') ∧
      (∀ Cc W2 s' m v u d d' (i j : Nat) E', ds[i]? = some d → p1 d = true → (es d)[j]? = some d' → Go Fr s₁ s' → Own W W2 s₁.heap → Cx K A Fr W2 s' → VS (compEnvO scope cl Cc env) (ownC scope Cc) s'.heap m → m x = some v → m y = some u → Rd (V W2 s'.heap) v d → Rd (V W2 s'.heap) u d' →
        wpAny (model prog w) A (tests f2 (compEnvO scope cl Cc env)) (fun ok s'' => Go Fr s' s'' ∧ ok = p2 d d') E' s') ∧
      (∀ Cc W2 s' m v u d d' (i j : Nat) E', ds[i]? = some d → p1 d = true → (es d)[j]? = some d' → p2 d d' = true → Go Fr s₁ s' → Own W W2 s₁.heap → Cx K A Fr W2 s' → VS (compEnvO scope cl Cc env) (ownC scope Cc) s'.heap m → m x = some v → m y = some u → Rd (V W2 s'.heap) v d → Rd (V W2 s'.heap) u d' →
        wpAny (model prog w) A (eval elt (compEnvO scope cl Cc env)) (fun z s'' => Go Fr s' s'' ∧ Rd (V W2 s''.heap) z (f d d')) E' s') ∧
      (∀ D s', Go Fr s₁ s' → s₁.heap.get? D = none → RL (V W s'.heap) (.ref D) ((ds.filter p1).flatMap fun d => ((es d).filter (p2 d)).map (f d)) → Q (.ref D) s')) E s₁) E s)
    (hs : ∀ x, foldedSetIterable i1 env x = pure x := by intro _; rfl) (hs2 : ∀ e x, foldedSetIterable i2 e x = pure x := by intro _ _; rfl) :
    wpAny (model prog w) A (eval (.ListComp elt [⟨.Name x px, i1, f1, 0⟩, ⟨.Name y py, i2, f2, 0⟩] scope pos) env) Q E s := by
  rw [eval_ListComp]
  refine comp2G p1 es p2 f C hh hclos hkind hnames hnu hx hy hxy hlen hlen2 (wpAny_mono src (fun xv s₁ q => ⟨q.1, wpAny_mono q.2 (fun it s₂ q => ?_) fun _ _ e => e⟩) fun _ _ e => e) hs hs2
  obtain ⟨I, h1, h2, h3, h4, h5, h6, hQ⟩ := q
  refine ⟨I, h1, h2, h3, h4, h5, h6, fun D Cc m s' g hD hC hn rl => ⟨m, hn, fun h' hs' => hQ D _ (g.but ⟨_, _, rfl⟩ hs'.extBut hC) hD ?_⟩⟩
  exact (rl.mono (V_same hs' (by simp))).mono (V_sub fun a ma => by simp [ma])
/-- [] -/
theorem list0 {pos : Pos} {M : Model} {Q : Value → Shared → Prop} (lv : Live W s.heap) (h : ∀ l s', Go Fr s s' → s.heap.get? l = none → DL s'.heap l [] → RL (V W s'.heap) (.ref l) [] → Q (.ref l) s') :
    wpAny M A (eval (.List [] pos) env) Q E s := by
  refine wpAny_List (wpAny_items_nil ⟨by rw [sizeLine_eq]; simp, ?_⟩)
  exact new_list (Fr := Fr) (Q := Q) lv RdAll.nil h
end
end Mine
end

section
open PySem PySem.W PyProof.Rows PySem.Calls
namespace Mine
noncomputable abbrev K1 (P : Params) : Frag := hd.heap_39 P

def ddStep (acc : List PyData) (x : PyData) : List PyData := if acc.any (fun y => PyData.eqv y x) then acc else acc ++ [x]
def dd (xs : List PyData) : List PyData := xs.foldl ddStep []

theorem dd_take {xs : List PyData} {i : Nat} {x : PyData} (h : xs[i]? = some x) : dd (xs.take (i + 1)) = ddStep (dd (xs.take i)) x := by
  unfold dd
  rw [List.take_add_one, h, List.foldl_append]; rfl
theorem ddStep_sub (acc : List PyData) (x : PyData) : (ddStep acc x).length ≤ acc.length + 1 := by
  unfold ddStep; split <;> simp
theorem dd_len (xs : List PyData) : (dd xs).length ≤ xs.length := by
  suffices ∀ (xs acc : List PyData), (xs.foldl ddStep acc).length ≤ acc.length + xs.length by simpa [dd] using this xs []
  intro xs
  induction xs with
  | nil => intro acc; simp
  | cons x xs ih => intro acc; have := ih (ddStep acc x); have := ddStep_sub acc x; simp only [List.foldl_cons, List.length_cons]; omega
theorem mem_foldl_dd (P : PyData → Prop) : ∀ (xs acc : List PyData), (∀ x ∈ acc, P x) → (∀ x ∈ xs, P x) → ∀ x ∈ xs.foldl ddStep acc, P x := by
  intro xs
  induction xs with
  | nil => intro acc h _; exact h
  | cons y ys ih =>
    intro acc h1 h2
    refine ih _ (fun x hx => ?_) fun x hx => h2 x (.tail _ hx)
    unfold ddStep at hx
    split at hx
    · exact h1 x hx
    · rcases List.mem_append.mp hx with hx | hx
      · exact h1 x hx
      · rw [List.mem_singleton.mp hx]; exact h2 y (.head _)
theorem mem_dd (P : PyData → Prop) {xs : List PyData} (h : ∀ x ∈ xs, P x) : ∀ x ∈ dd xs, P x := mem_foldl_dd P xs [] (fun _ q => nomatch q) h
theorem canLayAll_iff {xs : List PyData} : PyData.canLayAll0 xs = true ↔ ∀ x ∈ xs, x.canLay0 = true := by
  induction xs with
  | nil => simp [PyData.canLayAll0]
  | cons x xs ih => simp [PyData.canLayAll0, ih]
theorem depthAll_le {xs : List PyData} {n : Nat} : PyData.depthAll xs ≤ n ↔ ∀ x ∈ xs, x.depth ≤ n := by
  induction xs with
  | nil => simp [PyData.depthAll]
  | cons x xs ih => simp only [PyData.depthAll, List.mem_cons, forall_eq_or_imp, ← ih]; omega

variable {prog : Program} {w : World} {A : Around} {E : Value → Shared → Prop} {s : Shared}
theorem dedupU {Fr W : List Addr} {v : Value} {xs : List PyData} (C : Cx (K1 w.params) A Fr W s) (hroom : A.depth < recursionLimit) (hu : A.units + 64 < cLine)
    (r : Rd (V W s.heap) v (.list xs)) (hc : PyData.canLayAll0 xs = true) (hdep : PyData.depthAll xs ≤ 8) (hlen : xs.length ≤ 100000) :
    Ev (model prog w) A Fr (call (.ref 29) [v]) s (fun u s' => Rd (V W s'.heap) u (.list (dd xs))) := by
  refine call_enter (K := K1 w.params) (binds := [("unhashable_params", v)]) C.gr hroom (by rfl) (by rfl) (by rfl) (by rfl) (BindsTo.of_eq rfl) (by decide) (locs rfl) ?_
  intro env s₁ henv sm₁ ex₁ hn hL
  have hk : env.scope.kind = .function := by rw [henv]; rfl
  obtain ⟨a, vs, rfl, hl, rs⟩ := r.list_inv
  have go₁ : Go Fr s s₁ := .of sm₁ ex₁
  -- new_unhashable = []
  refine wpAny_execs_cons (wpAny_Assign_Name (wpAny_List (wpAny_items_nil ⟨by decide, ?_⟩)))
  have hns1 := hn.push { cls := .type "list", data := .seq ([] : List Value).toArray }
  have hN1 := DL.of_push s₁.heap []
  have hN0 : s.heap.get? s₁.heap.objs.size = none := ex₁.fresh (push_none _)
  generalize s₁.heap.objs.size = N at hN1 hN0 ⊢
  refine st_local hns1 hk (by rw [henv]; rfl) fun s₂ sm₂ hn₂ hs₂ => ?_
  have hNL : N ≠ env.locals := dl_ne_ns hN1 hns1
  have hN2 : DL s₂.heap N [] := hN1.but hs₂.extBut hNL
  have go2 : Go Fr s s₂ := (go₁.trans (.of (Sm.heap s₁ _) (Ext.push _ _))).but sm₂ hs₂.extBut hL
  dsimp only
  -- the loop
  refine wpAny_execs_cons (wpAny_For (nm_local hn₂ hk (by rw [henv]; rfl) (v := .ref a) (by rfl) ?_))
  have hl2 := go2.isList (IsList.ext V_le hl)
  refine iter_list hl2 fun it s₃ sm₃ ex₃ hit0 hit => ?_
  have go3 : Go Fr s s₃ := go2.trans (.of sm₃ ex₃)
  have hitS : s.heap.get? it = none := go2.fresh hit0
  refine for_list (vs := vs) (l := a) (fun i m s' => Go Fr s s' ∧ s'.heap.IsListIter it a i ∧ s'.heap.Ns env.locals m ∧ m "new_unhashable" = some (.ref N) ∧
      ∃ ys, DL s'.heap N ys ∧ RdAll (V W s.heap) ys (dd (xs.take i))) hk (by rw [henv]; rfl) ?_ ?_ ?_ (m₀ := _)
      ⟨go3, hit, hn₂.keeps ex₃, by rfl, [], hN2.ext ex₃, by simpa [dd] using RdAll.nil⟩
  · rintro i m s' ⟨h1, h3, h4, _⟩
    exact ⟨h3, h1.isList (IsList.ext V_le hl), C.hd.mono ((h1.see C.sub).trans V_le), h4⟩
  · rintro i x m s' s'' ⟨h1, h3, h4, h5, ys, h6, h7⟩ hv sm hit'' hn'' hkeep
    have go : Go Fr s s'' := h1.but2 sm hkeep hitS hL
    have hNit : N ≠ it := Ne.symm (iter_ne_dl h3 h6)
    have hNN : DL s''.heap N ys := h6.at fun o e => hkeep N o hNit hNL e
    obtain ⟨d, hd, hx⟩ := rs.get hv
    have hdm := List.mem_of_getElem? hd
    have exV : Ext (V W s.heap) s''.heap := (go.see C.sub).trans V_le
    obtain ⟨as, ra⟩ := Rd.list_of hNN.isList (h7.mono exV)
    obtain ⟨bs, rb⟩ := hx.mono exV
    have htk : ∀ y ∈ dd (xs.take i), y ∈ xs := fun y hy => mem_dd (· ∈ xs) (fun z hz => List.mem_of_mem_take hz) y hy
    refine wpAny_execs_cons (wpAny_If (wpAny_isTrue_Compare1 (nm_local hn'' hk (by rw [henv]; rfl) (by rfl) (nm_local hn'' hk (by rw [henv]; rfl) (v := .ref N) h5 ?_))))
    refine SeqAt.notIn_list_reads ra rb (canLayAll_iff.mpr fun y hy => canLayAll_iff.mp hc y (htk y hy)) (canLayAll_iff.mp hc d hdm) ?_ (wpAny_truthy_bool ?_)
    · have q1 := depthAll_le.mp hdep d hdm
      have q2 : (A.deeper env).units = A.units + 3 := rfl
      rw [q2]
      omega
    have hstep := dd_take hd
    cases hb : (dd (xs.take i)).any (fun y => PyData.eqv y d) with
    | true =>
      have e1 : dd (xs.take (i + 1)) = dd (xs.take i) := by rw [hstep, ddStep, if_pos hb]
      refine wpAny_execs_nil (wpAny_execs_nil ⟨_, go, hit'', hn'', h5, ys, hNN, by rw [e1]; exact h7⟩)
    | false =>
      have e1 : dd (xs.take (i + 1)) = dd (xs.take i) ++ [d] := by rw [hstep, ddStep, if_neg (by rw [hb]; exact Bool.false_ne_true)]
      refine wpAny_execs_cons (wpAny_Expr (meth1 F.plainAttrs_list slot_list_append (by exact F.type_list_append) rfl rfl rfl (nm_local hn'' hk (by rw [henv]; rfl) (v := .ref N) h5 ⟨hNN.isList.typeIs, hNN.noDict, ?_⟩)) (hi := by unfold interactive; rw [hk]; rfl))
      refine nm_local hn'' hk (by rw [henv]; rfl) (by rfl) ?_
      have hsz : ys.length ≤ 1000000 := by
        have q1 := h7.length
        have q2 := dd_len (xs.take i)
        have q3 : (xs.take i).length ≤ xs.length := List.length_take_le' _ _
        omega
      refine dl_append hNN hsz fun s₄ sm₄ hp₄ hs₄ => ?_
      refine wpAny_execs_nil (wpAny_execs_nil ⟨_, go.but sm₄ hs₄.extBut hN0, hit''.extBut hs₄.extBut (Ne.symm hNit), hn''.sameBut hs₄ (Ne.symm hNL), h5, ys ++ [x], hp₄, by rw [e1]; exact h7.snoc hx⟩)
  · rintro m s' s'' ⟨h1, h3, h4, h5, ys, h6, h7⟩ sm he
    have go : Go Fr s s'' := h1.but sm he hitS
    have hNN : DL s''.heap N ys := h6.but he (Ne.symm (iter_ne_dl h3 h6))
    refine wpAny_execs_cons (wpAny_Return_some (nm_local (ns_but h4 he (Ne.symm (iter_ne_ns h3 h4))) hk (by rw [henv]; rfl) (v := .ref N) h5 ?_))
    rw [rs.length, List.take_length] at h7
    exact ⟨go, Rd.list_of (hNN.see (C.lv.not hN0)).isList (h7.mono (go.see C.sub))⟩
end Mine
end

section
open PySem PySem.W PyProof.Rows PySem.Calls
namespace Mine
variable {prog : Program} {w : World} {A : Around} {E : Value → Shared → Prop} {s : Shared}
theorem findFk : findCls (K1 w.params) (.type "dict") (.type "type") (PySem.Str.ofString "fromkeys") = some (.get (.builtin "classmethod_descriptor.__get__") (.builtin "dict.fromkeys") .none (.type "dict")) := by rfl

/-- dict.fromkeys(params) upon a list of which the first item is a list: TypeError -/
theorem fk_raises {env : Env} {m : Str → Option Value} {p1 p2 p3 p4 : Pos} {l a : Addr} {vs : List Value} {its : Array Value} {Q : Value → Shared → Prop}
    (G : Gr (K1 w.params) s.heap) (hk : env.scope.kind = .function) (hg : env.globals = mainGlobals) (hb : env.builtins = builtinsNs) (hdk : env.kindOf "dict" = some .globalImplicit) (hpk : env.kindOf "params" = some .local)
    (hline : (p2.endLine == p4.line) = true)
    (hn : s.heap.Ns env.locals m) (hm : m "params" = some (.ref l)) (hl : s.heap.IsList l vs.toArray) (h0 : vs[0]? = some (.ref a)) (ha : s.heap.IsList a its) (hh : A.handled = none) (hu : A.units + 10 < cLine)
    (h : ∀ e it s', Sm s s' → Heap.ExtBut it s.heap s'.heap → s.heap.get? it = none → s.heap.get? e = none → (∃ ob t, s'.heap.get? e = some ob ∧ ob.cls = .type "TypeError" ∧ ob.data = .fields #[t, .none, .none, .none, .bool false, .none]) → E (.ref e) s') :
    wpAny (model prog w) A (eval (.Call (.Attribute (.Name "dict" p1) "fromkeys" p2) [.Name "params" p3] [] p4) env) Q E s := by
  refine callMeth1 rfl hline rfl (nm_builtin G hg hb hk hdk (by rfl) boot_dict (by decide) ?_)
  refine getm_fk G.X findFk ?_
  have e0 : Ext s.heap (s.heap.push fkObj) := Ext.push _ _
  refine callWith_fk rfl (evalArgs_plain (spliced_cons (nm_local (hn.keeps e0) hk hpk hm (spliced_nil ⟨Heap.get?_push_size _ rfl, ?_⟩))))
  refine call_fk (Heap.get?_push_size _ rfl) (IsList.ext e0 hl) fun d it s' sm' ex' hd0 hit0 hd hit => ?_
  refine fkl_raise hh (by omega) hd hit (IsList.ext (e0.trans ex') hl) (by simpa using h0) (IsList.ext (e0.trans ex') ha) fun e s'' sm'' he'' hen hex => ?_
  exact h e it s'' (Sm.trans ⟨_, _, rfl⟩ (sm'.trans sm'')) (fun b o hb q => he'' b o hb (ex' _ _ (e0 _ _ q))) (e0.fresh hit0) ((e0.trans ex').fresh hen) hex

/-- what stands behind the raise of dict.fromkeys in _deduplicate's try: the handler's suite begins -/
theorem dedup_handler {Fr W : List Addr} {env : Env} {s₀ s₁ : Shared} {m : Str → Option Value} {e it : Addr} {b₀ : Stmt} {suite : List Stmt} {p1 p2 : Pos} {Q : Flow → Shared → Prop} {E : Value → Shared → Prop}
    (C : Cx (K1 w.params) A Fr W s₀) (go : Go Fr s₀ s) (hL : s₀.heap.get? env.locals = none) (hk : env.scope.kind = .function) (hg : env.globals = mainGlobals) (hb : env.builtins = builtinsNs) (hf : env.frame = some env.locals)
    (htk : env.kindOf "TypeError" = some .globalImplicit) (hn : s.heap.Ns env.locals m)
    (sm : Sm s s₁) (he : Heap.ExtBut it s.heap s₁.heap) (hit : s.heap.get? it = none) (hen : s.heap.get? e = none) (hex : ∃ ob t, s₁.heap.get? e = some ob ∧ ob.cls = .type "TypeError" ∧ ob.data = .fields #[t, .none, .none, .none, .bool false, .none])
    (h : ∀ s' t tb, Go Fr s₀ s' → s'.heap.Ns env.locals m → Tb s'.heap e (.type "TypeError") t tb .none → s₀.heap.get? e = none → s₀.heap.get? tb = none →
      wpAny (model prog w) ((A.deeper env).mark (some (.ref e))) (execs (b₀ :: suite) env) Q (notedBy (model prog w) ((A.deeper env).mark (some (.ref e))) env (cameBackBy (model prog w) (A.deeper env) env E)) s') :
    wpAny (model prog w) (A.deeper env) (noteFrame (.ref e) env) (fun _ s₂ => wpAny (model prog w) (A.deeper env) (setFlight (.ref e) none) (fun _ s₃ => wpAny (model prog w) (A.deeper env) (handleBy (.ref e) env [.ExceptHandler (some (.Name "TypeError" p1)) none (b₀ :: suite) p2]) Q E s₃) E s₂) E s₁ := by
  have hit0 := go.fresh hit
  have he0 := go.fresh hen
  have go1 : Go Fr s₀ s₁ := go.but sm he hit0
  obtain ⟨ob, t, g1, g2, g3⟩ := hex
  have hLit : env.locals ≠ it := by
    rintro rfl
    obtain ⟨o, es, ep, ho, _⟩ := hn
    rw [hit] at ho; cases ho
  have hn1 : s₁.heap.Ns env.locals m := ns_but hn he hLit
  have hLe : env.locals ≠ e := exc_ne_ns g1 g3 hn1
  obtain ⟨oL, esL, epL, hoL, _⟩ := id hn1
  have C1 : Cx (K1 w.params) (A.deeper env) (env.locals :: Fr) (env.locals :: W) s₁ := C.inn go1 ((Own.refl W _).cons hL) (Live.cons hoL (go1.live C.lv)) hk hf (.head _) hn1
  obtain ⟨fs, hfs, hFF, hfr⟩ := C1.fm.frames
  obtain ⟨fs0, hfs0, _⟩ := C.fm
  have : fs = env :: fs0 := by
    have := Around.frames_deeper (env := env) hfs0
    rw [hfs] at this; exact Option.some.inj this
  subst this
  refine land hfs hFF hf g1 g2 g3 fun s₂ tb sm₂ htbn mk ht => ?_
  have htb0 : s₀.heap.get? tb = none := go1.fresh htbn
  have go2 : Go Fr s₀ s₂ := go1.mk' sm₂ mk (fun a ha => by
    rcases List.mem_cons.mp (hfr a ha) with rfl | z
    · exact .inr hL
    · exact .inl z) he0
  have hn2 := mk.ns hn1 hLe
  refine wpAny_handleBy_builtin exc_TypeError nt_TypeError sub_TypeError (nm_builtin (C.G.mono ((go2.see C.sub).trans V_le)) hg hb hk htk (by rfl) boot_TypeError (by decide) ⟨rfl, ht.typeIs, ?_⟩)
  simp only [if_true]
  refine flight ht fun s₃ sm₃ hs₃ ht₃ => ?_
  have hLtb : env.locals ≠ tb := by
    rintro rfl
    obtain ⟨ob', ot, ts, q1, q2, q3, q4, q5, q6, _⟩ := ht
    exact exc_ne_ns q5 q6 hn2 rfl
  exact h s₃ t tb (go2.but sm₃ hs₃.extBut htb0) (hn2.sameBut hs₃ hLtb) ht₃ he0 htb0

theorem dedupL {Fr W : List Addr} {v : Value} {xs : List PyData} {x : List PyData} (C : Cx (K1 w.params) A Fr W s) (hh : A.handled = none) (hroom : A.depth + 1 < recursionLimit) (hu : A.units + 100 < cLine)
    (r : Rd (V W s.heap) v (.list (.list x :: xs))) (hc : PyData.canLayAll0 (.list x :: xs) = true) (hdep : PyData.depthAll (.list x :: xs) ≤ 8) (hlen : (PyData.list x :: xs).length ≤ 100000) :
    Ev (model prog w) A Fr (call (.ref 22) [v] [("unhashable_fallback", .bool true)]) s (fun u s' => Rd (V W s'.heap) u (.list (dd (.list x :: xs)))) := by
  refine call_enter (K := K1 w.params) (binds := [("params", v), ("unhashable_fallback", .bool true)]) C.gr (by omega) (by rfl) (by rfl) (by rfl) (by rfl) (BindsTo.of_eq rfl) (by decide) (locs rfl) ?_
  intro env s₁ henv sm₁ ex₁ hn hL
  have hk : env.scope.kind = .function := by rw [henv]; rfl
  have hg : env.globals = mainGlobals := by rw [henv]; rfl
  have hb : env.builtins = builtinsNs := by rw [henv]; rfl
  have hf : env.frame = some env.locals := by rw [henv]; rfl
  obtain ⟨l, vs, rfl, hl, rs⟩ := r.list_inv
  have go₁ : Go Fr s s₁ := .of sm₁ ex₁
  obtain ⟨a, its, h0, ha⟩ : ∃ a its, vs[0]? = some (.ref a) ∧ (V W s.heap).IsList a its := by
    cases vs with
    | nil => have := rs.length; simp at this
    | cons v vs =>
      obtain ⟨a, ws, rfl, q, _⟩ := rs.cons_inv.1.list_inv
      exact ⟨a, _, rfl, q⟩
  refine wpAny_execs_cons (wpAny_Try_except (wpAny_execs_cons (wpAny_Return_some ?_)))
  refine fk_raises (C.gr.mono ex₁) hk hg hb (by rw [henv]; rfl) (by rw [henv]; rfl) rfl hn (by rfl) (IsList.ext (V_le.trans ex₁) hl) h0 (IsList.ext (V_le.trans ex₁) ha) hh (by show A.units + 3 + 10 < cLine; omega) fun e it s₂ sm₂ he₂ hit hen hex => ?_
  refine dedup_handler C go₁ hL hk hg hb hf (by rw [henv]; rfl) hn sm₂ he₂ hit hen hex fun s₃ t tb go₃ hn₃ ht₃ he0 htb0 => ?_
  refine wpAny_execs_cons (wpAny_If (wpAny_isTrue_Not (wpAny_isTrue_value (nm_local hn₃ hk (by rw [henv]; rfl) (v := .bool true) (by rfl) (wpAny_truthy_bool (wpAny_execs_nil ?_))))))
  dsimp only
  obtain ⟨oL, esL, epL, hoL, _⟩ := id hn₃
  have ow : Own W (env.locals :: W) s.heap := (Own.refl W _).cons hL
  have C3 : Cx (K1 w.params) (A.deeper env) (env.locals :: Fr) (env.locals :: W) s₃ := C.inn go₃ ow (Live.cons hoL (go₃.live C.lv)) hk hf (.head _) hn₃
  have C4 : Cx (K1 w.params) ((A.deeper env).mark (some (.ref e))) (env.locals :: Fr) (env.locals :: W) s₃ := ⟨C3.G, C3.lv, C3.sub, C3.fm, .inr (by
    obtain ⟨ob, ot, ts, q1, q2, q3, _⟩ := ht₃
    refine ⟨e, ob, _, rfl, V_in q1 ?_, q3, rfl⟩
    intro z
    rcases List.mem_cons.mp z with z | z
    · exact exc_ne_ns q1 q3 hn₃ z.symm
    · exact C.lv.not he0 z)⟩
  refine wpAny_execs_cons (wpAny_Return_some (callDef1 (K := K1 w.params) (f := 29) (by rfl) (by rfl) (fun h' => nm_global C4.gr hg hk (by rw [henv]; rfl) (by rfl) h') rfl (nm_local hn₃ hk (by rw [henv]; rfl) (v := .ref l) (by rfl) ⟨C4.gr, ?_⟩)))
  refine (dedupU C4 (by show A.depth + 1 < recursionLimit; exact hroom) (by show A.units + 3 + 64 < cLine; omega) (r.mono (go₃.see' C.sub ow)) hc hdep hlen).use fun u s₄ go₄ hr => ?_
  exact ⟨go₃.step go₄ ((Own.refl Fr _).cons hL), hr.mono (V_sub fun a m => .tail _ m)⟩
end Mine
end

section
open PySem PySem.W PyProof.Rows PySem.Calls
namespace Mine
theorem dd_map {α : Type} [DecidableEq α] (g : α → PyData) (hg : ∀ a b, PyData.eqv (g a) (g b) = decide (a = b)) (xs : List α) : dd (xs.map g) = (ddG xs).map g := by
  unfold dd ddG
  suffices ∀ (xs acc : List α), (xs.map g).foldl ddStep (acc.map g) = (xs.foldl (fun acc x => if x ∈ acc then acc else acc ++ [x]) acc).map g by simpa using this xs []
  intro xs
  induction xs with
  | nil => intro acc; rfl
  | cons x xs ih =>
    intro acc
    have : ddStep (acc.map g) (g x) = (if x ∈ acc then acc else acc ++ [x]).map g := by
      unfold ddStep
      have e : (acc.map g).any (fun y => PyData.eqv y (g x)) = decide (x ∈ acc) := by
        rw [List.any_map, Bool.eq_iff_iff]
        simp only [List.any_eq_true, Function.comp, hg, decide_eq_true_eq]
        constructor
        · rintro ⟨y, hy, rfl⟩; exact hy
        · intro h; exact ⟨x, h, rfl⟩
      rw [e]
      by_cases h : x ∈ acc <;> simp [h]
    simp only [List.map_cons, List.foldl_cons, this, ih]

def more (rows : List (List Int)) (k : Int) : List (List Int) := ddG (rows ++ rows.map (· ++ [k]))

variable {prog : Program} {w : World} {A : Around} {E : Value → Shared → Prop} {s : Shared}
theorem lawMore {Fr W : List Addr} {v : Value} {r0 : List Int} {rows : List (List Int)} {k : Int} {t : Tok} (C : Cx (K1 w.params) A Fr W s) (hh : A.handled = none) (hroom : A.depth + 3 < recursionLimit) (hu : A.units + 200 < cLine)
    (r : Rd (V W s.heap) v (.list ((r0 :: rows).map IL))) (hlen : (r0 :: rows).length ≤ 1000) (hrow : ∀ x ∈ r0 :: rows, x.length ≤ 1000) :
    Ev (model prog w) A Fr (call (.ref 50) [v, .int k t]) s (fun u s' => Rd (V W s'.heap) u (.list ((more (r0 :: rows) k).map IL))) := by
  refine call_enterC (K := K1 w.params) (binds := [("rows", v), ("figure", .int k t)]) C.gr (by omega) (by rfl) (by rfl) (by rfl) (by rfl) rfl rfl (fun _ => rfl) ?_
  intro env s₁ henv sm₁ ex₁ hn hL hcell hcnew
  have hk : env.scope.kind = .function := by rw [henv]; rfl
  have hg : env.globals = mainGlobals := by rw [henv]; rfl
  have hb : env.builtins = builtinsNs := by rw [henv]; rfl
  have hf : env.frame = some env.locals := by rw [henv]; rfl
  have go₁ : Go Fr s s₁ := .of sm₁ ex₁
  obtain ⟨fc, hfc⟩ : ∃ c, env.cells.lookup ("figure" : Str) = some c := ⟨s.heap.objs.size + 1, by rw [henv]; rfl⟩
  have hcv : s₁.heap.IsCell fc (some (.int k t)) := by
    have := hcell "figure" fc hfc
    have e : bindC env.kindOf [("rows", v), ("figure", .int k t)] (fun _ => none) "figure" = some (.int k t) := by rw [henv]; rfl
    rw [e] at this; exact this
  have hmr : bindL env.kindOf [("rows", v), ("figure", .int k t)] (fun _ => none) "rows" = some v := by rw [henv]; rfl
  generalize bindL env.kindOf [("rows", v), ("figure", .int k t)] (fun _ => none) = m at hn hmr
  obtain ⟨oL, esL, epL, hoL, _⟩ := id hn
  have ow : Own W (env.locals :: W) s.heap := (Own.refl W _).cons hL
  have C1 : Cx (K1 w.params) (A.deeper env) (env.locals :: Fr) (env.locals :: W) s₁ := C.inn go₁ ow (Live.cons hoL (go₁.live C.lv)) hk hf (.head _) hn
  have r1 : Rd (V (env.locals :: W) s₁.heap) v (.list ((r0 :: rows).map IL)) := r.mono (go₁.see' C.sub ow)
  refine wpAny_execs_cons (wpAny_Return_some (callDefKw (K := K1 w.params) (f := 22) (by rfl) (by rfl) (fun h' => nm_global C1.gr hg hk (by rw [henv]; rfl) (by rfl) h') rfl rfl ?_))
  refine wpAny_BinOp (nm_local hn hk (by rw [henv]; rfl) hmr ?_)
  refine comp1 (ds := (r0 :: rows).map IL) (cl := [("figure", fc)]) (fun _ => true) (fun d => match d with | .list xs => .list (xs ++ [.int k]) | d => d) C1 hh ?_ rfl (by decide) (by decide) (by decide) (by rw [List.length_map]; omega) ?_
  · have : fc = s.heap.objs.size + 1 := by rw [henv] at hfc; exact (Option.some.inj hfc).symm
    rw [henv, this]; rfl
  refine nm_local hn hk (by rw [henv]; rfl) hmr ⟨Go.refl _ _, src_list hh C1 r1 fun I s₂ hS => ⟨I, rfl, hS, ?_, ?_, ?_⟩⟩
  · intro Cc W2 s' m' v' d i E' hd g ow' cx hn' hm' hv'
    exact wpAny_tests_nil ⟨Go.refl _ _, rfl⟩
  · intro Cc W2 s' m' v' d i E' hd _ g ow' cx hn' hm' hv'
    rw [List.getElem?_map] at hd
    obtain ⟨row, hrow', rfl⟩ := Option.map_eq_some_iff.mp hd
    refine wpAny_BinOp (nm_local hn' (by rfl) (by rw [henv]; rfl) hm' ?_)
    refine list1 (Fr := env.locals :: Fr) (W := W2) rfl (nm_cell (by rfl) (by rw [henv]; rfl) (c := fc) (by rfl) (g.isCell hcv) ⟨.int k, cx.lv, Rd.int k t, fun l s'' g'' hl _ rl => ?_⟩)
    have cx'' := cx.go g''
    refine op_add (Fr := env.locals :: Fr) cx''.lv (hv'.mono (g''.see cx.sub)) rl.rd ?_ fun l2 s3 g3 _ rl3 => ⟨g''.trans g3, by simpa using rl3.rd⟩
    have := hrow row (List.mem_of_getElem? hrow')
    simp; omega
  · intro D s' g hD rl
    have e1 : (((r0 :: rows).map IL).filter fun _ => true).map (fun d => match d with | .list xs => .list (xs ++ [.int k]) | d => d) = ((r0 :: rows).map (· ++ [k])).map IL := by
      rw [List.filter_eq_self.mpr (fun _ _ => rfl), List.map_map, List.map_map]
      refine List.map_congr_left fun x _ => ?_
      simp [IL]
    rw [e1] at rl
    have C2 := C1.go g
    refine op_add (Fr := env.locals :: Fr) C2.lv (r1.mono (g.see C1.sub)) rl.rd (by simp at hlen ⊢; omega) fun l s'' g'' _ rl'' => ?_
    have C3 := C2.go g''
    refine wpAny_Constant_bool ⟨C3.gr, ?_⟩
    rw [← List.map_append] at rl''
    refine (dedupL C3 hh (by show A.depth + 1 + 1 < recursionLimit; omega) (by show A.units + 3 + 100 < cLine; omega) rl''.rd ?_ ?_ ?_).use fun u s4 g4 hr => ?_
    · exact lay_ILs ((r0 :: rows) ++ (r0 :: rows).map (· ++ [k]))
    · exact Nat.le_trans (depth_ILs ((r0 :: rows) ++ (r0 :: rows).map (· ++ [k]))) (by omega)
    · simp at hlen ⊢; omega
    · have gg : Go (env.locals :: Fr) s₁ s4 := (g.trans g'').trans g4
      refine ⟨go₁.step gg ((Own.refl Fr _).cons hL), ?_⟩
      have e2 : dd (((r0 :: rows) ++ (r0 :: rows).map (· ++ [k])).map IL) = (more (r0 :: rows) k).map IL := dd_map IL eqv_IL _
      rw [← e2]
      exact hr.mono (V_sub fun a m => .tail _ m)
end Mine
end

section
open PySem PySem.W PyProof.Rows PySem.Calls
namespace Mine
variable {prog : Program} {w : World} {A : Around} {E : Value → Shared → Prop} {s : Shared}
theorem binds_peek {K : Frag} {s : Shared} {fd : FuncData} {args : Args} {binds : List (Str × Value)} (X : K.In s.heap) (e : ∀ S, peek K S (bindArgs fd args) = some binds) : BindsTo s fd args binds :=
  fun M A E Q hq => (Looks.of_peek (M := M) X (e _)).here hq
theorem reduceC {σ : Type} {Fr W : List Addr} {fv sv v : Value} {ds : List PyData} (Inv : Heap → Value → σ → Prop) (hmono : ∀ h h' v x, Ext h h' → Inv h v x → Inv h' v x) (Ok : Nat → σ → Prop) (step : σ → PyData → σ) {x₀ : σ}
    (C : Cx (K1 w.params) A Fr W s) (hh : A.handled = none) (hroom : A.depth + 10 < recursionLimit) (hu : A.units + 400 < cLine) (hlen : ds.length ≤ 100000)
    (hv : ∃ a o, v = .ref a ∧ s.heap.get? a = some o ∧ a ≠ 37 ∧ o.cls ≠ .type "tuple") (hi : Inv (V W s.heap) v x₀) (hok : Ok 0 x₀)
    (src : ∀ A' Fr' W' s' E' Q', A'.handled = none → Cx (K1 w.params) A' Fr' W' s' → Go Fr s s' → Own W W' s.heap → (∀ I s₂, Src prog w A' Fr' W' s' s₂ I ds → Q' (.ref I) s₂) → wpAny (model prog w) A' (pyIter sv) Q' E' s')
    (fn : ∀ A' Fr' W' s' u x i d k, A'.handled = none → A'.depth = A.depth + 1 → A'.units = A.units + 3 → Cx (K1 w.params) A' Fr' W' s' → Go Fr s s' → Own W W' s.heap → Own Fr Fr' s.heap → Inv (V W' s'.heap) u x → Ok i x → ds[i]? = some d → Rd (V W' s'.heap) k d →
      Ev (model prog w) A' Fr' (call fv [u, k]) s' (fun u' s'' => Inv (V W' s''.heap) u' (step x d) ∧ Ok (i + 1) (step x d)))
    (hfv : ∃ f o fd, fv = .ref f ∧ (V W s.heap).get? f = some o ∧ o.data = .func fd) :
    Ev (model prog w) A Fr (call (.ref 45) [fv, sv, v]) s (fun u s' => Inv (V W s'.heap) u (ds.foldl step x₀)) := by
  refine call_enter (K := K1 w.params) (binds := [("function", fv), ("sequence", sv), ("initial", v)]) C.gr (by omega) (by rfl) (by rfl) (by rfl) (by rfl) (binds_peek C.gr.X fun S => by rfl) (by decide) (locs rfl) ?_
  intro env s₁ henv sm₁ ex₁ hn hL
  have hk : env.scope.kind = .function := by rw [henv]; rfl
  have hg : env.globals = mainGlobals := by rw [henv]; rfl
  have hb : env.builtins = builtinsNs := by rw [henv]; rfl
  have hf : env.frame = some env.locals := by rw [henv]; rfl
  have go₁ : Go Fr s s₁ := .of sm₁ ex₁
  obtain ⟨oL, esL, epL, hoL, _⟩ := id hn
  have ow : Own W (env.locals :: W) s.heap := (Own.refl W _).cons hL
  have C1 : Cx (K1 w.params) (A.deeper env) (env.locals :: Fr) (env.locals :: W) s₁ := C.inn go₁ ow (Live.cons hoL (go₁.live C.lv)) hk hf (.head _) hn
  -- it = iter(sequence)
  refine wpAny_execs_cons (wpAny_Assign_Name (callB1 (fun h' => nm_builtin C1.gr hg hb hk (by rw [henv]; rfl) (by rfl) boot_iter (by decide) h') rfl (nm_local hn hk (by rw [henv]; rfl) (by rfl) (bi_iter ?_))))
  refine src (A.deeper env).in1 _ _ s₁ _ _ hh ⟨C1.G, C1.lv, C1.sub, C1.fm, C1.hd⟩ go₁ ow fun I s₂ hS => ?_
  obtain ⟨sm₂, ex₂, hI, fp, P, St, Wk0, hst, hfp, hIF, hIl, hP⟩ := hS
  have Wk := Wk0.of_in1
  have go₂ : Go Fr s s₂ := go₁.trans (.of sm₂ ex₂)
  have hIs : s.heap.get? I = none := ex₁.fresh hI
  obtain ⟨oI, hoI⟩ := hIl _ _ hst
  refine st_local (hn.keeps ex₂) hk (by rw [henv]; rfl) fun s₃ sm₃ hn₃ hs₃ => ?_
  have hLI : env.locals ≠ I := by rintro rfl; rw [hI] at hoL; cases hoL
  have hLf : env.locals ∉ fp := fun m => (hfp _ m).1.1 (.head _)
  have go₃ : Go Fr s s₃ := go₂.but sm₃ hs₃.extBut hL
  have st₃ : St 0 s₃.heap := Wk.frame _ _ _ hst fun b hb' o q => hs₃.extBut b o (fun z => hLf (z ▸ hb')) q
  dsimp only
  have G3 : Gr (K1 w.params) s₃.heap := C.G.mono ((go₃.see C.sub).trans V_le)
  -- if initial is _initial_missing
  obtain ⟨a, oa, rfl, hoa, ha37, hat⟩ := hv
  obtain ⟨sl3, hoa3⟩ := go₃.kept hoa
  refine wpAny_execs_cons (wpAny_If (wpAny_isTrue_Compare1 (nm_local hn₃ hk (by rw [henv]; rfl) (v := .ref a) (by rfl) (nm_global G3 hg hk (by rw [henv]; rfl) (by rfl) ?_))))
  refine wpAny_is_ref_other ha37 hoa3 (G3.X 37 _ (by rfl)) hat (wpAny_truthy_bool ?_)
  refine wpAny_execs_cons (wpAny_Assign_Name (nm_local hn₃ hk (by rw [henv]; rfl) (v := .ref a) (by rfl) (st_local hn₃ hk (by rw [henv]; rfl) fun s₄ sm₄ hn₄ hs₄ => ?_)))
  dsimp only
  refine wpAny_execs_nil ?_
  have go₄ : Go Fr s s₄ := go₃.but sm₄ hs₄.extBut hL
  have st₄ : St 0 s₄.heap := Wk.frame _ _ _ st₃ fun b hb' o q => hs₄.extBut b o (fun z => hLf (z ▸ hb')) q
  have hown : Own W (I :: env.locals :: W) s.heap := ow.cons hIs
  have hownF : Own Fr (env.locals :: Fr) s.heap := (Own.refl Fr _).cons hL
  have e14 : Ext (V (env.locals :: W) s₁.heap) (V (I :: env.locals :: W) s₄.heap) := fun b o q => by
    have q0 := V_le _ _ q
    have hbW := V_not q
    refine V_in (hs₄.extBut b o (fun z => hbW (by simp [z])) (hs₃.extBut b o (fun z => hbW (by simp [z])) (ex₂ b o q0))) fun z => ?_
    rcases List.mem_cons.mp z with rfl | z
    · rw [hI] at q0; cases q0
    · exact hbW z
  -- the loop
  refine wpAny_execs_cons (wpAny_For (nm_local hn₄ hk (by rw [henv]; rfl) (v := .ref I) (by rfl) (Wk.self 0 _ _ _ st₄ ?_)))
  refine for_walk Wk (fun i m s' => Go Fr s s' ∧ Ext (V (env.locals :: W) s₁.heap) (V (I :: env.locals :: W) s'.heap) ∧ St i s'.heap ∧ s'.heap.Ns env.locals m ∧ m "function" = some fv ∧ ∃ u, m "value" = some u ∧ Inv (V (I :: env.locals :: W) s'.heap) u ((ds.take i).foldl step x₀) ∧ Ok i ((ds.take i).foldl step x₀)) hk (by rw [henv]; rfl) hLI hLf ?_ ?_ ?_ (m₀ := _)
    ⟨go₄, e14, st₄, hn₄, by rfl, .ref a, by rfl, hmono _ _ _ _ (go₄.see' C.sub hown) hi, hok⟩
  · rintro i m s' ⟨_, _, h2, h3, _⟩; exact ⟨h2, h3⟩
  · rintro i k m s' s'' ⟨h1, h1', h2, h3, h4, u, h5, h6, h7⟩ hlt hPk sm st'' hn'' hkeep
    obtain ⟨d, hd, hkd⟩ := hP i k hPk
    have go : Go Fr s s'' := h1.but2 sm hkeep hIs hL
    obtain ⟨oL', esL', epL', hoL', _⟩ := id hn''
    obtain ⟨oI', hoI'⟩ := hIl _ _ st''
    have CX : Cx (K1 w.params) (A.deeper env) (env.locals :: Fr) (I :: env.locals :: W) s'' := C.inn go hown (Live.cons hoI' (Live.cons hoL' (go.live C.lv))) hk hf (by simp) hn''
    have eV : Ext (V (I :: env.locals :: W) s'.heap) (V (I :: env.locals :: W) s''.heap) := V_ext fun b o hb' q => hkeep b o (fun z => hb' (by simp [z])) (fun z => hb' (by simp [z])) q
    have hkd'' : Rd (V (I :: env.locals :: W) s''.heap) k d := hkd.mono (h1'.trans eV)
    obtain ⟨f, of, fdd, rfl, hfo, hfd⟩ := hfv
    have hfo'' : s''.heap.get? f = some of := V_le _ _ ((go.see C.sub) _ _ hfo)
    refine wpAny_execs_cons (wpAny_Assign_Name (wpAny_Call_ofName (nm_local hn'' hk (by rw [henv]; rfl) (v := .ref f) h4 ?_)))
    refine callWith_function (o := of) (fd := fdd) (evalArgs_plain (spliced_cons (nm_local hn'' hk (by rw [henv]; rfl) (v := u) h5 (spliced_cons (nm_local hn'' hk (by rw [henv]; rfl) (v := k) (by rfl) (spliced_nil ⟨⟨hfo'', hfd⟩, ?_⟩))))))
    refine (fn (A.deeper env) _ _ s'' u _ i d k hh rfl rfl CX go hown hownF (hmono _ _ _ _ eV h6) h7 hd hkd'').use fun u' s₅ g₅ q => ?_
    have hn5 := g₅.ns hn''
    refine st_local hn5 hk (by rw [henv]; rfl) fun s₆ sm₆ hn₆ hs₆ => ?_
    refine wpAny_execs_nil ⟨_, (go.step g₅ hownF).but sm₆ hs₆.extBut hL, ((h1'.trans eV).trans (g₅.see CX.sub)).trans (V_same hs₆ (by simp)), ?_, hn₆, h4, u', by rfl, ?_, ?_⟩
    · exact Wk.frame _ _ _ st'' fun b hb' o q => hs₆.extBut b o (fun z => hLf (z ▸ hb')) (g₅.ext b o (hfp b hb').1.1 q)
    · rw [List.take_add_one, hd, List.foldl_append]
      exact hmono _ _ _ _ (V_same hs₆ (by simp)) q.1
    · rw [List.take_add_one, hd, List.foldl_append]; exact q.2
  · rintro m s' s'' ⟨h1, h1', h2, h3, h4, u, h5, h6, h7⟩ sm he
    refine wpAny_execs_cons (wpAny_Return_some (nm_local (ns_but h3 he hLI) hk (by rw [henv]; rfl) h5 ?_))
    rw [List.take_length] at h6
    exact ⟨h1.but sm he hIs, hmono _ _ _ _ ((V_extBut he (by simp)).trans (V_sub fun a m => by simp [m])) h6⟩
end Mine
end

section
open PySem PySem.W PyProof.Rows PySem.Calls
namespace Mine
def rm1 (t : List PyData) (x : PyData) : Option (List PyData) := (t.findIdx? fun y => PyData.eqv y x).map fun j => t.eraseIdx j
def rmAll (xs t : List PyData) : Option (List PyData) := xs.foldlM rm1 t
def cmpD (xs ys : List PyData) : Bool := match rmAll (dd xs) (dd ys) with | some r => r.isEmpty | none => false
theorem rmAll_take {xs t : List PyData} {i : Nat} {x : PyData} (h : xs[i]? = some x) : rmAll (xs.take (i + 1)) t = (rmAll (xs.take i) t).bind fun u => rm1 u x := by
  unfold rmAll
  rw [List.take_add_one, h, List.foldlM_append]
  simp
theorem rmAll_none {xs t : List PyData} {i : Nat} (h : rmAll (xs.take i) t = none) : rmAll xs t = none := by
  have : xs = xs.take i ++ xs.drop i := (List.take_append_drop i xs).symm
  rw [this]
  unfold rmAll at *
  rw [List.foldlM_append, h]; rfl
theorem rmAll_len : ∀ (l t u : List PyData), rmAll l t = some u → u.length ≤ t.length := by
  intro l
  induction l with
  | nil => intro t u h; cases h; exact Nat.le_refl _
  | cons x l ih =>
    intro t u h
    unfold rmAll at h
    rw [List.foldlM_cons] at h
    cases q : rm1 t x with
    | none => rw [q] at h; cases h
    | some t' =>
      rw [q] at h
      have := ih t' u h
      unfold rm1 at q
      obtain ⟨j, _, rfl⟩ := Option.map_eq_some_iff.mp q
      have := List.length_eraseIdx_le t j
      omega
theorem rmAll_sub {xs t u : List PyData} (h : rmAll xs t = some u) : ∀ y ∈ u, y ∈ t := by
  induction xs generalizing t with
  | nil => cases h; exact fun _ m => m
  | cons x xs ih =>
    unfold rmAll at h
    rw [List.foldlM_cons] at h
    cases q : rm1 t x with
    | none => rw [q] at h; cases h
    | some t' =>
      rw [q] at h
      intro y hy
      have := ih h y hy
      unfold rm1 at q
      obtain ⟨j, _, rfl⟩ := Option.map_eq_some_iff.mp q
      exact List.mem_of_mem_eraseIdx this

variable {prog : Program} {w : World} {A : Around} {E : Value → Shared → Prop} {s : Shared}
theorem compareC {Fr W : List Addr} {v u : Value} {xs ys : List PyData} (C : Cx (K1 w.params) A Fr W s) (hh : A.handled = none) (hroom : A.depth + 2 < recursionLimit) (hu : A.units + 200 < cLine)
    (r : Rd (V W s.heap) v (.list xs)) (r' : Rd (V W s.heap) u (.list ys)) (hx : PyData.canLayAll0 xs = true) (hy : PyData.canLayAll0 ys = true) (hdx : PyData.depthAll xs ≤ 8) (hdy : PyData.depthAll ys ≤ 8) (hlx : xs.length ≤ 100000) (hly : ys.length ≤ 100000) :
    Ev (model prog w) A Fr (call (.ref 36) [v, u]) s (fun b s' => b = .bool (cmpD xs ys)) := by
  refine call_enter (K := K1 w.params) (binds := [("first_args", v), ("second_args", u)]) C.gr (by omega) (by rfl) (by rfl) (by rfl) (by rfl) (BindsTo.of_eq rfl) (by decide) (locs rfl) ?_
  intro env s₁ henv sm₁ ex₁ hn hL
  have hk : env.scope.kind = .function := by rw [henv]; rfl
  have hg : env.globals = mainGlobals := by rw [henv]; rfl
  have hb : env.builtins = builtinsNs := by rw [henv]; rfl
  have hf : env.frame = some env.locals := by rw [henv]; rfl
  have go₁ : Go Fr s s₁ := .of sm₁ ex₁
  have ow : Own W (env.locals :: W) s.heap := (Own.refl W _).cons hL
  have owF : Own Fr (env.locals :: Fr) s.heap := (Own.refl Fr _).cons hL
  have cx : ∀ {s' : Shared} {m : Str → Option Value}, Go Fr s s' → s'.heap.Ns env.locals m → Cx (K1 w.params) (A.deeper env) (env.locals :: Fr) (env.locals :: W) s' := fun g n => by
    obtain ⟨oL, esL, epL, hoL, z⟩ := n
    exact C.inn g ow (Live.cons hoL (g.live C.lv)) hk hf (.head _) ⟨oL, esL, epL, hoL, z⟩
  have C1 := cx go₁ hn
  -- first_unhashable
  refine wpAny_execs_cons (wpAny_Assign_Name (callDef1 (K := K1 w.params) (f := 29) (by rfl) (by rfl) (fun h' => nm_global C1.gr hg hk (by rw [henv]; rfl) (by rfl) h') rfl (nm_local hn hk (by rw [henv]; rfl) (by rfl) ⟨C1.gr, ?_⟩)))
  refine (dedupU C1 (by show A.depth + 1 < recursionLimit; omega) (by show A.units + 3 + 64 < cLine; omega) (r.mono (go₁.see' C.sub ow)) hx hdx hlx).use fun a s₂ g₂ ra => ?_
  refine st_local (g₂.ns hn) hk (by rw [henv]; rfl) fun s₃ sm₃ hn₃ hs₃ => ?_
  have go₃ : Go Fr s s₃ := (go₁.step g₂ owF).but sm₃ hs₃.extBut hL
  have ra₃ : Rd (V (env.locals :: W) s₃.heap) a (.list (dd xs)) := ra.mono (V_same hs₃ (by simp))
  dsimp only
  have C3 := cx go₃ hn₃
  -- second_unhashable
  refine wpAny_execs_cons (wpAny_Assign_Name (callDef1 (K := K1 w.params) (f := 29) (by rfl) (by rfl) (fun h' => nm_global C3.gr hg hk (by rw [henv]; rfl) (by rfl) h') rfl (nm_local hn₃ hk (by rw [henv]; rfl) (by rfl) ⟨C3.gr, ?_⟩)))
  refine (dedupU C3 (by show A.depth + 1 < recursionLimit; omega) (by show A.units + 3 + 64 < cLine; omega) (r'.mono (go₃.see' C.sub ow)) hy hdy hly).use fun b s₄ g₄ rb => ?_
  refine st_local (g₄.ns hn₃) hk (by rw [henv]; rfl) fun s₅ sm₅ hn₅ hs₅ => ?_
  have go₅ : Go Fr s s₅ := (go₃.step g₄ owF).but sm₅ hs₅.extBut hL
  have ra₅ : Rd (V (env.locals :: W) s₅.heap) a (.list (dd xs)) := ra₃.mono ((g₄.see C3.sub).trans (V_same hs₅ (by simp)))
  have rb₅ : Rd (V (env.locals :: W) s₅.heap) b (.list (dd ys)) := rb.mono (V_same hs₅ (by simp))
  dsimp only
  have C5 := cx go₅ hn₅
  -- t = list(second_unhashable)
  obtain ⟨lb, wb, rfl, hlb, rwb⟩ := rb₅.list_inv
  obtain ⟨ob, hob, hcb, nb, hdb⟩ := IsList.ext V_le hlb
  have hddy := dd_len ys
  refine wpAny_execs_cons (wpAny_Assign_Name (callT1 (fun h' => nm_builtin C5.gr hg hb hk (by rw [henv]; rfl) (by rfl) boot_list (by decide) h') rfl (nm_local hn₅ hk (by rw [henv]; rfl) (v := .ref lb) (by rfl) ?_)))
  refine call_list_seq (hsz := by have := rwb.length; rw [sizeLine_eq]; simp; omega) lb (.inl rfl) hob hcb hdb fun h₆ c₆ hk₆ hD₆ => ?_
  have hT5 : s₅.heap.get? s₅.heap.objs.size = none := push_none _
  generalize s₅.heap.objs.size = T at hT5 hD₆ ⊢
  have hPT₆ : h₆.PlainList T wb.toArray := ⟨_, hD₆⟩
  have go₆ : Go Fr s { s₅ with heap := h₆ } := go₅.trans (.of (Sm.heap _ _) hk₆)
  have hTs := go₅.fresh hT5
  refine st_local (hn₅.keeps hk₆) hk (by rw [henv]; rfl) fun s₇ sm₇ hn₇ hs₇ => ?_
  have hTL : T ≠ env.locals := list_ne_ns hPT₆.isList (hn₅.keeps hk₆)
  have hPT₇ : s₇.heap.PlainList T wb.toArray := hPT₆.extBut hs₇.extBut hTL
  have go₇ : Go Fr s s₇ := go₆.but sm₇ hs₇.extBut hL
  have owT : Own W (T :: env.locals :: W) s.heap := ow.cons hTs
  -- what stood in s₅ and is seen there
  have e57 : Ext (V (env.locals :: W) s₅.heap) (V (T :: env.locals :: W) s₇.heap) := fun b o q => by
    have q0 := V_le _ _ q
    have hbW := V_not q
    refine V_in (hs₇.extBut b o (fun z => hbW (by simp [z])) (hk₆ b o q0)) fun z => ?_
    rcases List.mem_cons.mp z with rfl | z
    · rw [hT5] at q0; cases q0
    · exact hbW z
  dsimp only
  obtain ⟨la, wa, rfl, hla, rwa⟩ := ra₅.list_inv
  have hla₇ : s₇.heap.IsList la wa.toArray := IsList.ext (e57.trans V_le) hla
  have hlaT : la ≠ T := by rintro rfl; obtain ⟨o, q, _⟩ := IsList.ext V_le hla; rw [hT5] at q; cases q
  have hlaL : la ≠ env.locals := by rintro rfl; obtain ⟨o, q, _⟩ := hla; exact V_not q (.head _)
  have hxm : ∀ y ∈ dd xs, y ∈ xs := mem_dd (· ∈ xs) fun _ m => m
  have hym : ∀ y ∈ dd ys, y ∈ ys := mem_dd (· ∈ ys) fun _ m => m
  -- try: for elem in first_unhashable
  refine wpAny_execs_cons (wpAny_Try_except (wpAny_execs_cons (wpAny_For (nm_local hn₇ hk (by rw [henv]; rfl) (v := .ref la) (by rfl) ?_))))
  refine iter_list hla₇ fun I s₈ sm₈ ex₈ hI hit => ?_
  have hIs := go₇.fresh hI
  have go₈ : Go Fr s s₈ := go₇.trans (.of sm₈ ex₈)
  have e58 : Ext (V (env.locals :: W) s₅.heap) (V (I :: T :: env.locals :: W) s₈.heap) := fun b o q => by
    have q7 := e57 b o q
    refine V_in (ex₈ b o (V_le _ _ q7)) fun z => ?_
    rcases List.mem_cons.mp z with rfl | z
    · rw [V_le _ _ q7] at hI; cases hI
    · exact V_not q7 z
  have hu' : (A.deeper env).units = A.units + 3 := rfl
  refine for_list (vs := wa) (l := la) (fun i m s' => Go Fr s s' ∧ Ext (V (env.locals :: W) s₅.heap) (V (I :: T :: env.locals :: W) s'.heap) ∧ s'.heap.IsListIter I la i ∧ s'.heap.Ns env.locals m ∧ m "t" = some (.ref T) ∧
      ∃ ws ts, s'.heap.PlainList T ws.toArray ∧ RdAll (V (env.locals :: W) s₅.heap) ws ts ∧ rmAll ((dd xs).take i) (dd ys) = some ts) hk (by rw [henv]; rfl) ?_ ?_ ?_ (m₀ := _)
      ⟨go₈, e58, hit, hn₇.keeps ex₈, by rfl, wb, dd ys, PlainList.ext ex₈ hPT₇, rwb, by simp [rmAll]⟩
  · rintro i m s' ⟨h1, h2, h3, h4, _⟩
    exact ⟨h3, IsList.ext (h2.trans V_le) hla, .inl hh, h4⟩
  · rintro i x m s' s'' ⟨h1, h2, h3, h4, h5, ws, ts, h6, h7, h8⟩ hv sm hit'' hn'' hkeep
    have go : Go Fr s s'' := h1.but2 sm hkeep hIs hL
    have hTI : T ≠ I := Ne.symm (iter_ne_list h3 h6.isList)
    have hPT : s''.heap.PlainList T ws.toArray := h6.at fun o e => hkeep T o hTI hTL e
    have eV : Ext (V (I :: T :: env.locals :: W) s'.heap) (V (I :: T :: env.locals :: W) s''.heap) := V_ext fun b o hb' q => hkeep b o (fun z => hb' (by simp [z])) (fun z => hb' (by simp [z])) q
    have e5 : Ext (V (env.locals :: W) s₅.heap) s''.heap := (h2.trans eV).trans V_le
    obtain ⟨d, hd, hxd⟩ := rwa.get hv
    have hdm := hxm d (List.mem_of_getElem? hd)
    have htsm : ∀ y ∈ ts, y ∈ ys := fun y hy => hym y (rmAll_sub h8 y hy)
    have htl : ts.length ≤ 100000 := by
      have := rmAll_len _ _ _ h8
      omega
    have hstep := rmAll_take (t := dd ys) hd
    rw [h8] at hstep
    refine wpAny_execs_cons (wpAny_Expr (meth1 F.plainAttrs_list F.slot_list_remove (by exact F.type_list_remove) rfl rfl rfl (nm_local hn'' hk (by rw [henv]; rfl) (v := .ref T) h5 ⟨hPT.isList.typeIs, ?_, ?_⟩)) (hi := by unfold interactive; rw [hk]; rfl))
    · intro b' q; cases q; obtain ⟨n, q⟩ := hPT; exact ⟨_, q, rfl⟩
    refine nm_local hn'' hk (by rw [henv]; rfl) (v := x) (by rfl) ?_
    refine op_remove hPT (h7.mono e5) (hxd.mono e5) (lay_iff.mpr fun y hy' => lay_iff.mp hy y (htsm y hy')) (lay_iff.mp hx d hdm) (dep_le.mp hdx d hdm) (by rw [hu']; omega) htl hh ?_ ?_
    · intro j s₉ hj sm₉ hP₉ hs₉
      refine wpAny_execs_nil ⟨_, go.but sm₉ hs₉.extBut hTs, (h2.trans eV).trans (V_same hs₉ (by simp)), hit''.extBut hs₉.extBut (Ne.symm hTI), hn''.sameBut hs₉ (Ne.symm hTL), h5, ws.eraseIdx j, ts.eraseIdx j, hP₉, h7.eraseIdx j, ?_⟩
      rw [hstep]
      simp only [Option.bind_some, rm1, hj, Option.map_some]
    · intro e s₉ hno sm₉ ne
      -- ValueError
      have go₉ : Go Fr s s₉ := go.trans (.of sm₉ ne.keeps)
      have hes := go.fresh ne.new
      obtain ⟨oe, te, g1, g2, g3⟩ := ne.there
      have hn₉ := hn''.keeps ne.keeps
      have C9 := cx go₉ hn₉
      obtain ⟨fs, hfs, hFF, hfr⟩ := C9.fm.frames
      obtain ⟨fs0, hfs0, _⟩ := C.fm
      have : fs = env :: fs0 := by
        have := Around.frames_deeper (env := env) hfs0
        rw [hfs] at this; exact Option.some.inj this
      subst this
      unfold notedBy
      refine land_loop hfs hFF hf g1 g2 g3 fun s₁₀ tb sm₁₀ htbn mk ht => ?_
      have go₁₀ : Go Fr s s₁₀ := go₉.mk' sm₁₀ mk (fun a ha => by
        rcases List.mem_cons.mp (hfr a ha) with rfl | z
        · exact .inr hL
        · exact .inl z) hes
      have hn₁₀ := mk.ns hn₉ (exc_ne_ns g1 g3 hn₉)
      refine wpAny_handleBy_builtin exc_ValueError nt_ValueError sub_ValueError (nm_builtin (C.G.mono ((go₁₀.see C.sub).trans V_le)) hg hb hk (by rw [henv]; rfl) (by rfl) boot_ValueError (by decide) ⟨rfl, ht.typeIs, ?_⟩)
      simp only [if_true]
      refine flight ht fun s₁₁ sm₁₁ hs₁₁ ht₁₁ => ?_
      refine wpAny_execs_cons (wpAny_Return_some (wpAny_Constant_bool ?_))
      refine ⟨go₁₀.but sm₁₁ hs₁₁.extBut (go₉.fresh htbn), ?_⟩
      have hnone : rmAll (dd xs) (dd ys) = none := by
        refine rmAll_none (i := i + 1) ?_
        rw [hstep]
        simp only [Option.bind_some, rm1]
        rw [List.findIdx?_eq_none_iff.mpr (fun y hy' => by simpa using List.any_eq_false.mp hno y hy')]
        rfl
      show _ = Value.bool (cmpD xs ys)
      unfold cmpD
      rw [hnone]
  · rintro m s' s'' ⟨h1, h2, h3, h4, h5, ws, ts, h6, h7, h8⟩ sm he
    have hTI : T ≠ I := Ne.symm (iter_ne_list h3 h6.isList)
    have hP'' : s''.heap.PlainList T ws.toArray := h6.extBut he hTI
    have hn'' := ns_but h4 he (Ne.symm (iter_ne_ns h3 h4))
    refine wpAny_execs_nil (wpAny_execs_nil ?_)
    rw [rwa.length, List.take_length] at h8
    refine wpAny_execs_cons (wpAny_Return_some (wpAny_UnaryOp (nm_local hn'' hk (by rw [henv]; rfl) (v := .ref T) h5 (not_value ?_))))
    have hz : ws.length ≤ 100000 := by
      have q1 := h7.length
      have q2 := rmAll_len _ _ _ h8
      omega
    refine wpAny_truthy_list hP''.isList (by simp; omega) ⟨(h1.but sm he hIs).trans (.of (Sm.toks _ _) (Ext.refl _)), ?_⟩
    unfold cmpD
    rw [h8]
    have : ws.isEmpty = ts.isEmpty := by
      have q1 := h7.length
      cases ws <;> cases ts <;> simp_all
    simp [this]
end Mine
end

section
open PySem PySem.W PyProof.Rows PySem.Calls
namespace Mine
variable {prog : Program} {w : World} {A : Around} {E : Value → Shared → Prop} {s : Shared}
theorem dedupR {Fr W : List Addr} {v : Value} {xs : List PyData} {x : List PyData} {Q : Value → Shared → Prop} (C : Cx (K1 w.params) A Fr W s) (hh : A.handled = none) (hroom : A.depth + 1 < recursionLimit) (hu : A.units + 100 < cLine)
    (r : Rd (V W s.heap) v (.list (.list x :: xs)))
    (hE : ∀ e s' t tb, Go Fr s s' → s.heap.get? e = none → s.heap.get? tb = none → Tb s'.heap e (.type "TypeError") t tb .none → E (.ref e) s') :
    wpAny (model prog w) A (call (.ref 22) [v]) Q E s := by
  refine call_enterE (K := K1 w.params) (binds := [("params", v), ("unhashable_fallback", .bool false)]) C.gr (by omega) (by rfl) (by rfl) (by rfl) (by rfl) (binds_peek C.gr.X fun S => by rfl) (by decide) (locs rfl) ?_
  intro env s₁ henv sm₁ ex₁ hn hL
  have hk : env.scope.kind = .function := by rw [henv]; rfl
  have hg : env.globals = mainGlobals := by rw [henv]; rfl
  have hb : env.builtins = builtinsNs := by rw [henv]; rfl
  have hf : env.frame = some env.locals := by rw [henv]; rfl
  obtain ⟨l, vs, rfl, hl, rs⟩ := r.list_inv
  have go₁ : Go Fr s s₁ := .of sm₁ ex₁
  obtain ⟨a, its, h0, ha⟩ : ∃ a its, vs[0]? = some (.ref a) ∧ (V W s.heap).IsList a its := by
    cases vs with
    | nil => have := rs.length; simp at this
    | cons v vs =>
      obtain ⟨a, ws, rfl, q, _⟩ := rs.cons_inv.1.list_inv
      exact ⟨a, _, rfl, q⟩
  refine wpAny_execs_cons (wpAny_Try_except (wpAny_execs_cons (wpAny_Return_some ?_)))
  refine fk_raises (C.gr.mono ex₁) hk hg hb (by rw [henv]; rfl) (by rw [henv]; rfl) rfl hn (by rfl) (IsList.ext (V_le.trans ex₁) hl) h0 (IsList.ext (V_le.trans ex₁) ha) hh (by show A.units + 3 + 10 < cLine; omega) fun e it s₂ sm₂ he₂ hit hen hex => ?_
  refine dedup_handler C go₁ hL hk hg hb hf (by rw [henv]; rfl) hn sm₂ he₂ hit hen hex fun s₃ t tb go₃ hn₃ ht₃ he0 htb0 => ?_
  refine wpAny_execs_cons (wpAny_If (wpAny_isTrue_Not (wpAny_isTrue_value (nm_local hn₃ hk (by rw [henv]; rfl) (v := .bool false) (by rfl) (wpAny_truthy_bool (wpAny_execs_cons ?_))))))
  refine reraise (A' := (A.deeper env).mark (some (.ref e))) rfl hf ht₃ fun s₄ sm₄ hs₄ ht₄ => ?_
  unfold notedBy
  refine note_again hf ht₄ ?_
  unfold cameBackBy
  have ht0 := ht₄
  obtain ⟨ob, ot, ts, h1, h2, h3, _⟩ := ht0
  refine wpAny_bind (wpAny_field h1 h3 (x := .ref tb) (by rfl) ?_)
  refine KFB.if_not (by simp) ?_
  rw [hf]
  refine flight ht₄ fun s₅ sm₅ hs₅ ht₅ => ?_
  unfold leaving
  refine wpAny_bind (note_again hf ht₅ ?_)
  refine flight ht₅ fun s₆ sm₆ hs₆ ht₆ => ?_
  exact hE e s₆ t tb (((go₃.but sm₄ hs₄.extBut htb0).but sm₅ hs₅.extBut htb0).but sm₆ hs₆.extBut htb0) he0 htb0 ht₆

theorem lawRefused {Fr W : List Addr} {v : Value} {xs : List PyData} {x : List PyData} (C : Cx (K1 w.params) A Fr W s) (hh : A.handled = none) (hroom : A.depth + 2 < recursionLimit) (hu : A.units + 200 < cLine)
    (r : Rd (V W s.heap) v (.list (.list x :: xs))) : Ev (model prog w) A Fr (call (.ref 62) [v]) s (fun b s' => b = .bool true) := by
  refine call_enter (K := K1 w.params) (binds := [("rows", v)]) C.gr (by omega) (by rfl) (by rfl) (by rfl) (by rfl) (BindsTo.of_eq rfl) (by decide) (locs rfl) ?_
  intro env s₁ henv sm₁ ex₁ hn hL
  have hk : env.scope.kind = .function := by rw [henv]; rfl
  have hg : env.globals = mainGlobals := by rw [henv]; rfl
  have hb : env.builtins = builtinsNs := by rw [henv]; rfl
  have hf : env.frame = some env.locals := by rw [henv]; rfl
  have go₁ : Go Fr s s₁ := .of sm₁ ex₁
  have ow : Own W (env.locals :: W) s.heap := (Own.refl W _).cons hL
  have owF : Own Fr (env.locals :: Fr) s.heap := (Own.refl Fr _).cons hL
  have cx : ∀ {s' : Shared} {m : Str → Option Value}, Go Fr s s' → s'.heap.Ns env.locals m → Cx (K1 w.params) (A.deeper env) (env.locals :: Fr) (env.locals :: W) s' := fun g n => by
    obtain ⟨oL, esL, epL, hoL, z⟩ := n
    exact C.inn g ow (Live.cons hoL (g.live C.lv)) hk hf (.head _) ⟨oL, esL, epL, hoL, z⟩
  have C1 := cx go₁ hn
  refine wpAny_execs_cons (wpAny_Try_except (wpAny_execs_cons (wpAny_Expr (callDef1 (K := K1 w.params) (f := 22) (by rfl) (by rfl) (fun h' => nm_global C1.gr hg hk (by rw [henv]; rfl) (by rfl) h') rfl (nm_local hn hk (by rw [henv]; rfl) (by rfl) ⟨C1.gr, ?_⟩)) (hi := by unfold interactive; rw [hk]; rfl))))
  refine dedupR C1 hh (by show A.depth + 1 + 1 < recursionLimit; omega) (by show A.units + 3 + 100 < cLine; omega) (r.mono (go₁.see' C.sub ow)) fun e s₂ t tb g₂ hen htbn ht => ?_
  have go₂ : Go Fr s s₂ := go₁.step g₂ owF
  have hn₂ := g₂.ns hn
  have C2 := cx go₂ hn₂
  obtain ⟨fs, hfs, hFF, hfr⟩ := C2.fm.frames
  obtain ⟨fs0, hfs0, _⟩ := C.fm
  have : fs = env :: fs0 := by
    have := Around.frames_deeper (env := env) hfs0
    rw [hfs] at this; exact Option.some.inj this
  subst this
  have hes := ex₁.fresh hen
  have htbs := ex₁.fresh htbn
  refine note_next hfs hFF hf ht fun s₃ tb' sm₃ htb' k1 k2 ht₃ => ?_
  have go₃ : Go Fr s s₃ := {
    sm := go₂.sm.trans sm₃
    ext := fun b o hb q => k1 b o (fun z => by rw [z, hes] at q; cases q) (fun z => by rw [z, htbs] at q; cases q) (fun z => by
      rcases List.mem_cons.mp (hfr b z) with z | z
      · rw [z, hL] at q; cases q
      · exact hb z) (go₂.ext b o hb q)
    hid := fun a ma o q => by
      obtain ⟨sl, q'⟩ := go₂.hid a ma o q
      obtain ⟨sl', q''⟩ := k2 a _ (fun z => by rw [z, hes] at q; cases q) (fun z => by rw [z, htbs] at q; cases q) q'
      exact ⟨sl', q''⟩ }
  refine flight ht₃ fun s₄ sm₄ hs₄ ht₄ => ?_
  have htb's := go₂.fresh htb'
  have go₄ : Go Fr s s₄ := go₃.but sm₄ hs₄.extBut htb's
  refine wpAny_handleBy_builtin exc_TypeError nt_TypeError sub_TypeError (nm_builtin (C.G.mono ((go₄.see C.sub).trans V_le)) hg hb hk (by rw [henv]; rfl) (by rfl) boot_TypeError (by decide) ⟨rfl, ht₄.typeIs, ?_⟩)
  simp only [if_true]
  refine flight ht₄ fun s₅ sm₅ hs₅ ht₅ => ?_
  exact wpAny_execs_cons (wpAny_Return_some (wpAny_Constant_bool ⟨go₄.but sm₅ hs₅.extBut htb's, rfl⟩))
end Mine
end

section
open PySem PySem.W PyProof.Rows PySem.Calls
namespace Mine
variable {prog : Program} {w : World} {A : Around} {E : Value → Shared → Prop} {s : Shared}
theorem dedupT {Fr W : List Addr} {v : Value} {rows : List (List Int)} (C : Cx (K1 w.params) A Fr W s) (hh : A.handled = none) (hroom : A.depth < recursionLimit) (hu : A.units + 100 < cLine)
    (r : Rd (V W s.heap) v (.list (rows.map TL))) (hlen : rows.length ≤ 100000) :
    Ev (model prog w) A Fr (call (.ref 22) [v]) s (fun u s' => ∃ d es ep, u = .ref d ∧ (d == sysModules) = false ∧ RawD s'.heap d es ep ∧ RdAll (V W s'.heap) (es.toList.map (·.key)) ((ddG rows).map TL)) := by
  refine call_enter (K := K1 w.params) (binds := [("params", v), ("unhashable_fallback", .bool false)]) C.gr (by omega) (by rfl) (by rfl) (by rfl) (by rfl) (binds_peek C.gr.X fun S => by rfl) (by decide) (locs rfl) ?_
  intro env s₁ henv sm₁ ex₁ hn hL
  have hk : env.scope.kind = .function := by rw [henv]; rfl
  have hg : env.globals = mainGlobals := by rw [henv]; rfl
  have hb : env.builtins = builtinsNs := by rw [henv]; rfl
  have hf : env.frame = some env.locals := by rw [henv]; rfl
  obtain ⟨l, vs, rfl, hl, rs⟩ := r.list_inv
  have G1 := C.gr.mono ex₁
  refine wpAny_execs_cons (wpAny_Try_except (wpAny_execs_cons (wpAny_Return_some ?_)))
  refine callMeth1 rfl rfl rfl (nm_builtin G1 hg hb hk (by rw [henv]; rfl) (by rfl) boot_dict (by decide) ?_)
  refine getm_fk G1.X findFk ?_
  have e0 : Ext s₁.heap (s₁.heap.push fkObj) := Ext.push _ _
  refine callWith_fk rfl (evalArgs_plain (spliced_cons (nm_local (hn.keeps e0) hk (by rw [henv]; rfl) (v := .ref l) (by rfl) (spliced_nil ⟨Heap.get?_push_size _ rfl, ?_⟩))))
  refine call_fk (Heap.get?_push_size _ rfl) (IsList.ext (V_le.trans (ex₁.trans e0)) hl) fun d it s₂ sm₂ ex₂ hd0 hit0 hd hit => ?_
  have ex02 : Ext s.heap s₂.heap := ex₁.trans (e0.trans ex₂)
  have hds : s.heap.get? d = none := (ex₁.trans e0).fresh (get_none_ge hd0)
  have hits : s.heap.get? it = none := (ex₁.trans e0).fresh hit0
  have hdm : (d == sysModules) = false := by
    have h1 : (37 : Nat) < (s₁.heap.push fkObj).objs.size := Heap.lt_size (e0 _ _ (G1.X 37 _ (by rfl)))
    have h2 : (37 : Nat) < d := Nat.lt_of_lt_of_le h1 hd0
    have h3 : d ≠ sysModules := by intro z; rw [z] at h2; exact absurd h2 (by decide)
    simpa using h3
  refine fkl_tups (g := V W s.heap) (rows := rows) hlen hh (by show A.units + 3 + 2 < cLine; omega) (IsList.ext (V_le.trans ex02) hl) (V_le.trans ex02) ?_ ?_ rs ?_ hit hd
  · cases q : (V W s.heap).get? it with
    | none => rfl
    | some o => rw [V_le _ _ q] at hits; cases hits
  · cases q : (V W s.heap).get? d with
    | none => rfl
    | some o => rw [V_le _ _ q] at hds; cases hds
  intro s₃ es ep sm₃ k₃ hraw hkeys
  have go₃ : Go Fr s s₃ := (Go.of (sm₁.trans (Sm.trans ⟨_, _, rfl⟩ sm₂)) ex02).but2 sm₃ k₃ hits hds
  exact ⟨go₃, d, es, ep, rfl, hdm, hraw, hkeys.mono (go₃.see C.sub)⟩

def moreT (rows : List (List Int)) (k : Int) : List (List Int) := ddG (rows ++ rows.map (· ++ [k]))

theorem lawMoreKeys {Fr W : List Addr} {v : Value} {rows : List (List Int)} {k : Int} {t : Tok} (C : Cx (K1 w.params) A Fr W s) (hh : A.handled = none) (hroom : A.depth + 3 < recursionLimit) (hu : A.units + 200 < cLine)
    (r : Rd (V W s.heap) v (.list (rows.map TL))) (hlen : rows.length ≤ 1000) (hrow : ∀ x ∈ rows, x.length ≤ 1000) :
    Ev (model prog w) A Fr (call (.ref 55) [v, .int k t]) s (fun u s' => Rd (V W s'.heap) u (.list ((more rows k).map TL))) := by
  refine call_enterC (K := K1 w.params) (binds := [("rows", v), ("figure", .int k t)]) C.gr (by omega) (by rfl) (by rfl) (by rfl) (by rfl) rfl rfl (fun _ => rfl) ?_
  intro env s₁ henv sm₁ ex₁ hn hL hcell hcnew
  have hk : env.scope.kind = .function := by rw [henv]; rfl
  have hg : env.globals = mainGlobals := by rw [henv]; rfl
  have hb : env.builtins = builtinsNs := by rw [henv]; rfl
  have hf : env.frame = some env.locals := by rw [henv]; rfl
  have go₁ : Go Fr s s₁ := .of sm₁ ex₁
  obtain ⟨fc, hfc⟩ : ∃ c, env.cells.lookup ("figure" : Str) = some c := ⟨s.heap.objs.size + 1, by rw [henv]; rfl⟩
  have hcv : s₁.heap.IsCell fc (some (.int k t)) := by
    have := hcell "figure" fc hfc
    have e : bindC env.kindOf [("rows", v), ("figure", .int k t)] (fun _ => none) "figure" = some (.int k t) := by rw [henv]; rfl
    rw [e] at this; exact this
  have hmr : bindL env.kindOf [("rows", v), ("figure", .int k t)] (fun _ => none) "rows" = some v := by rw [henv]; rfl
  generalize bindL env.kindOf [("rows", v), ("figure", .int k t)] (fun _ => none) = m at hn hmr
  obtain ⟨oL, esL, epL, hoL, _⟩ := id hn
  have ow : Own W (env.locals :: W) s.heap := (Own.refl W _).cons hL
  have C1 : Cx (K1 w.params) (A.deeper env) (env.locals :: Fr) (env.locals :: W) s₁ := C.inn go₁ ow (Live.cons hoL (go₁.live C.lv)) hk hf (.head _) hn
  have r1 : Rd (V (env.locals :: W) s₁.heap) v (.list (rows.map TL)) := r.mono (go₁.see' C.sub ow)
  refine wpAny_execs_cons (wpAny_Return_some (callT1 (fun h' => nm_builtin C1.gr hg hb hk (by rw [henv]; rfl) (by rfl) boot_list (by decide) h') rfl (callDef1 (K := K1 w.params) (f := 22) (by rfl) (by rfl) (fun h' => nm_global C1.gr hg hk (by rw [henv]; rfl) (by rfl) h') rfl ?_)))
  refine wpAny_BinOp (nm_local hn hk (by rw [henv]; rfl) hmr ?_)
  refine comp1 (ds := rows.map TL) (cl := [("figure", fc)]) (fun _ => true) (fun d => match d with | .tuple xs => .tuple (xs ++ [.int k]) | d => d) C1 hh ?_ rfl (by decide) (by decide) (by decide) (by rw [List.length_map]; omega) ?_
  · have : fc = s.heap.objs.size + 1 := by rw [henv] at hfc; exact (Option.some.inj hfc).symm
    rw [henv, this]; rfl
  refine nm_local hn hk (by rw [henv]; rfl) hmr ⟨Go.refl _ _, src_list hh C1 r1 fun I s₂ hS => ⟨I, rfl, hS, ?_, ?_, ?_⟩⟩
  · intro Cc W2 s' m' v' d i E' hd g ow' cx hn' hm' hv'
    exact wpAny_tests_nil ⟨Go.refl _ _, rfl⟩
  · intro Cc W2 s' m' v' d i E' hd _ g ow' cx hn' hm' hv'
    rw [List.getElem?_map] at hd
    obtain ⟨row, hrow', rfl⟩ := Option.map_eq_some_iff.mp hd
    refine wpAny_BinOp (nm_local hn' (by rfl) (by rw [henv]; rfl) hm' ?_)
    refine tuple1 (Fr := env.locals :: Fr) (W := W2) rfl (nm_cell (by rfl) (by rw [henv]; rfl) (c := fc) (by rfl) (g.isCell hcv) ⟨.int k, cx.lv, Rd.int k t, fun l s'' g'' rl => ?_⟩)
    have cx'' := cx.go g''
    refine op_add_tuple (Fr := env.locals :: Fr) cx''.lv (hv'.mono (g''.see cx.sub)) rl ?_ fun l2 s3 g3 rl3 => ⟨g''.trans g3, by simpa using rl3⟩
    have := hrow row (List.mem_of_getElem? hrow')
    simp; omega
  · intro D s' g hD rl
    have e1 : ((rows.map TL).filter fun _ => true).map (fun d => match d with | .tuple xs => .tuple (xs ++ [.int k]) | d => d) = (rows.map (· ++ [k])).map TL := by
      rw [List.filter_eq_self.mpr (fun _ _ => rfl), List.map_map, List.map_map]
      refine List.map_congr_left fun x _ => ?_
      simp [TL]
    rw [e1] at rl
    have C2 := C1.go g
    refine op_add (Fr := env.locals :: Fr) C2.lv (r1.mono (g.see C1.sub)) rl.rd (by simp at hlen ⊢; omega) fun l s'' g'' _ rl'' => ?_
    have C3 := C2.go g''
    refine ⟨C3.gr, ?_⟩
    rw [← List.map_append] at rl''
    refine (dedupT C3 hh (by show A.depth + 1 < recursionLimit; omega) (by show A.units + 3 + 100 < cLine; omega) rl''.rd (by simp at hlen ⊢; omega)).use fun u s4 g4 hr => ?_
    obtain ⟨d, es, ep, rfl, hdm, hraw, hkeys⟩ := hr
    have C4 := C3.go g4
    have hes : es.size ≤ 1000000 := by
      have q1 := hkeys.length
      have q2 := ddG_len (rows ++ rows.map (· ++ [k]))
      simp at q1 q2 hlen
      omega
    refine list_of_dict hh hdm hraw hes fun l5 s5 sm5 ex5 hl5 hdl5 => ?_
    have g5 : Go (env.locals :: Fr) s₁ s5 := ((g.trans g'').trans g4).trans (.of sm5 ex5)
    refine ⟨go₁.step g5 ((Own.refl Fr _).cons hL), ?_⟩
    have hWl : l5 ∉ W := fun mm => C4.lv.not hl5 (.tail _ mm)
    exact Rd.list_of (hdl5.see hWl).isList (hkeys.mono ((V_mono ex5).trans (V_sub fun a m => .tail _ m)))
end Mine
end

section
open PySem PySem.W PyProof.Rows PySem.Calls
namespace Mine
def f1 (r : List Int) (x : Int) : Option (List Int) := if x ∈ r then some (r.drop (r.idxOf x + 1)) else none
def found (os rs : List Int) : Bool := (os.foldlM f1 rs).isSome
theorem f1_take {os rs : List Int} {i : Nat} {x : Int} (h : os[i]? = some x) : (os.take (i + 1)).foldlM f1 rs = ((os.take i).foldlM f1 rs).bind fun r => f1 r x := by
  rw [List.take_add_one, h, List.foldlM_append]; simp
theorem f1_none {os rs : List Int} {i : Nat} (h : (os.take i).foldlM f1 rs = none) : os.foldlM f1 rs = none := by
  have : os = os.take i ++ os.drop i := (List.take_append_drop i os).symm
  rw [this, List.foldlM_append, h]; rfl
theorem f1_len : ∀ (l t u : List Int), l.foldlM f1 t = some u → u.length ≤ t.length := by
  intro l
  induction l with
  | nil => intro t u h; cases h; exact Nat.le_refl _
  | cons x l ih =>
    intro t u h
    rw [List.foldlM_cons] at h
    unfold f1 at h
    split at h
    · have := ih _ u h
      simp at this; omega
    · cases h

variable {prog : Program} {w : World} {A : Around} {E : Value → Shared → Prop} {s : Shared}
theorem lawFound {Fr W : List Addr} {v u : Value} {os rs : List Int} (C : Cx (K1 w.params) A Fr W s) (hh : A.handled = none) (hroom : A.depth < recursionLimit) (hu : A.units + 200 < cLine)
    (r : Rd (V W s.heap) v (IL os)) (r' : RL (V W s.heap) u (rs.map .int)) (hlo : os.length ≤ 1000) (hlr : rs.length ≤ 1000) :
    Ev (model prog w) A Fr (call (.ref 79) [v, u]) s (fun b s' => b = .bool (found os rs)) := by
  refine call_enter (K := K1 w.params) (binds := [("other", v), ("row", u)]) C.gr (by omega) (by rfl) (by rfl) (by rfl) (by rfl) (BindsTo.of_eq rfl) (by decide) (locs rfl) ?_
  intro env s₁ henv sm₁ ex₁ hn hL
  have hk : env.scope.kind = .function := by rw [henv]; rfl
  have hg : env.globals = mainGlobals := by rw [henv]; rfl
  have hf : env.frame = some env.locals := by rw [henv]; rfl
  have go₁ : Go Fr s s₁ := .of sm₁ ex₁
  have ow : Own W (env.locals :: W) s.heap := (Own.refl W _).cons hL
  -- rest = row
  refine wpAny_execs_cons (wpAny_Assign_Name (nm_local hn hk (by rw [henv]; rfl) (v := u) (by rfl) (st_local hn hk (by rw [henv]; rfl) fun s₂ sm₂ hn₂ hs₂ => ?_)))
  have go₂ : Go Fr s s₂ := go₁.but sm₂ hs₂.extBut hL
  dsimp only
  obtain ⟨l, vs, rfl, hl, rv⟩ := r.list_inv
  have hl₂ : s₂.heap.IsList l vs.toArray := IsList.ext ((go₂.see C.sub).trans V_le) hl
  refine wpAny_execs_cons (wpAny_For (nm_local hn₂ hk (by rw [henv]; rfl) (v := .ref l) (by rfl) ?_))
  refine iter_list hl₂ fun I s₃ sm₃ ex₃ hI hit => ?_
  have hIs := go₂.fresh hI
  have go₃ : Go Fr s s₃ := go₂.trans (.of sm₃ ex₃)
  have owI : Own W (I :: env.locals :: W) s.heap := ow.cons hIs
  have hvl : vs.length = os.length := by rw [rv.length, List.length_map]
  have hu' : (A.deeper env).units = A.units + 3 := rfl
  refine for_list (vs := vs) (l := l) (fun i m s' => Go Fr s s' ∧ s'.heap.IsListIter I l i ∧ s'.heap.Ns env.locals m ∧ ∃ rest ns, m "rest" = some rest ∧ RL (V (I :: env.locals :: W) s'.heap) rest (ns.map .int) ∧ (os.take i).foldlM f1 rs = some ns) hk (by rw [henv]; rfl) ?_ ?_ ?_ (m₀ := _)
    ⟨go₃, hit, hn₂.keeps ex₃, u, rs, by rfl, r'.mono (go₃.see' C.sub owI), by simp⟩
  · rintro i m s' ⟨h1, h3, h4, _⟩
    exact ⟨h3, IsList.ext ((h1.see C.sub).trans V_le) hl, .inl hh, h4⟩
  · rintro i x m s' s'' ⟨h1, h3, h4, rest, ns, h5, h6, h7⟩ hv sm hit'' hn'' hkeep
    have go : Go Fr s s'' := h1.but2 sm hkeep hIs hL
    have eV : Ext (V (I :: env.locals :: W) s'.heap) (V (I :: env.locals :: W) s''.heap) := V_ext fun b o hb' q => hkeep b o (fun z => hb' (by simp [z])) (fun z => hb' (by simp [z])) q
    obtain ⟨d, hd, hx⟩ := rv.get hv
    rw [List.getElem?_map] at hd
    obtain ⟨k, hk', rfl⟩ := Option.map_eq_some_iff.mp hd
    obtain ⟨t, rfl⟩ := hx.int_inv
    obtain ⟨lr, wr, rfl, hlr', rwr⟩ := h6.mono eV
    have hns : ns.length ≤ 1000 := by have := f1_len _ _ _ h7; omega
    obtain ⟨oL, esL, epL, hoL, _⟩ := id hn''
    obtain ⟨oI, hoI, _⟩ := id hit''
    have CX : Cx (K1 w.params) (A.deeper env) (env.locals :: Fr) (I :: env.locals :: W) s'' := C.inn go owI (Live.cons hoI (Live.cons hoL (go.live C.lv))) hk hf (by simp) hn''
    have hdl : DL s''.heap lr wr := hlr'.ext V_le
    have rr : RdAll s''.heap wr (ns.map .int) := rwr.mono V_le
    obtain ⟨as, ra⟩ := Rd.list_of hdl.isList rr
    have hstep := f1_take (rs := rs) hk'
    rw [h7] at hstep
    have hany : (ns.map PyData.int).any (fun y => PyData.eqv y (.int k)) = decide (k ∈ ns) := by
      rw [List.any_map, Bool.eq_iff_iff]
      simp only [List.any_eq_true, Function.comp, PyData.eqv, decide_eq_true_eq]
      constructor
      · rintro ⟨y, hy, q⟩; have : y = k := by simpa using q
        exact this ▸ hy
      · intro h; exact ⟨k, h, by simp⟩
    refine wpAny_execs_cons (wpAny_If (wpAny_isTrue_Compare1 (nm_local hn'' hk (by rw [henv]; rfl) (by rfl) (nm_local hn'' hk (by rw [henv]; rfl) (v := .ref lr) h5 ?_))))
    refine SeqAt.notIn_list_reads ra (.int k t) (lay_ints ns) rfl (by rw [hu']; show A.units + 3 + 1 + min _ 0 < cLine; omega) (wpAny_truthy_bool ?_)
    rw [hany]
    by_cases hc : k ∈ ns
    · rw [decide_eq_true hc]
      refine wpAny_execs_nil (wpAny_execs_cons (wpAny_Assign_Name (sub_from (Fr := env.locals :: Fr) (W := I :: env.locals :: W) ?_)))
      refine nm_local hn'' hk (by rw [henv]; rfl) (v := .ref lr) h5 ?_
      refine wpAny_BinOp (meth1 F.plainAttrs_list F.slot_list_index (by exact F.type_list_index) rfl rfl rfl (nm_local hn'' hk (by rw [henv]; rfl) (v := .ref lr) h5 ⟨hdl.isList.typeIs, hdl.noDict, ?_⟩))
      refine nm_local hn'' hk (by rw [henv]; rfl) (v := .int k t) (by rfl) ?_
      refine op_index (Fr := env.locals :: Fr) hdl rr (by omega) hc (by rw [hu']; omega) fun t' s₄ g₄ => ?_
      refine wpAny_Constant_int ?_
      refine add_int ?_
      have g₅ : Go (env.locals :: Fr) s'' { s₄ with toks := s₄.toks + 1 + 1 } := g₄.trans (.of (Sm.toks _ _) (Ext.refl _))
      have CX5 := CX.go g₅
      refine ⟨_, _, ns.map .int, rfl, CX5.lv, (Rd.list_of hlr'.isList rwr).mono (g₅.see CX.sub), by simp; omega, fun l2 s₆ g₆ hl2 rl => ?_⟩
      have g6 : Go (env.locals :: Fr) s'' s₆ := g₅.trans g₆
      refine st_local (g6.ns hn'') hk (by rw [henv]; rfl) fun s₇ sm₇ hn₇ hs₇ => ?_
      refine wpAny_execs_nil ⟨_, (go.step g6 ((Own.refl Fr _).cons hL)).but sm₇ hs₇.extBut hL, ?_, hn₇, .ref l2, ns.drop (ns.idxOf k + 1), by rfl, ?_, ?_⟩
      · exact (g6.isListIter hit'').extBut hs₇.extBut (iter_ne_ns hit'' hn'')
      · have e : dropI (ns.map PyData.int) ((ns.idxOf k : Nat) + 1 : Int) = (ns.drop (ns.idxOf k + 1)).map .int := by
          unfold dropI
          rw [if_pos (by omega), show ((ns.idxOf k : Nat) + 1 : Int).toNat = ns.idxOf k + 1 by omega, List.map_drop]
        rw [e] at rl
        exact rl.mono (V_same hs₇ (by simp))
      · rw [hstep]; simp [f1, hc]
    · rw [decide_eq_false hc]
      refine wpAny_execs_cons (wpAny_Return_some (wpAny_Constant_bool ?_))
      refine ⟨go, ?_⟩
      have : os.foldlM f1 rs = none := f1_none (i := i + 1) (by rw [hstep]; simp [f1, hc])
      show _ = Value.bool (found os rs)
      unfold found
      rw [this]; rfl
  · rintro m s' s'' ⟨h1, h3, h4, rest, ns, h5, h6, h7⟩ sm he
    refine wpAny_execs_cons (wpAny_Return_some (wpAny_Constant_bool ⟨h1.but sm he hIs, ?_⟩))
    rw [hvl, List.take_length] at h7
    show _ = Value.bool (found os rs)
    unfold found
    rw [h7]; rfl
end Mine
end

section
open PySem PySem.W PyProof.Rows PySem.Calls
namespace Mine
theorem boot_range : bootBuiltins "range" = some (.type "range") := by decide +kernel
theorem boot_len : bootBuiltins "len" = some (.builtin "len") := by decide +kernel
theorem boot_sum : bootBuiltins "sum" = some (.builtin "sum") := by decide +kernel
def ahead (row counts : List Int) (i : Nat) : List Int := ((List.range i).filter fun j => decide (row.getD j 0 = row.getD i 0)).map fun j => counts.getD j 0
def hmStep (row counts : List Int) (i : Nat) : List Int := counts ++ [2 * counts.getD i 0 - (dropI (ahead row counts i) (-1)).sum]
def hmTo (row : List Int) (n : Nat) : List Int := (List.range n).foldl (hmStep row) [1]
def howMany (row : List Int) : Int := (hmTo row row.length).getLastD 0
theorem hmTo_succ (row : List Int) (n : Nat) : hmTo row (n + 1) = hmStep row (hmTo row n) n := by
  unfold hmTo; rw [List.range_succ, List.foldl_append]; rfl
theorem hmTo_len (row : List Int) : ∀ n, (hmTo row n).length = n + 1
  | 0 => rfl
  | n + 1 => by rw [hmTo_succ, hmStep, List.length_append, hmTo_len row n]; rfl
theorem map_getD {ns : List Int} {j : Nat} (h : j < ns.length) : (ns.map PyData.int)[j]? = some (.int (ns.getD j 0)) := by
  simp [List.getElem?_map, List.getD, h]
theorem eqv_int (a b : Int) : PyData.eqv (.int a) (.int b) = decide (a = b) := by
  simp only [PyData.eqv]; rw [Bool.eq_iff_iff]; simp

variable {prog : Program} {w : World} {A : Around} {E : Value → Shared → Prop} {s : Shared}
set_option pp.proofs false in
theorem lawHowMany {Fr W : List Addr} {v : Value} {ns : List Int} (C : Cx (K1 w.params) A Fr W s) (hh : A.handled = none) (hroom : A.depth < recursionLimit) (hu : A.units + 200 < cLine)
    (r : Rd (V W s.heap) v (IL ns)) (hlen : ns.length ≤ 1000) :
    Ev (model prog w) A Fr (call (.ref 72) [v]) s (fun b s' => ∃ t, b = .int (howMany ns) t) := by
  refine call_enterC (K := K1 w.params) (binds := [("row", v)]) C.gr (by omega) (by rfl) (by rfl) (by rfl) (by rfl) rfl rfl (fun _ => rfl) ?_
  intro env s₁ henv sm₁ ex₁ hn hL hcell hcnew
  have hk : env.scope.kind = .function := by rw [henv]; rfl
  have hg : env.globals = mainGlobals := by rw [henv]; rfl
  have hb : env.builtins = builtinsNs := by rw [henv]; rfl
  have hf : env.frame = some env.locals := by rw [henv]; rfl
  have hu' : (A.deeper env).units = A.units + 3 := rfl
  have go₁ : Go Fr s s₁ := .of sm₁ ex₁
  have hLe : env.locals = s.heap.objs.size := by rw [henv]; rfl
  obtain ⟨rc, hrc, erc⟩ : ∃ c, env.cells.lookup ("row" : Str) = some c ∧ c = s.heap.objs.size + 1 := ⟨_, by rw [henv]; rfl, rfl⟩
  obtain ⟨cc, hcc, ecc⟩ : ∃ c, env.cells.lookup ("counts" : Str) = some c ∧ c = s.heap.objs.size + 2 := ⟨_, by rw [henv]; rfl, rfl⟩
  obtain ⟨ic, hic, eic⟩ : ∃ c, env.cells.lookup ("i" : Str) = some c ∧ c = s.heap.objs.size + 3 := ⟨_, by rw [henv]; rfl, rfl⟩
  have hrv : s₁.heap.IsCell rc (some v) := by
    have := hcell "row" rc hrc
    have e : bindC env.kindOf [("row", v)] (fun _ => none) "row" = some v := by rw [henv]; rfl
    rw [e] at this; exact this
  have hcv := hcell "counts" cc hcc
  have hiv := hcell "i" ic hic
  have hrn := (hcnew "row" rc hrc).1
  have hcn := (hcnew "counts" cc hcc).1
  have hin := (hcnew "i" ic hic).1
  have hne1 : rc ≠ cc := by rw [erc, ecc]; exact Nat.ne_of_lt (Nat.lt_succ_self _)
  have hne2 : rc ≠ ic := by rw [erc, eic]; exact Nat.ne_of_lt (Nat.lt_add_of_pos_right (n := s.heap.objs.size + 1) (by decide : 0 < 2))
  have hne3 : cc ≠ ic := by rw [ecc, eic]; exact Nat.ne_of_lt (Nat.lt_succ_self _)
  generalize bindC env.kindOf [("row", v)] (fun _ => none) "counts" = o1 at hcv
  generalize bindC env.kindOf [("row", v)] (fun _ => none) "i" = o2 at hiv
  generalize bindL env.kindOf [("row", v)] (fun _ => none) = m at hn
  obtain ⟨oL, esL, epL, hoL, _⟩ := id hn
  have ow : Own W (env.locals :: W) s.heap := (Own.refl W _).cons hL
  have owF : Own Fr (env.locals :: Fr) s.heap := (Own.refl Fr _).cons hL
  have cx : ∀ s', Go Fr s s' → (∃ m, s'.heap.Ns env.locals m) → Cx (K1 w.params) (A.deeper env) (env.locals :: Fr) (env.locals :: W) s' := fun s' g ⟨m, q⟩ => by
    obtain ⟨o, es, ep, q1, _⟩ := id q
    exact C.inn g ow (Live.cons q1 (g.live C.lv)) hk hf (.head _) q
  have C1 := cx s₁ go₁ ⟨_, hn⟩
  -- counts = [1]
  refine wpAny_execs_cons (wpAny_Assign_Name (list1 (Fr := env.locals :: Fr) (W := env.locals :: W) rfl (wpAny_Constant_int ⟨.int 1, C1.lv, Rd.int _ _, fun D s₂ g₂ hD dl₂ rl₂ => ?_⟩)))
  refine st_cell hk (by rw [henv]; rfl) hcc (g₂.isCell (show Heap.IsCell s₁.heap cc o1 from hcv)) fun s₃ sm₃ hcv₃ hs₃ => ?_
  have g12 : Go (env.locals :: Fr) s₁ s₂ := (Go.of (Sm.toks _ _) (Ext.refl _)).trans g₂
  have hDs : s.heap.get? D = none := go₁.fresh hD
  have hDc : D ≠ cc := by
    rintro rfl
    obtain ⟨o, q, _⟩ := hcv
    have hD' : s₁.heap.get? D = none := hD
    rw [hD'] at q; cases q
  have hDr : D ≠ rc := by
    rintro rfl
    obtain ⟨o, q, _⟩ := hrv
    have hD' : s₁.heap.get? D = none := hD
    rw [hD'] at q; cases q
  have hDi : D ≠ ic := by
    rintro rfl
    obtain ⟨o, q, _⟩ := hiv
    have hD' : s₁.heap.get? D = none := hD
    rw [hD'] at q; cases q
  have hDW : D ∉ env.locals :: W := C1.lv.not hD
  have go₂ : Go Fr s s₂ := go₁.step g12 owF
  have go₃ : Go Fr s s₃ := go₂.but sm₃ hs₃.extBut hcn
  have hrv₃ : s₃.heap.IsCell rc (some v) := cell_but (g12.isCell hrv) hs₃.extBut hne1
  have hiv₃ : s₃.heap.IsCell ic o2 := cell_but (g12.isCell hiv) hs₃.extBut (Ne.symm hne3)
  have hn₃ : s₃.heap.Ns env.locals m := (g12.ns hn).sameBut hs₃ (Ne.symm (hcnew "counts" cc hcc).2)
  have dl₃ : DL s₃.heap D _ := dl₂.but hs₃.extBut hDc
  have C3 := cx s₃ go₃ ⟨_, hn₃⟩
  have rr : ∀ s', Go Fr s s' → Rd (V (env.locals :: W) s'.heap) v (IL ns) := fun s' g => r.mono (g.see' C.sub ow)
  -- for i in range(len(row))
  refine wpAny_execs_cons (wpAny_For (callT1 (fun h' => nm_builtin C3.gr hg hb hk (by rw [henv]; rfl) (by rfl) boot_range (by decide) h') rfl ?_))
  refine callB1 (fun h' => nm_builtin C3.gr hg hb hk (by rw [henv]; rfl) (by rfl) boot_len (by decide) h') rfl ?_
  refine nm_cell hk (by rw [henv]; rfl) hrc hrv₃ ?_
  refine op_len (W := env.locals :: W) (Fr := env.locals :: Fr) (rr s₃ go₃) (by simp; omega) fun t₄ s₄ g₄ => ?_
  rw [List.length_map]
  refine op_range (Fr := env.locals :: Fr) fun rg s₅ t' u' v' g₅ hrg hR => ?_
  refine iter_range hR (by omega) fun I s₆ sm₆ ex₆ hI hit => ?_
  have g36 : Go (env.locals :: Fr) s₃ s₆ := (g₄.trans g₅).trans (.of sm₆ ex₆)
  have go₆ : Go Fr s s₆ := go₃.step g36 owF
  have hI3 : s₃.heap.get? I = none := (g₄.trans g₅).fresh hI
  have hIs : s.heap.get? I = none := go₃.fresh hI3
  have hIW : I ∉ env.locals :: W := C3.lv.not hI3
  have hIF : I ∉ env.locals :: Fr := fun q => hIW (C3.sub _ q)
  have hcIr := cell_ne_riter hit (g36.isCell hrv₃)
  have hcIc := cell_ne_riter hit (g36.isCell hcv₃)
  have hcIi := cell_ne_riter hit (g36.isCell hiv₃)
  have hDI := dl_ne_riter hit (g36.dl dl₃)
  refine for_walkC (Walks.range (A := A.deeper env) hh I 0 1 ns.length) (fun i s' => Go Fr s s' ∧ IsRangeIter s'.heap I (0 + (i : Nat) * 1) ((ns.length : Int) - (i : Nat)) 1 ∧ (∃ m, s'.heap.Ns env.locals m) ∧ s'.heap.IsCell rc (some v) ∧ s'.heap.IsCell cc (some (.ref D)) ∧ (∃ o, s'.heap.IsCell ic o) ∧
      ∃ vs, DL s'.heap D vs ∧ RdAll s'.heap vs ((hmTo ns i).map .int)) hk (by rw [henv]; rfl) hic hcIi (by simpa using hcIi) ?_ ?_ ?_ ?_
  · rintro i s' ⟨h1, h2, h3, h4, h5, h6, h7⟩
    exact ⟨h2, h6⟩
  · rintro i x s' s'' ⟨h1, h2, ⟨m', h3⟩, h4, h5, h6, vs, h7, h8⟩ hi ⟨tx, rfl⟩ sm st hcx hkeep
    have ei : (0 : Int) + (i : Int) * 1 = i := by omega
    rw [ei] at hcx
    have go : Go Fr s s'' := h1.but2 sm hkeep hIs hin
    have hn' : s''.heap.Ns env.locals m' := by
      obtain ⟨o, es, ep, q, z⟩ := h3
      exact ⟨o, es, ep, hkeep _ _ (ns_ne_riter hit (g36.ns hn₃)) (Ne.symm (hcnew "i" ic hic).2) q, z⟩
    have hrv' := cell_but2 h4 hkeep hcIr hne2
    have hcv' := cell_but2 h5 hkeep hcIc hne3
    have dl' : DL s''.heap D vs := h7.at fun o q => hkeep _ _ hDI hDi q
    have h8' : RdAll s''.heap vs ((hmTo ns i).map .int) := ints_any h8
    have CX := cx s'' go ⟨_, hn'⟩
    have rD : RL (V (env.locals :: W) s''.heap) (.ref D) ((hmTo ns i).map .int) := rl_of_dl dl' hDW (ints_any h8')
    have hhl := hmTo_len ns i
    -- ahead = [...]
    refine wpAny_execs_cons (comp1S (ds := RG i) (cl := [("row", rc), ("i", ic), ("counts", cc)]) (fun d => match d with | .int j => decide (ns.getD j.toNat 0 = ns.getD i 0) | _ => false) (fun d => match d with | .int j => .int ((hmTo ns i).getD j.toNat 0) | d => d) (by rw [henv]; rfl) hk (by rw [henv]; rfl) hn' (.head _) (.head _) CX hh ?_ rfl (by decide) (by decide) (by decide) (by simp; omega) ?_)
    · rw [henv, erc, ecc, eic]; rfl
    refine callT1 (fun h' => nm_builtin CX.gr hg hb hk (by rw [henv]; rfl) (by rfl) boot_range (by decide) h') rfl ?_
    refine nm_cell hk (by rw [henv]; rfl) hic hcx ?_
    refine op_range (Fr := env.locals :: Fr) fun rg2 s₇ t' u' v' g₇ hrg2 hR2 => ⟨g₇, ?_⟩
    have CX7 := CX.go g₇
    refine src_range hh CX7 hR2 (by omega) fun I2 s₈ hS => ⟨I2, rfl, hS, ?_, ?_, ?_⟩
    · intro Cc W2 s' m' v' d j E' hd g ow' cx' hn'' hm' hv'
      obtain ⟨rfl, hj⟩ := RG_get hd
      obtain ⟨tj, rfl⟩ := hv'.int_inv
      have gg : Go (env.locals :: Fr) s'' s' := g₇.trans g
      have rrow : Rd (V W2 s'.heap) v (IL ns) := ((rr s'' go).mono (g₇.see CX.sub)).mono (g.see' CX7.sub ow')
      refine wpAny_tests_one (wpAny_isTrue_Compare1 ?_)
      refine sub_item (W := W2) (fun _ _ => ⟨_, rfl⟩) (nm_cell (by rfl) (by rw [henv]; rfl) (c := rc) (by rfl) (gg.isCell hrv') ?_)
      refine nm_local hn'' (by rfl) (by rw [henv]; rfl) hm' ⟨j, tj, _, _, rfl, rrow, by simp; omega, map_getD (j := j) (by omega), fun y1 hy1 => ?_⟩
      obtain ⟨t1, rfl⟩ := hy1.int_inv
      refine sub_item (W := W2) (fun _ _ => ⟨_, rfl⟩) (nm_cell (by rfl) (by rw [henv]; rfl) (c := rc) (by rfl) (gg.isCell hrv') ?_)
      refine nm_cell (by rfl) (by rw [henv]; rfl) (c := ic) (by rfl) (gg.isCell hcx) ⟨i, tx, _, _, rfl, rrow, by simp; omega, map_getD (j := i) (by omega), fun y2 hy2 => ?_⟩
      obtain ⟨t2, rfl⟩ := hy2.int_inv
      refine eq_int (wpAny_truthy_bool ⟨Go.refl _ _, ?_⟩)
      rw [Bool.eq_iff_iff]; simp
    · intro Cc W2 s' m' v' d j E' hd _ g ow' cx' hn'' hm' hv'
      obtain ⟨rfl, hj⟩ := RG_get hd
      obtain ⟨tj, rfl⟩ := hv'.int_inv
      have gg : Go (env.locals :: Fr) s'' s' := g₇.trans g
      have rcount := ((rD.rd).mono (g₇.see CX.sub)).mono (g.see' CX7.sub ow')
      refine sub_item (W := W2) (fun _ _ => ⟨_, rfl⟩) (nm_cell (by rfl) (by rw [henv]; rfl) (c := cc) (by rfl) (gg.isCell hcv') ?_)
      refine nm_local hn'' (by rfl) (by rw [henv]; rfl) hm' ⟨j, tj, _, _, rfl, rcount, by simp; omega, map_getD (j := j) (by omega), fun y1 hy1 => ⟨Go.refl _ _, ?_⟩⟩
      simpa using hy1
    · intro H s₉ s₁₀ g₉ hH rl sm₁₀ hn₁₀ hs₁₀
      rw [RG_fm] at rl
      have eah : (((List.range i).filter fun (j : Nat) => (fun d => match d with | .int j => decide (ns.getD j.toNat 0 = ns.getD i 0) | _ => false : PyData → Bool) (.int (j : Int))).map fun (j : Nat) => (fun d => match d with | .int j => .int ((hmTo ns i).getD j.toNat 0) | d => d : PyData → PyData) (.int (j : Int))) = (ahead ns (hmTo ns i) i).map .int := by
        unfold ahead; rw [List.map_map]; rfl
      rw [eah] at rl
      have g79 : Go (env.locals :: Fr) s'' s₉ := g₇.trans g₉
      have go₉ : Go Fr s s₉ := go.step g79 owF
      have go₁₀ : Go Fr s s₁₀ := go₉.but sm₁₀ hs₁₀.extBut hL
      have C10 := cx s₁₀ go₁₀ ⟨_, hn₁₀⟩
      have dl9 : DL s₉.heap D vs := g79.dl dl'
      have dl10 : DL s₁₀.heap D vs := dl9.but hs₁₀.extBut (dl_ne_ns dl9 (g79.ns hn'))
      have rH : Rd (V (env.locals :: W) s₁₀.heap) (.ref H) (IL (ahead ns (hmTo ns i) i)) := rl.rd.mono (V_same hs₁₀ (by simp))
      have hcL : ∀ n c, env.cells.lookup n = some c → c ≠ env.locals := fun n c q => (hcnew n c q).2
      have hcv10 : s₁₀.heap.IsCell cc _ := cell_but (g79.isCell hcv') hs₁₀.extBut (hcL _ _ hcc)
      have hrv10 : s₁₀.heap.IsCell rc _ := cell_but (g79.isCell hrv') hs₁₀.extBut (hcL _ _ hrc)
      have hiv10 : s₁₀.heap.IsCell ic _ := cell_but (g79.isCell hcx) hs₁₀.extBut (hcL _ _ hic)
      have rD10 : RL (V (env.locals :: W) s₁₀.heap) (.ref D) ((hmTo ns i).map .int) := rl_of_dl dl10 hDW (ints_any h8')
      refine wpAny_execs_cons (wpAny_Expr (meth1 F.plainAttrs_list slot_list_append (by exact F.type_list_append) rfl rfl rfl (nm_cell hk (by rw [henv]; rfl) hcc hcv10 ⟨dl10.isList.typeIs, dl10.noDict, ?_⟩)) (hi := by unfold interactive; rw [hk]; rfl))
      refine wpAny_BinOp (wpAny_BinOp (wpAny_Constant_int ?_))
      refine sub_item (W := env.locals :: W) (fun _ _ => ⟨_, rfl⟩) (nm_cell hk (by rw [henv]; rfl) hcc hcv10 ?_)
      refine nm_cell hk (by rw [henv]; rfl) hic hiv10 ⟨i, tx, _, _, rfl, rD10.rd, by simp; omega, map_getD (j := i) (by omega), fun y1 hy1 => ?_⟩
      obtain ⟨t1, rfl⟩ := hy1.int_inv
      refine mul_int ?_
      refine callB1 (fun h' => nm_builtin C10.gr hg hb hk (by rw [henv]; rfl) (by rfl) boot_sum (by decide) h') rfl ?_
      refine sub_from (Fr := env.locals :: Fr) (W := env.locals :: W) (nm_local (s := { s₁₀ with toks := _ }) hn₁₀ hk (by rw [henv]; rfl) (v := .ref H) (by rfl) ?_)
      refine UnaryOp_ (wpAny_Constant_int (neg_int ⟨-1, _, _, rfl, C10.lv, rH, ?_, fun l₁₁ s₁₁ g₁₁ hl₁₁ rl₁₁ => ?_⟩))
      · have : (ahead ns (hmTo ns i) i).length ≤ i := by
          unfold ahead; rw [List.length_map]; exact Nat.le_trans (List.length_filter_le _ _) (by simp)
        simp only [List.length_map]; omega
      have edrop : dropI ((ahead ns (hmTo ns i) i).map PyData.int) (-1) = (dropI (ahead ns (hmTo ns i) i) (-1)).map .int := by
        unfold dropI; simp [List.map_drop]
      rw [edrop] at rl₁₁
      refine op_sum (Fr := env.locals :: Fr) (W := env.locals :: W) hh rl₁₁.rd fun t₁₂ s₁₂ g₁₂ => ?_
      have gx : Go (env.locals :: Fr) s₁₀ s₁₂ := (Go.of (Sm.toks _ _) (Ext.refl _)).trans (g₁₁.trans g₁₂)
      refine sub_int ?_
      have dl12 : DL s₁₂.heap D vs := gx.dl dl10
      have hvl : vs.length = i + 1 := by rw [h8.length, List.length_map, hhl]
      refine dl_append dl12 (by omega) fun s₁₃ sm₁₃ dl₁₃ hs₁₃ => ?_
      have go₁₂ : Go Fr s s₁₂ := go₁₀.step gx owF
      refine wpAny_execs_nil ⟨?_, ?_, ⟨_, (gx.ns hn₁₀).sameBut hs₁₃ (Ne.symm (dl_ne_ns dl12 (gx.ns hn₁₀)))⟩, ?_, ?_, ⟨_, cell_but (gx.isCell hiv10) hs₁₃.extBut (Ne.symm hDi)⟩, _, dl₁₃, ?_⟩
      · exact go₁₂.but ((Sm.toks _ _).trans sm₁₃) hs₁₃.extBut hDs
      · have q9 := g79.riter hIF st
        have q10 : IsRangeIter s₁₀.heap _ _ _ _ := hs₁₀.extBut _ _ (Ne.symm (ns_ne_riter hit (g36.ns hn₃))) q9
        have q12 := gx.riter hIF q10
        exact hs₁₃.extBut _ _ (Ne.symm hDI) q12
      · exact cell_but (gx.isCell hrv10) hs₁₃.extBut (Ne.symm hDr)
      · exact cell_but (gx.isCell hcv10) hs₁₃.extBut (Ne.symm hDc)
      · rw [hmTo_succ, hmStep, List.map_append]
        exact (ints_any h8).append (RdAll.cons (Rd.int _ _) RdAll.nil)
  · rintro s' s'' ⟨h1, h2, ⟨m', h3⟩, h4, h5, h6, vs, h7, h8⟩ sm he
    have go : Go Fr s s'' := h1.but sm he hIs
    have hcv' := cell_but h5 he hcIc
    have dl' : DL s''.heap D vs := h7.but he hDI
    have rD : Rd (V (env.locals :: W) s''.heap) (.ref D) (IL (hmTo ns ns.length)) := (rl_of_dl dl' hDW (ints_any h8)).rd
    have hhl := hmTo_len ns ns.length
    refine wpAny_execs_cons (wpAny_Return_some (sub_last (W := env.locals :: W) (fun _ _ => ⟨_, rfl⟩) (nm_cell hk (by rw [henv]; rfl) hcc hcv' ?_)))
    have hne : hmTo ns ns.length ≠ [] := by intro z; rw [z] at hhl; simp at hhl
    refine UnaryOp_ (wpAny_Constant_int (neg_int ⟨_, _, .int (howMany ns), rfl, rD, by simp; omega, ?_, fun y hy => ?_⟩))
    · rw [List.getLast?_map, List.getLast?_eq_some_getLast hne]
      show some _ = _
      unfold howMany
      rw [List.getLastD_eq_getLast?, List.getLast?_eq_some_getLast hne]; rfl
    · obtain ⟨t, rfl⟩ := hy.int_inv
      exact ⟨go.trans (.of (Sm.toks _ _) (Ext.refl _)), t, rfl⟩
  · refine ⟨go₆, ?_, ⟨_, g36.ns hn₃⟩, g36.isCell hrv₃, g36.isCell hcv₃, ⟨_, g36.isCell hiv₃⟩, _, g36.dl dl₃, ?_⟩
    · have e1 : (0 : Int) + ((0 : Nat) : Int) * 1 = 0 := by omega
      have e2 : (ns.length : Int) - ((0 : Nat) : Int) = ns.length := by omega
      rw [e1, e2]; exact hit
    · exact RdAll.cons (Rd.int 1 _) RdAll.nil
end Mine
end

section
open PySem PySem.W PyProof.Rows PySem.Calls
namespace Mine
abbrev IN (l : List Nat) : List PyData := l.map fun (i : Nat) => PyData.int (i : Int)
theorem IN_eq (l : List Nat) : IN l = (l.map fun (i : Nat) => (i : Int)).map .int := by simp [IN]
theorem lay_IN (l : List Nat) : PyData.canLay0 (.list (IN l)) = true := by rw [IN_eq]; exact lay_IL _
theorem depth_IN (l : List Nat) : PyData.depth (.list (IN l)) = 1 := by rw [IN_eq]; exact depth_IL _
theorem eqv_IN_nil (l : List Nat) : PyData.eqv (.list (IN l)) (.list []) = decide (l = []) := by
  cases l <;> simp [PyData.eqv, PyData.eqvAll]
theorem IN_get {l : List Nat} {i : Nat} {d : PyData} (h : (IN l)[i]? = some d) : ∃ k : Nat, d = .int (k : Int) ∧ k ∈ l := by
  rw [List.getElem?_map] at h
  obtain ⟨a, q, rfl⟩ := Option.map_eq_some_iff.mp h
  exact ⟨a, rfl, List.mem_of_getElem? q⟩
theorem IN_fm (l : List Nat) (p : PyData → Bool) (f : PyData → PyData) : ((IN l).filter p).map f = (l.filter fun (i : Nat) => p (.int (i : Int))).map fun (i : Nat) => f (.int (i : Int)) := by
  rw [List.filter_map, List.map_map]; rfl
def keptL (n N : Nat) : List Nat := (List.range n).filter fun (i : Nat) => decide (Builtin.bitAnd ((N : Int).fdiv (2 ^ ((i : Int).toNat))) 1 = 1)
def lateT (row : List Int) (kept : List Nat) (k i : Int) : Bool := decide (row.getD i.toNat 0 = row.getD k.toNat 0) && decide ((kept.filter fun (j : Nat) => decide (i ≤ (j : Int)) && decide ((j : Int) < k)) = [])
def lateL (row : List Int) (kept : List Nat) : List Nat := kept.flatMap fun (k : Nat) => (List.range ((k : Int).toNat)).filter fun (i : Nat) => lateT row kept k i
def okN (row : List Int) (N : Nat) : Bool := decide (lateL row (keptL row.length N) = [])
def rowN (row : List Int) (N : Nat) : List Int := (keptL row.length N).map fun (i : Nat) => row.getD ((i : Int).toNat) 0
def leftTo (row : List Int) (n : Nat) : List (List Int) := ((List.range n).filter (okN row)).map (rowN row)
theorem leftTo_succ (row : List Int) (n : Nat) : leftTo row (n + 1) = leftTo row n ++ (if okN row n then [rowN row n] else []) := by
  unfold leftTo
  rw [List.range_succ, List.filter_append, List.map_append]
  cases h : okN row n <;> simp [h]
def lawLeft (row : List Int) : List (List Int) := leftTo row (2 ^ row.length)
theorem late_eq (row : List Int) (kept : List Nat) (es : PyData → List PyData) (p2 : PyData → PyData → Bool) (hes : ∀ k : Nat, es (.int k) = RG ((k : Int).toNat)) (hp : ∀ k i : Nat, p2 (.int k) (.int i) = lateT row kept k i) :
    ((IN kept).filter fun _ => true).flatMap (fun d => ((es d).filter (p2 d)).map (fun d' => d')) = IN (lateL row kept) := by
  rw [List.filter_eq_self.mpr fun _ _ => rfl, List.flatMap_map]
  unfold lateL IN
  rw [List.map_flatMap]
  congr 1
  funext k
  show ((es (.int k)).filter (p2 (.int k))).map (fun d' => d') = _
  rw [hes, RG_fm]
  simp only [hp]
theorem kept_lt {n N k : Nat} (h : k ∈ keptL n N) : k < n := by
  unfold keptL at h
  have := (List.mem_filter.mp h).1
  simpa using this
theorem bits2 : Builtin.Int.intBits 2 = 2 := by decide +kernel

variable {prog : Program} {w : World} {A : Around} {E : Value → Shared → Prop} {s : Shared}
set_option pp.proofs false in
theorem lawLeftC {Fr W : List Addr} {v : Value} {ns : List Int} (C : Cx (K1 w.params) A Fr W s) (hh : A.handled = none) (hroom : A.depth < recursionLimit) (hu : A.units + 200 < cLine)
    (r : Rd (V W s.heap) v (IL ns)) (hlen : ns.length ≤ 8) :
    Ev (model prog w) A Fr (call (.ref 67) [v]) s (fun b s' => RL (V W s'.heap) b ((lawLeft ns).map IL)) := by
  refine call_enterC (K := K1 w.params) (binds := [("row", v)]) C.gr (by omega) (by rfl) (by rfl) (by rfl) (by rfl) rfl rfl (fun _ => rfl) ?_
  intro env s₁ henv sm₁ ex₁ hn hL hcell hcnew
  have hk : env.scope.kind = .function := by rw [henv]; rfl
  have hg : env.globals = mainGlobals := by rw [henv]; rfl
  have hb : env.builtins = builtinsNs := by rw [henv]; rfl
  have hf : env.frame = some env.locals := by rw [henv]; rfl
  have hu' : (A.deeper env).units = A.units + 3 := rfl
  have go₁ : Go Fr s s₁ := .of sm₁ ex₁
  obtain ⟨rc, hrc, erc⟩ : ∃ c, env.cells.lookup ("row" : Str) = some c ∧ c = s.heap.objs.size + 1 := ⟨_, by rw [henv]; rfl, rfl⟩
  obtain ⟨nc, hnc, enc⟩ : ∃ c, env.cells.lookup ("number" : Str) = some c ∧ c = s.heap.objs.size + 2 := ⟨_, by rw [henv]; rfl, rfl⟩
  obtain ⟨kc, hkc, ekc⟩ : ∃ c, env.cells.lookup ("kept" : Str) = some c ∧ c = s.heap.objs.size + 3 := ⟨_, by rw [henv]; rfl, rfl⟩
  have hrv : s₁.heap.IsCell rc (some v) := by
    have := hcell "row" rc hrc
    have e : bindC env.kindOf [("row", v)] (fun _ => none) "row" = some v := by rw [henv]; rfl
    rw [e] at this; exact this
  have hnv := hcell "number" nc hnc
  have hkv := hcell "kept" kc hkc
  have hrn := (hcnew "row" rc hrc).1
  have hnn := (hcnew "number" nc hnc).1
  have hkn := (hcnew "kept" kc hkc).1
  have hcL : ∀ n c, env.cells.lookup n = some c → c ≠ env.locals := fun n c q => (hcnew n c q).2
  have hne1 : rc ≠ nc := by rw [erc, enc]; exact Nat.ne_of_lt (Nat.lt_succ_self _)
  have hne2 : rc ≠ kc := by rw [erc, ekc]; exact Nat.ne_of_lt (Nat.lt_add_of_pos_right (n := s.heap.objs.size + 1) (by decide : 0 < 2))
  have hne3 : nc ≠ kc := by rw [enc, ekc]; exact Nat.ne_of_lt (Nat.lt_succ_self _)
  generalize bindC env.kindOf [("row", v)] (fun _ => none) "number" = o1 at hnv
  generalize bindC env.kindOf [("row", v)] (fun _ => none) "kept" = o2 at hkv
  generalize bindL env.kindOf [("row", v)] (fun _ => none) = m at hn
  obtain ⟨oL, esL, epL, hoL, _⟩ := id hn
  have ow0 : Own W (env.locals :: W) s.heap := (Own.refl W _).cons hL
  have owF : Own Fr (env.locals :: Fr) s.heap := (Own.refl Fr _).cons hL
  have C1 : Cx (K1 w.params) (A.deeper env) (env.locals :: Fr) (env.locals :: W) s₁ := C.inn go₁ ow0 (Live.cons hoL (go₁.live C.lv)) hk hf (.head _) hn
  -- due = []
  refine wpAny_execs_cons (wpAny_Assign_Name (list0 (Fr := env.locals :: Fr) C1.lv fun D s₂ g₂ hD dl₂ _ => ?_))
  refine st_local (g₂.ns hn) hk (by rw [henv]; rfl) fun s₃ sm₃ hn₃ hs₃ => ?_
  have hDs : s.heap.get? D = none := go₁.fresh hD
  have hDcell : ∀ c o, s₁.heap.IsCell c o → D ≠ c := by
    rintro c o ⟨ob, q, _⟩ rfl
    rw [hD] at q; cases q
  have hDr := hDcell rc _ hrv
  have hDn := hDcell nc _ hnv
  have hDk := hDcell kc _ hkv
  have hDL : D ≠ env.locals := fun z => by rw [z, hoL] at hD; cases hD
  have go₂ : Go Fr s s₂ := go₁.step g₂ owF
  have go₃ : Go Fr s s₃ := go₂.but sm₃ hs₃.extBut hL
  have hrv₃ : s₃.heap.IsCell rc (some v) := cell_but (g₂.isCell hrv) hs₃.extBut (hcL _ _ hrc)
  have hnv₃ : s₃.heap.IsCell nc o1 := cell_but (g₂.isCell hnv) hs₃.extBut (hcL _ _ hnc)
  have hkv₃ : s₃.heap.IsCell kc o2 := cell_but (g₂.isCell hkv) hs₃.extBut (hcL _ _ hkc)
  have dl₃ : DL s₃.heap D [] := dl₂.but hs₃.extBut hDL
  obtain ⟨oL3, _, _, hoL3, _⟩ := id hn₃
  have C3 : Cx (K1 w.params) (A.deeper env) (env.locals :: Fr) (env.locals :: W) s₃ := C.inn go₃ ow0 (Live.cons hoL3 (go₃.live C.lv)) hk hf (.head _) hn₃
  -- for number in range(2 ** len(row))
  refine wpAny_execs_cons (wpAny_For (callT1 (fun h' => nm_builtin C3.gr hg hb hk (by rw [henv]; rfl) (by rfl) boot_range (by decide) h') rfl ?_))
  refine wpAny_BinOp (wpAny_Constant_int ?_)
  refine callB1 (fun h' => nm_builtin (s := { s₃ with toks := _ }) C3.gr hg hb hk (by rw [henv]; rfl) (by rfl) boot_len (by decide) h') rfl ?_
  refine nm_cell (s := { s₃ with toks := _ }) hk (by rw [henv]; rfl) hrc hrv₃ ?_
  refine op_len (s := { s₃ with toks := _ }) (W := env.locals :: W) (Fr := env.locals :: Fr) (r.mono (go₃.see' C.sub ow0)) (by simp; omega) fun t₄ s₄ g₄ => ?_
  rw [List.length_map]
  refine pow_int (by omega) (by rw [bits2]; omega) ?_
  have epow : ((2 : Int) ^ ((ns.length : Int).toNat)) = ((2 ^ ns.length : Nat) : Int) := by simp
  rw [epow]
  have hpow : 2 ^ ns.length ≤ 256 := by
    have := Nat.pow_le_pow_right (n := 2) (by decide) hlen
    simpa using this
  refine op_range (Fr := env.locals :: Fr) fun rg s₅ t' u' v' g₅ hrg hR => ?_
  refine iter_range hR (by omega) fun I s₆ sm₆ ex₆ hI hit => ?_
  have g35 : Go (env.locals :: Fr) s₃ s₅ := ((Go.of (Sm.toks s₃ (s₃.toks + 1)) (Ext.refl _)).trans (g₄.trans (Go.of (Sm.toks s₄ (s₄.toks + 1)) (Ext.refl _)))).trans g₅
  have g36 : Go (env.locals :: Fr) s₃ s₆ := g35.trans (.of sm₆ ex₆)
  have go₆ : Go Fr s s₆ := go₃.step g36 owF
  have hI3 : s₃.heap.get? I = none := g35.fresh hI
  have hIs : s.heap.get? I = none := go₃.fresh hI3
  have hIF : I ∉ env.locals :: Fr := fun q => C3.lv.not hI3 (C3.sub _ q)
  have hcIr := cell_ne_riter hit (g36.isCell hrv₃)
  have hcIn := cell_ne_riter hit (g36.isCell hnv₃)
  have hcIk := cell_ne_riter hit (g36.isCell hkv₃)
  have hDI := dl_ne_riter hit (g36.dl dl₃)
  have hLI := ns_ne_riter hit (g36.ns hn₃)
  have ow : Own W (D :: I :: nc :: kc :: env.locals :: W) s.heap := (((ow0.cons hkn).cons hnn).cons hIs).cons hDs
  have cx : ∀ s', Go Fr s s' → (∃ vs, DL s'.heap D vs) → (∃ o, s'.heap.get? I = some o) → (∃ o, s'.heap.IsCell nc o) → (∃ o, s'.heap.IsCell kc o) → (∃ m, s'.heap.Ns env.locals m) → Cx (K1 w.params) (A.deeper env) (env.locals :: Fr) (D :: I :: nc :: kc :: env.locals :: W) s' :=
    fun s' g ⟨_, o1, _, q1, _⟩ ⟨o2, q2⟩ ⟨_, o3, q3, _⟩ ⟨_, o4, q4, _⟩ ⟨m, q⟩ => by
    obtain ⟨o, es, ep, q5, _⟩ := id q
    exact C.inn g ow (Live.cons q1 (Live.cons q2 (Live.cons q3 (Live.cons q4 (Live.cons q5 (g.live C.lv)))))) hk hf (by simp) q
  have rr : ∀ s', Go Fr s s' → Rd (V (D :: I :: nc :: kc :: env.locals :: W) s'.heap) v (IL ns) := fun s' g => r.mono (g.see' C.sub ow)
  refine for_walkC (Walks.range (A := A.deeper env) hh I 0 1 (2 ^ ns.length)) (fun i s' => Go Fr s s' ∧ IsRangeIter s'.heap I (0 + (i : Nat) * 1) (((2 ^ ns.length : Nat) : Int) - (i : Nat)) 1 ∧ (∃ m, s'.heap.Ns env.locals m ∧ m "due" = some (.ref D)) ∧ s'.heap.IsCell rc (some v) ∧ (∃ o, s'.heap.IsCell nc o) ∧ (∃ o, s'.heap.IsCell kc o) ∧
      ∃ vs, DL s'.heap D vs ∧ RdAll (V (D :: I :: nc :: kc :: env.locals :: W) s'.heap) vs ((leftTo ns i).map IL)) hk (by rw [henv]; rfl) hnc hcIn (by simpa using hcIn) ?_ ?_ ?_ ?_
  · rintro i s' ⟨h1, h2, h3, h4, h5, h6, h7⟩
    exact ⟨h2, h5⟩
  · rintro N x s' s'' ⟨h1, h2, ⟨m', h3, hdue⟩, h4, h5, ⟨ok, h6⟩, vs, h7, h8⟩ hi ⟨tx, rfl⟩ sm st hcx hkeep
    have ei : (0 : Int) + (N : Int) * 1 = N := by omega
    rw [ei] at hcx
    have go : Go Fr s s'' := h1.but2 sm hkeep hIs hnn
    have hn' : s''.heap.Ns env.locals m' := by
      obtain ⟨o, es, ep, q, z⟩ := h3
      exact ⟨o, es, ep, hkeep _ _ hLI (Ne.symm (hcL _ _ hnc)) q, z⟩
    have hrv' := cell_but2 h4 hkeep hcIr hne1
    have hkv' := cell_but2 h6 hkeep hcIk (Ne.symm hne3)
    have dl' : DL s''.heap D vs := h7.at fun o q => hkeep _ _ hDI hDn q
    have h8' : RdAll (V (D :: I :: nc :: kc :: env.locals :: W) s''.heap) vs ((leftTo ns N).map IL) := h8.mono (V_ext fun b o hb q => hkeep b o (fun z => hb (by simp [z])) (fun z => hb (by simp [z])) q)
    have CX := cx s'' go ⟨_, dl'⟩ ⟨_, st⟩ ⟨_, hcx⟩ ⟨_, hkv'⟩ ⟨_, hn'⟩
    -- kept = [...]
    refine wpAny_execs_cons (wpAny_Assign_Name (comp1 (ds := RG ns.length) (cl := [("number", nc)]) (fun d => match d with | .int i => decide (Builtin.bitAnd ((N : Int).fdiv (2 ^ i.toNat)) 1 = 1) | _ => false) (fun d => d) CX hh ?_ rfl (by decide) (by decide) (by decide) (by simp; omega) ?_) (hs := by rw [henv]; rfl))
    · rw [henv, enc]; rfl
    refine callT1 (fun h' => nm_builtin CX.gr hg hb hk (by rw [henv]; rfl) (by rfl) boot_range (by decide) h') rfl ?_
    refine callB1 (fun h' => nm_builtin CX.gr hg hb hk (by rw [henv]; rfl) (by rfl) boot_len (by decide) h') rfl ?_
    refine nm_cell hk (by rw [henv]; rfl) hrc hrv' ?_
    refine op_len (W := D :: I :: nc :: kc :: env.locals :: W) (Fr := env.locals :: Fr) (rr s'' go) (by simp; omega) fun t₇ s₇ g₇ => ?_
    rw [List.length_map]
    refine op_range (Fr := env.locals :: Fr) fun rg2 s₈ t' u' v' g₈ hrg2 hR2 => ⟨g₇.trans g₈, ?_⟩
    have g78 := g₇.trans g₈
    have CX8 := CX.go g78
    refine src_range hh CX8 hR2 (by omega) fun I2 s₉ hS => ⟨I2, rfl, hS, ?_, ?_, ?_⟩
    · intro Cc W2 s' m' v' d j E' hd g ow' cx' hn'' hm' hv'
      obtain ⟨rfl, hj⟩ := RG_get hd
      obtain ⟨tj, rfl⟩ := hv'.int_inv
      have gg : Go (env.locals :: Fr) s'' s' := g78.trans g
      refine wpAny_tests_one (wpAny_isTrue_Compare1 (wpAny_BinOp (wpAny_BinOp ?_)))
      refine nm_cell (by rfl) (by rw [henv]; rfl) (c := nc) (by rfl) (gg.isCell hcx) ?_
      refine nm_local hn'' (by rfl) (by rw [henv]; rfl) hm' ?_
      refine rshift_int (by omega) (wpAny_Constant_int (and_int (wpAny_Constant_int (eq_int (wpAny_truthy_bool ⟨.of ⟨_, _, rfl⟩ (Ext.refl _), ?_⟩)))))
      rw [Bool.eq_iff_iff]; simp
    · intro Cc W2 s' m' v' d j E' hd _ g ow' cx' hn'' hm' hv'
      exact nm_local hn'' (by rfl) (by rw [henv]; rfl) hm' ⟨Go.refl _ _, hv'⟩
    · intro KL s₁₀ g₁₀ hKL rl
      have ekl : ((RG ns.length).filter (fun d => match d with | .int i => decide (Builtin.bitAnd ((N : Int).fdiv (2 ^ i.toNat)) 1 = 1) | _ => false)).map (fun d => d) = IN (keptL ns.length N) := by rw [RG_fm]; rfl
      rw [ekl] at rl
      have g10 : Go (env.locals :: Fr) s'' s₁₀ := g78.trans g₁₀
      have go₁₀ : Go Fr s s₁₀ := go.step g10 owF
      refine st_cell hk (by rw [henv]; rfl) hkc (g10.isCell hkv') fun s₁₁ sm₁₁ hkv₁₁ hs₁₁ => ?_
      have go₁₁ : Go Fr s s₁₁ := go₁₀.but sm₁₁ hs₁₁.extBut hkn
      have hn₁₁ : s₁₁.heap.Ns env.locals m' := (g10.ns hn').sameBut hs₁₁ (Ne.symm (hcL _ _ hkc))
      have hrv₁₁ : s₁₁.heap.IsCell rc (some v) := cell_but (g10.isCell hrv') hs₁₁.extBut hne2
      have hnv₁₁ : s₁₁.heap.IsCell nc (some (.int (N : Int) tx)) := cell_but (g10.isCell hcx) hs₁₁.extBut hne3
      have dl₁₁ : DL s₁₁.heap D vs := (g10.dl dl').but hs₁₁.extBut hDk
      have it₁₁ : IsRangeIter s₁₁.heap I _ _ _ := hs₁₁.extBut _ _ (Ne.symm hcIk) (g10.riter hIF st)
      have CX11 := cx s₁₁ go₁₁ ⟨_, dl₁₁⟩ ⟨_, it₁₁⟩ ⟨_, hnv₁₁⟩ ⟨_, hkv₁₁⟩ ⟨_, hn₁₁⟩
      have rKL : Rd (V (D :: I :: nc :: kc :: env.locals :: W) s₁₁.heap) (.ref KL) (.list (IN (keptL ns.length N))) := rl.rd.mono (V_same hs₁₁ (by simp))
      have h8₁₁ : RdAll (V (D :: I :: nc :: kc :: env.locals :: W) s₁₁.heap) vs ((leftTo ns N).map IL) := (h8'.mono (g10.see CX.sub)).mono (V_same hs₁₁ (by simp))
      have hkl : (keptL ns.length N).length ≤ ns.length := by unfold keptL; exact Nat.le_trans (List.length_filter_le _ _) (by simp)
      have hVi : ∀ Cc, Var (compEnvO { kind := .function, names := [(".0", .local), ("k", .cell), ("i", .cell), ("range", .globalImplicit), ("kept", .free), ("row", .free)], isGenerator := false, isCoroutine := false } [("row", rc), ("kept", kc)] Cc env) (ownC { kind := .function, names := [(".0", .local), ("k", .cell), ("i", .cell), ("range", .globalImplicit), ("kept", .free), ("row", .free)], isGenerator := false, isCoroutine := false } Cc) "i" := fun Cc => .inr ⟨by rw [henv]; rfl, Cc + 1 + 1, by show _ ∈ [(("i" : Str), Cc + 1 + 1), (("k" : Str), Cc + 1)]; simp, rfl⟩
      have hVk : ∀ Cc, Var (compEnvO { kind := .function, names := [(".0", .local), ("k", .cell), ("i", .cell), ("range", .globalImplicit), ("kept", .free), ("row", .free)], isGenerator := false, isCoroutine := false } [("row", rc), ("kept", kc)] Cc env) (ownC { kind := .function, names := [(".0", .local), ("k", .cell), ("i", .cell), ("range", .globalImplicit), ("kept", .free), ("row", .free)], isGenerator := false, isCoroutine := false } Cc) "k" := fun Cc => .inr ⟨by rw [henv]; rfl, Cc + 1, by show _ ∈ [(("i" : Str), Cc + 1 + 1), (("k" : Str), Cc + 1)]; simp, rfl⟩
      -- late = [...]
      refine wpAny_execs_cons (comp2S (m := m') (ds := IN (keptL ns.length N)) (cl := [("row", rc), ("kept", kc)]) (fun _ => true) (fun d => match d with | .int k => RG k.toNat | _ => []) (fun d d' => match d, d' with | .int k, .int i => lateT ns (keptL ns.length N) k i | _, _ => false) (fun _ d' => d') (by rw [henv]; rfl) hk (by rw [henv]; rfl) hn₁₁ (by simp) (.head _) CX11 hh ?_ rfl (by decide)
        (fun Cc => by show ([("i" : Str), "k"]).Nodup; decide) hVk hVi (by decide) (by simp only [List.length_map]; omega) ?_ ?_)
      · rw [henv, erc, ekc]; rfl
      · intro d hd
        obtain ⟨k, hk', rfl⟩ := List.mem_map.mp hd
        have := kept_lt hk'
        show (RG _).length ≤ 1000
        rw [List.length_map, List.length_range]
        show k ≤ 1000
        omega
      refine nm_cell hk (by rw [henv]; rfl) hkc hkv₁₁ ⟨Go.refl _ _, src_list hh CX11 rKL fun I2 s₁₂ hS => ⟨I2, rfl, hS, ?_, ?_, ?_, ?_, ?_⟩⟩
      · intro Cc W2 s' m' v' d j E' hd g ow' cx' vs hm' hv'
        exact wpAny_tests_nil ⟨Go.refl _ _, rfl⟩
      · intro Cc W2 s' m' v' d j E' hd _ g ow' cx' vs hm' hv'
        obtain ⟨k, rfl, hkm⟩ := IN_get hd
        have hkn := kept_lt hkm
        obtain ⟨tk, rfl⟩ := hv'.int_inv
        refine callT1 (fun h' => nm_builtin cx'.gr (show (compEnvO _ _ _ env).globals = _ from hg) (show (compEnvO _ _ _ env).builtins = _ from hb) rfl (by rw [henv]; rfl) (by rfl) boot_range (by decide) h') rfl ?_
        refine nm_var rfl (hVk Cc) vs hm' ?_
        refine op_range (Fr := env.locals :: Fr) fun rg s₁₃ t' u' v' g₁₃ hrg hR => ⟨g₁₃, ?_⟩
        exact src_range hh (cx'.go g₁₃) hR (by omega) fun I3 s₁₄ hS => ⟨I3, rfl, hS⟩
      · intro Cc W2 s' m' v' u' d d' a b E' hd _ hd' g ow' cx' vs hmk hmi hv' hu''
        obtain ⟨k, rfl, hkm⟩ := IN_get hd
        have hkn := kept_lt hkm
        obtain ⟨tk, rfl⟩ := hv'.int_inv
        obtain ⟨rfl, hb'⟩ := RG_get (n := k) hd'
        obtain ⟨ti, rfl⟩ := hu''.int_inv
        have gg : Go (env.locals :: Fr) s₁₁ s' := g
        have rrow : Rd (V W2 s'.heap) v (IL ns) := (rr s₁₁ go₁₁).mono (g.see' CX11.sub ow')
        have rkept : Rd (V W2 s'.heap) (.ref KL) (.list (IN (keptL ns.length N))) := rKL.mono (g.see' CX11.sub ow')
        refine wpAny_tests_one (isTrue_and (wpAny_isTrue_Compare1 ?_))
        refine sub_item (W := W2) (fun _ _ => ⟨_, rfl⟩) (nm_cell (by rfl) (by rw [henv]; rfl) (c := rc) (by rfl) (gg.isCell hrv₁₁) ?_)
        refine nm_var rfl (hVi Cc) vs hmi ⟨b, ti, _, _, rfl, rrow, by simp; omega, map_getD (j := b) (by omega), fun y1 hy1 => ?_⟩
        obtain ⟨t1, rfl⟩ := hy1.int_inv
        refine sub_item (W := W2) (fun _ _ => ⟨_, rfl⟩) (nm_cell (by rfl) (by rw [henv]; rfl) (c := rc) (by rfl) (gg.isCell hrv₁₁) ?_)
        refine nm_var rfl (hVk Cc) vs hmk ⟨k, tk, _, _, rfl, rrow, by simp; omega, map_getD (j := k) (by omega), fun y2 hy2 => ?_⟩
        obtain ⟨t2, rfl⟩ := hy2.int_inv
        refine eq_int (wpAny_truthy_bool ?_)
        have elate : lateT ns (keptL ns.length N) (k : Int) (b : Int) = (decide (ns.getD b 0 = ns.getD k 0) && decide (((keptL ns.length N).filter fun (j : Nat) => decide ((b : Int) ≤ (j : Int)) && decide ((j : Int) < (k : Int))) = [])) := rfl
        by_cases hq : ns.getD b 0 = ns.getD k 0
        · rw [if_pos (by simpa using hq)]
          refine isTrue_and (wpAny_isTrue_Compare1 ?_)
          have hci : s'.heap.IsCell (Cc + 1 + 1) (some (.int (b : Int) ti)) := by
            have := vs.cl "i" (Cc + 1 + 1) (by show _ ∈ [(("i" : Str), Cc + 1 + 1), (("k" : Str), Cc + 1)]; simp)
            rw [hmi] at this; exact this
          have hck : s'.heap.IsCell (Cc + 1) (some (.int (k : Int) tk)) := by
            have := vs.cl "k" (Cc + 1) (by show _ ∈ [(("i" : Str), Cc + 1 + 1), (("k" : Str), Cc + 1)]; simp)
            rw [hmk] at this; exact this
          refine comp1 (ds := IN (keptL ns.length N)) (cl := [("k", Cc + 1), ("i", Cc + 1 + 1)]) (fun d => match d with | .int j => decide ((b : Int) ≤ j) && decide (j < (k : Int)) | _ => false) (fun d => d) cx' hh ?_ rfl (by decide) (by decide) (by decide) (by simp only [List.length_map]; omega) ?_
          · rw [henv]; rfl
          refine nm_cell (by rfl) (by rw [henv]; rfl) (c := kc) (by rfl) (gg.isCell hkv₁₁) ⟨Go.refl _ _, src_list hh cx' rkept fun I3 s₁₃ hS => ⟨I3, rfl, hS, ?_, ?_, ?_⟩⟩
          · intro Cc2 W3 s2 m2 v2 d2 j2 E2 hd2 g2 ow2 cx2 hn2 hm2 hv2
            obtain ⟨j, rfl, hjm⟩ := IN_get hd2
            obtain ⟨tj, rfl⟩ := hv2.int_inv
            refine wpAny_tests_one (isTrue_chain (nm_cell (by rfl) (by rw [henv]; rfl) (c := Cc + 1 + 1) (by rfl) (g2.isCell hci) ?_))
            refine test_link (nm_local hn2 (by rfl) (by rw [henv]; rfl) hm2 (le_int (wpAny_truthy_bool ?_)))
            by_cases hle : (b : Int) ≤ (j : Int)
            · rw [if_pos (by simpa using hle)]
              refine test_last (nm_cell (by rfl) (by rw [henv]; rfl) (c := Cc + 1) (by rfl) (g2.isCell hck) (lt_int (wpAny_truthy_bool ⟨Go.refl _ _, ?_⟩)))
              simp [hle]
            · rw [if_neg (by simpa using hle)]
              exact ⟨Go.refl _ _, by simp [hle]⟩
          · intro Cc2 W3 s2 m2 v2 d2 j2 E2 hd2 _ g2 ow2 cx2 hn2 hm2 hv2
            exact nm_local hn2 (by rfl) (by rw [henv]; rfl) hm2 ⟨Go.refl _ _, hv2⟩
          · intro D2 s₁₄ g₁₄ hD2 rl2
            have e2 : ((IN (keptL ns.length N)).filter (fun d => match d with | .int j => decide ((b : Int) ≤ j) && decide (j < (k : Int)) | _ => false)).map (fun d => d) = IN ((keptL ns.length N).filter fun (j : Nat) => decide ((b : Int) ≤ (j : Int)) && decide ((j : Int) < (k : Int))) := by rw [IN_fm]
            rw [e2] at rl2
            have cx14 := cx'.go g₁₄
            refine list0 (Fr := env.locals :: Fr) cx14.lv fun E0 s₁₅ g₁₅ hE0 _ rl0 => ?_
            obtain ⟨as1, ra1⟩ := (rl2.rd.mono (g₁₅.see cx14.sub)).mono V_le
            obtain ⟨as2, ra2⟩ := rl0.rd.mono V_le
            refine SeqAt.compareEq_reads ra1 ra2 (lay_IN _) (lay_IN []) (by rw [depth_IN]; show A.units + 3 + min 1 _ < cLine; omega) (wpAny_truthy_bool ?_)
            rw [eqv_IN_nil]
            have hfin : ∀ bb : Bool, lateT ns (keptL ns.length N) (k : Int) (b : Int) = bb → (Go (env.locals :: Fr) s' s₁₅ ∧ bb = lateT ns (keptL ns.length N) (k : Int) (b : Int)) := fun bb q => ⟨g₁₄.trans g₁₅, q.symm⟩
            by_cases hemp : ((keptL ns.length N).filter fun (j : Nat) => decide ((b : Int) ≤ (j : Int)) && decide ((j : Int) < (k : Int))) = []
            · rw [if_pos (by simpa using hemp)]
              exact isTrue_and_nil (hfin true (by rw [elate]; simp only [hq, hemp, decide_true, Bool.and_self]))
            · rw [if_neg (by simpa using hemp)]
              exact hfin false (by rw [elate]; simp only [hemp, decide_false, Bool.and_false])
        · rw [if_neg (by simpa using hq)]
          exact ⟨Go.refl _ _, by show false = lateT ns (keptL ns.length N) (k : Int) (b : Int); rw [elate]; simp only [hq, decide_false, Bool.false_and]⟩
      · intro Cc W2 s' m' v' u' d d' a b E' hd _ hd' _ g ow' cx' vs hmk hmi hv' hu''
        exact nm_var rfl (hVi Cc) vs hmi ⟨Go.refl _ _, hu''⟩
      · intro LT s₁₂ s₁₃ g₁₂ hLT rl₁₂ sm₁₃ hn₁₃ hs₁₃
        have elt := late_eq ns (keptL ns.length N) (fun d => match d with | .int k => RG k.toNat | _ => []) (fun d d' => match d, d' with | .int k, .int i => lateT ns (keptL ns.length N) k i | _, _ => false) (fun _ => rfl) (fun _ _ => rfl)
        rw [elt] at rl₁₂
        have go₁₂ : Go Fr s s₁₂ := go₁₁.step g₁₂ owF
        have go₁₃ : Go Fr s s₁₃ := go₁₂.but sm₁₃ hs₁₃.extBut hL
        have hrv₁₃ : s₁₃.heap.IsCell rc (some v) := cell_but (g₁₂.isCell hrv₁₁) hs₁₃.extBut (hcL _ _ hrc)
        have hnv₁₃ : s₁₃.heap.IsCell nc (some (.int (N : Int) tx)) := cell_but (g₁₂.isCell hnv₁₁) hs₁₃.extBut (hcL _ _ hnc)
        have hkv₁₃ : s₁₃.heap.IsCell kc (some (.ref KL)) := cell_but (g₁₂.isCell hkv₁₁) hs₁₃.extBut (hcL _ _ hkc)
        have dl₁₃ : DL s₁₃.heap D vs := (g₁₂.dl dl₁₁).but hs₁₃.extBut hDL
        have it₁₃ : IsRangeIter s₁₃.heap I _ _ _ := hs₁₃.extBut _ _ (Ne.symm hLI) (g₁₂.riter hIF it₁₁)
        have CX13 := cx s₁₃ go₁₃ ⟨_, dl₁₃⟩ ⟨_, it₁₃⟩ ⟨_, hnv₁₃⟩ ⟨_, hkv₁₃⟩ ⟨_, hn₁₃⟩
        have e13 : Ext (V (D :: I :: nc :: kc :: env.locals :: W) s₁₂.heap) (V (D :: I :: nc :: kc :: env.locals :: W) s₁₃.heap) := V_same hs₁₃ (by simp)
        have rKL₁₃ := (rKL.mono (g₁₂.see CX11.sub)).mono e13
        have rLT := rl₁₂.rd.mono e13
        have h8₁₃ := (h8₁₁.mono (g₁₂.see CX11.sub)).mono e13
        -- if late == []
        refine wpAny_execs_cons (wpAny_If (wpAny_isTrue_Compare1 (nm_local hn₁₃ hk (by rw [henv]; rfl) (v := .ref LT) (by rfl) ?_)))
        refine list0 (Fr := env.locals :: Fr) CX13.lv fun E0 s₁₄ g₁₄ hE0 _ rl0 => ?_
        obtain ⟨as1, ra1⟩ := (rLT.mono (g₁₄.see CX13.sub)).mono V_le
        obtain ⟨as2, ra2⟩ := rl0.rd.mono V_le
        refine SeqAt.compareEq_reads ra1 ra2 (lay_IN _) (lay_IN []) (by rw [depth_IN]; show A.units + 3 + min 1 _ < cLine; omega) (wpAny_truthy_bool ?_)
        rw [eqv_IN_nil]
        have go₁₄ : Go Fr s s₁₄ := go₁₃.step g₁₄ owF
        have hn₁₄ := g₁₄.ns hn₁₃
        have dl₁₄ := g₁₄.dl dl₁₃
        have CX14 := CX13.go g₁₄
        have h8₁₄ := h8₁₃.mono (g₁₄.see CX13.sub)
        by_cases hok : lateL ns (keptL ns.length N) = []
        · rw [if_pos (by simpa using hok)]
          have hokN : okN ns N = true := by unfold okN; simpa using hok
          refine wpAny_execs_cons (wpAny_Expr (meth1 F.plainAttrs_list slot_list_append (by exact F.type_list_append) rfl rfl rfl (nm_local hn₁₄ hk (by rw [henv]; rfl) (v := .ref D) hdue ⟨dl₁₄.isList.typeIs, dl₁₄.noDict, ?_⟩)) (hi := by unfold interactive; rw [hk]; rfl))
          refine comp1 (ds := IN (keptL ns.length N)) (cl := [("row", rc)]) (fun _ => true) (fun d => match d with | .int i => .int (ns.getD i.toNat 0) | d => d) CX14 hh ?_ rfl (by decide) (by decide) (by decide) (by simp only [List.length_map]; omega) ?_
          · rw [henv, erc]; rfl
          refine nm_cell hk (by rw [henv]; rfl) hkc (g₁₄.isCell hkv₁₃) ⟨Go.refl _ _, src_list hh CX14 (rKL₁₃.mono (g₁₄.see CX13.sub)) fun I3 s₁₅ hS => ⟨I3, rfl, hS, ?_, ?_, ?_⟩⟩
          · intro Cc2 W3 s2 m2 v2 d2 j2 E2 hd2 g2 ow2 cx2 hn2 hm2 hv2
            exact wpAny_tests_nil ⟨Go.refl _ _, rfl⟩
          · intro Cc2 W3 s2 m2 v2 d2 j2 E2 hd2 _ g2 ow2 cx2 hn2 hm2 hv2
            obtain ⟨j, rfl, hjm⟩ := IN_get hd2
            have hjn := kept_lt hjm
            obtain ⟨tj, rfl⟩ := hv2.int_inv
            refine sub_item (W := W3) (fun _ _ => ⟨_, rfl⟩) (nm_cell (by rfl) (by rw [henv]; rfl) (c := rc) (by rfl) ((g₁₄.trans g2).isCell hrv₁₃) ?_)
            refine nm_local hn2 (by rfl) (by rw [henv]; rfl) hm2 ⟨j, tj, _, _, rfl, ((rr s₁₄ go₁₄).mono (g2.see' CX14.sub ow2)), by simp; omega, map_getD (j := j) (by omega), fun y1 hy1 => ⟨Go.refl _ _, hy1⟩⟩
          · intro D2 s₁₅ g₁₅ hD2 rl2
            have e2 : ((IN (keptL ns.length N)).filter fun _ => true).map (fun d => match d with | .int i => PyData.int (ns.getD i.toNat 0) | d => d) = (rowN ns N).map PyData.int := by
              rw [IN_fm, List.filter_eq_self.mpr fun _ _ => rfl]; unfold rowN; rw [List.map_map]; rfl
            rw [e2] at rl2
            have dl₁₅ := g₁₅.dl dl₁₄
            have hvl : vs.length ≤ 256 := by
              rw [h8.length, List.length_map]
              unfold leftTo
              rw [List.length_map]
              exact Nat.le_trans (List.length_filter_le _ _) (by simp; omega)
            refine dl_append dl₁₅ (by omega) fun s₁₆ sm₁₆ dl₁₆ hs₁₆ => ?_
            have go₁₅ : Go Fr s s₁₅ := go₁₄.step g₁₅ owF
            have gx : Go (env.locals :: Fr) s₁₃ s₁₅ := g₁₄.trans g₁₅
            refine wpAny_execs_nil (wpAny_execs_nil ⟨go₁₅.but sm₁₆ hs₁₆.extBut hDs, ?_, ⟨_, (gx.ns hn₁₃).sameBut hs₁₆ (Ne.symm hDL), hdue⟩, ?_, ⟨_, cell_but (gx.isCell hnv₁₃) hs₁₆.extBut (Ne.symm hDn)⟩, ⟨_, cell_but (gx.isCell hkv₁₃) hs₁₆.extBut (Ne.symm hDk)⟩, _, dl₁₆, ?_⟩)
            · exact hs₁₆.extBut _ _ (Ne.symm hDI) (gx.riter hIF it₁₃)
            · exact cell_but (gx.isCell hrv₁₃) hs₁₆.extBut (Ne.symm hDr)
            · rw [leftTo_succ, hokN, if_pos rfl, List.map_append]
              exact ((h8₁₄.mono (g₁₅.see CX14.sub)).snoc rl2.rd).mono (V_same hs₁₆ (by simp))
        · rw [if_neg (by simpa using hok)]
          have hokN : okN ns N = false := by unfold okN; simpa using hok
          refine wpAny_execs_nil (wpAny_execs_nil ⟨go₁₄, g₁₄.riter hIF it₁₃, ⟨_, hn₁₄, hdue⟩, g₁₄.isCell hrv₁₃, ⟨_, g₁₄.isCell hnv₁₃⟩, ⟨_, g₁₄.isCell hkv₁₃⟩, _, dl₁₄, ?_⟩)
          rw [leftTo_succ, hokN]
          simpa using h8₁₄
  · rintro s' s'' ⟨h1, h2, ⟨m', h3, hdue⟩, h4, h5, h6, vs, h7, h8⟩ sm he
    have go : Go Fr s s'' := h1.but sm he hIs
    have dl' : DL s''.heap D vs := h7.but he hDI
    have hn' : s''.heap.Ns env.locals m' := by
      obtain ⟨o, es, ep, q, z⟩ := h3
      exact ⟨o, es, ep, he _ _ hLI q, z⟩
    have h8' : RdAll (V (D :: I :: nc :: kc :: env.locals :: W) s''.heap) vs ((leftTo ns (2 ^ ns.length)).map IL) := h8.mono (V_ext fun b o hb q => he b o (fun z => hb (by simp [z])) q)
    refine wpAny_execs_cons (wpAny_Return_some (nm_local hn' hk (by rw [henv]; rfl) hdue ⟨go, D, vs, rfl, dl'.see (C.lv.not hDs), h8'.mono (V_sub fun a ma => by simp [ma])⟩))
  · refine ⟨go₆, ?_, ⟨_, g36.ns hn₃, by rfl⟩, g36.isCell hrv₃, ⟨_, g36.isCell hnv₃⟩, ⟨_, g36.isCell hkv₃⟩, _, g36.dl dl₃, RdAll.nil⟩
    have e1 : (0 : Int) + ((0 : Nat) : Int) * 1 = 0 := by omega
    have e2 : ((2 ^ ns.length : Nat) : Int) - ((0 : Nat) : Int) = ((2 ^ ns.length : Nat) : Int) := by omega
    rw [e1, e2]; exact hit
end Mine
end

section

namespace Mine
theorem ddG_spec {α : Type} [DecidableEq α] : ∀ (xs acc : List α), acc.Nodup → (xs.foldl (fun acc x => if x ∈ acc then acc else acc ++ [x]) acc).Nodup ∧ ∀ y, y ∈ xs.foldl (fun acc x => if x ∈ acc then acc else acc ++ [x]) acc ↔ y ∈ acc ∨ y ∈ xs := by
  intro xs
  induction xs with
  | nil => intro acc h; simp [h]
  | cons x xs ih =>
    intro acc h
    simp only [List.foldl_cons]
    by_cases hx : x ∈ acc
    · simp only [hx, if_true]
      obtain ⟨h1, h2⟩ := ih acc h
      refine ⟨h1, fun y => (h2 y).trans ?_⟩
      simp only [List.mem_cons]
      constructor
      · rintro (q | q) <;> simp [q]
      · rintro (q | rfl | q)
        · exact .inl q
        · exact .inl hx
        · exact .inr q
    · simp only [hx, if_false]
      obtain ⟨h1, h2⟩ := ih (acc ++ [x]) (by
        rw [List.nodup_append]
        refine ⟨h, by simp, ?_⟩
        intro a ha b hb
        simp only [List.mem_singleton] at hb
        rintro rfl; exact hx (hb ▸ ha))
      refine ⟨h1, fun y => (h2 y).trans ?_⟩
      simp only [List.mem_append, List.mem_cons, List.mem_singleton, List.not_mem_nil, or_false]
      constructor
      · rintro ((q | q) | q) <;> simp [q]
      · rintro (q | q | q) <;> simp [q]
theorem ddG_nodup {α : Type} [DecidableEq α] (xs : List α) : (ddG xs).Nodup := (ddG_spec xs [] List.nodup_nil).1
theorem mem_ddG {α : Type} [DecidableEq α] {xs : List α} {y : α} : y ∈ ddG xs ↔ y ∈ xs := by
  have := (ddG_spec xs [] List.nodup_nil).2 y
  simpa [ddG] using this
theorem mem_more {rows : List (List Int)} {k : Int} {y : List Int} : y ∈ more rows k ↔ y ∈ rows ∨ ∃ z ∈ rows, y = z ++ [k] := by
  unfold more; rw [mem_ddG, List.mem_append, List.mem_map]
  constructor
  · rintro (h | ⟨z, h, rfl⟩)
    · exact .inl h
    · exact .inr ⟨z, h, rfl⟩
  · rintro (h | ⟨z, h, rfl⟩)
    · exact .inl h
    · exact .inr ⟨z, h, rfl⟩
def lefts (ns : List Int) : List (List Int) := ns.foldl more [[]]
def RowsOk (i : Nat) (x : List (List Int)) : Prop := [] ∈ x ∧ x.length ≤ 2 ^ i ∧ ∀ y ∈ x, y.length ≤ i
theorem rowsOk_more {i : Nat} {x : List (List Int)} (k : Int) (h : RowsOk i x) : RowsOk (i + 1) (more x k) := by
  refine ⟨mem_more.mpr (.inl h.1), ?_, fun y hy => ?_⟩
  · have := ddG_len (x ++ x.map (· ++ [k]))
    unfold more
    rw [List.length_append, List.length_map] at this
    have h2 := h.2.1
    rw [Nat.pow_succ]; omega
  · rcases mem_more.mp hy with q | ⟨z, q, rfl⟩
    · have := h.2.2 y q; omega
    · have := h.2.2 z q; simp; omega
theorem rowsOk_zero : RowsOk 0 [[]] := ⟨by simp, by simp, fun y hy => by simp at hy; simp [hy]⟩
theorem rowsOk_lefts (ns : List Int) : RowsOk ns.length (lefts ns) := by
  suffices ∀ (ns : List Int) (x : List (List Int)) (i : Nat), RowsOk i x → RowsOk (i + ns.length) (ns.foldl more x) by
    have := this ns [[]] 0 rowsOk_zero
    simpa [lefts] using this
  intro ns
  induction ns with
  | nil => intro x i h; simpa using h
  | cons k ns ih =>
    intro x i h
    have := ih (more x k) (i + 1) (rowsOk_more k h)
    simp only [List.foldl_cons, List.length_cons]
    rw [show i + (ns.length + 1) = i + 1 + ns.length by omega]; exact this
end Mine
end

section
open PySem PySem.W PyProof.Rows PySem.Calls
namespace Mine
def stepM (x : List (List Int)) (d : PyData) : List (List Int) := match d with | .int k => more x k | _ => x
theorem foldl_stepM (ns : List Int) (x : List (List Int)) : (ns.map PyData.int).foldl stepM x = ns.foldl more x := by
  rw [List.foldl_map]; rfl
variable {prog : Program} {w : World} {A : Around} {E : Value → Shared → Prop} {s : Shared}
theorem not37 {Fr W : List Addr} {a : Addr} {vs : List Value} (C : Cx (K1 w.params) A Fr W s) (h : DL s.heap a vs) : ∃ b o, Value.ref a = .ref b ∧ s.heap.get? b = some o ∧ b ≠ 37 ∧ o.cls ≠ .type "tuple" := by
  obtain ⟨o, n, h1, h2, _, h4⟩ := h
  refine ⟨a, o, rfl, h1, ?_, by rw [h2]; simp⟩
  rintro rfl
  have e := C.gr.X 37 _ (by rfl)
  rw [h1] at e
  cases e
  cases h4
theorem redMore {Fr W : List Addr} {sv v : Value} {ns : List Int} (C : Cx (K1 w.params) A Fr W s) (hh : A.handled = none) (hroom : A.depth + 10 < recursionLimit) (hu : A.units + 400 < cLine)
    (r : Rd (V W s.heap) sv (IL ns)) (hlen : ns.length ≤ 8) (rv : RL (V W s.heap) v [IL []]) :
    Ev (model prog w) A Fr (call (.ref 45) [.ref 50, sv, v]) s (fun u s' => Rd (V W s'.heap) u (.list ((lefts ns).map IL))) := by
  have hpow : ∀ i, i ≤ 8 → 2 ^ i ≤ 256 := fun i hi => by
    have := Nat.pow_le_pow_right (n := 2) (by decide) hi
    simpa using this
  have := reduceC (prog := prog) (w := w) (A := A) (s := s) (Fr := Fr) (W := W) (fv := .ref 50) (sv := sv) (v := v) (ds := ns.map .int) (fun h v (x : List (List Int)) => Rd h v (.list (x.map IL))) (fun h h' v x e q => q.mono e) RowsOk stepM (x₀ := [[]]) C hh hroom hu (by simp; omega)
    (by obtain ⟨a, vs, rfl, h1, h2⟩ := rv; exact not37 C (h1.ext V_le)) rv.rd rowsOk_zero
    (fun A' Fr' W' s' E' Q' hh' C' g ow h => src_list hh' C' (r.mono (g.see' C.sub ow)) h)
    (fun A' Fr' W' s' u x i d k hh' hd hu' C' g ow owF hi hok hdi hk => by
      have hil : i < ns.length := by
        have := (List.getElem?_eq_some_iff.mp hdi).1
        simpa using this
      rw [List.getElem?_map] at hdi
      obtain ⟨q, _, rfl⟩ := Option.map_eq_some_iff.mp hdi
      obtain ⟨t, rfl⟩ := hk.int_inv
      have hok' := rowsOk_more q hok
      obtain ⟨h1, h2, h3⟩ := hok
      have hpi := hpow i (by omega)
      cases x with
      | nil => cases h1
      | cons r0 rows =>
        refine wpAny_mono (lawMore C' hh' (by omega) (by omega) hi (by omega) fun y hy => by have := h3 y hy; omega) (fun u' s'' q => ⟨q.1, q.2, hok'⟩) fun _ _ f => f)
    (by
      have e := C.G.X 50 _ (by rfl)
      exact ⟨50, _, _, rfl, e, by rfl⟩)
  rw [foldl_stepM] at this
  exact this
theorem redKeys {Fr W : List Addr} {sv v : Value} {ns : List Int} (C : Cx (K1 w.params) A Fr W s) (hh : A.handled = none) (hroom : A.depth + 10 < recursionLimit) (hu : A.units + 400 < cLine)
    (r : Rd (V W s.heap) sv (IL ns)) (hlen : ns.length ≤ 8) (rv : RL (V W s.heap) v [TL []]) :
    Ev (model prog w) A Fr (call (.ref 45) [.ref 55, sv, v]) s (fun u s' => Rd (V W s'.heap) u (.list ((lefts ns).map TL))) := by
  have hpow : ∀ i, i ≤ 8 → 2 ^ i ≤ 256 := fun i hi => by
    have := Nat.pow_le_pow_right (n := 2) (by decide) hi
    simpa using this
  have := reduceC (prog := prog) (w := w) (A := A) (s := s) (Fr := Fr) (W := W) (fv := .ref 55) (sv := sv) (v := v) (ds := ns.map .int) (fun h v (x : List (List Int)) => Rd h v (.list (x.map TL))) (fun h h' v x e q => q.mono e) RowsOk stepM (x₀ := [[]]) C hh hroom hu (by simp; omega)
    (by obtain ⟨a, vs, rfl, h1, h2⟩ := rv; exact not37 C (h1.ext V_le)) rv.rd rowsOk_zero
    (fun A' Fr' W' s' E' Q' hh' C' g ow h => src_list hh' C' (r.mono (g.see' C.sub ow)) h)
    (fun A' Fr' W' s' u x i d k hh' hd hu' C' g ow owF hi hok hdi hk => by
      have hil : i < ns.length := by
        have := (List.getElem?_eq_some_iff.mp hdi).1
        simpa using this
      rw [List.getElem?_map] at hdi
      obtain ⟨q, _, rfl⟩ := Option.map_eq_some_iff.mp hdi
      obtain ⟨t, rfl⟩ := hk.int_inv
      have hok' := rowsOk_more q hok
      obtain ⟨h1, h2, h3⟩ := hok
      have hpi := hpow i (by omega)
      refine wpAny_mono (lawMoreKeys C' hh' (by omega) (by omega) hi (by omega) fun y hy => by have := h3 y hy; omega) (fun u' s'' q => ⟨q.1, q.2, hok'⟩) fun _ _ f => f)
    (by
      have e := C.G.X 55 _ (by rfl)
      exact ⟨55, _, _, rfl, e, by rfl⟩)
  rw [foldl_stepM] at this
  exact this
end Mine
end

section
open PySem PySem.W PyProof.Rows PySem.Calls
namespace Mine
def nums (ns : List Int) : List Int := ns.take 4 ++ dropI [1, 3] (ns.length : Int)
def rowOf (xs : List Int) : List Int := xs.map fun x => x.fmod 3
def otherOf (xs : List Int) : List Int := (xs.filter fun x => decide ((x.fdiv 3).fmod 4 < 3)).map fun x => (x.fdiv 3).fmod 4
theorem eqvAll_self {α : Type} (g : α → PyData) (hg : ∀ a, PyData.eqv (g a) (g a) = true) : ∀ l : List α, PyData.eqvAll (l.map g) (l.map g) = true
  | [] => rfl
  | a :: l => by simp [PyData.eqvAll, hg, eqvAll_self g hg l]
theorem eqv_rows_self (l : List (List Int)) : PyData.eqv (.list (l.map IL)) (.list (l.map IL)) = true := by
  rw [PyData.eqv]; exact eqvAll_self IL (fun a => by rw [eqv_IL]; simp) l
theorem eqv_keys_self (l : List (List Int)) : PyData.eqv (.list (l.map TL)) (.list (l.map TL)) = true := by
  rw [PyData.eqv]; exact eqvAll_self TL (fun a => by rw [eqv_TL]; simp) l
theorem lay_TLs (rows : List (List Int)) : PyData.canLayAll0 (rows.map TL) = true := by
  induction rows with
  | nil => rfl
  | cons a r ih => simp only [List.map_cons, PyData.canLayAll0, lay_TL, ih, Bool.and_self]
theorem depth_TLs (rows : List (List Int)) : PyData.depthAll (rows.map TL) ≤ 1 := by
  induction rows with
  | nil => simp [PyData.depthAll]
  | cons a r ih => simp only [List.map_cons, PyData.depthAll, depth_TL]; omega
theorem depth_ILL (rows : List (List Int)) : PyData.depth (.list (rows.map IL)) ≤ 2 := by
  have := depth_ILs rows; rw [PyData.depth]; omega
theorem depth_TLL (rows : List (List Int)) : PyData.depth (.list (rows.map TL)) ≤ 2 := by
  have := depth_TLs rows; rw [PyData.depth]; omega
theorem boot_tuple : bootBuiltins "tuple" = some (.type "tuple") := by decide +kernel
theorem nums_len (ns : List Int) : (nums ns).length ≤ 6 := by
  unfold nums
  rw [List.length_append, List.length_take]
  have : (dropI ([1, 3] : List Int) (ns.length : Int)).length ≤ 2 := by unfold dropI; split <;> simp
  omega

variable {prog : Program} {w : World} {A : Around} {E : Value → Shared → Prop} {s : Shared}
theorem go_toks {Fr : List Addr} {s s' : Shared} {t : Nat} (g : Go Fr { s with toks := t } s') : Go Fr s s' := (Go.of (Sm.toks s t) (Ext.refl _)).trans g
theorem dropI_map {α β : Type} (f : α → β) (xs : List α) (k : Int) : dropI (xs.map f) k = (dropI xs k).map f := by
  unfold dropI; split <;> simp [List.map_drop]
theorem isTrue_call {M : Model} {env : Env} {f : Expr} {as : List Expr} {ks : List Keyword} {pos : Pos} {Q : Bool → Shared → Prop} (h : wpAny M A (eval (.Call f as ks pos) env) (fun v s' => wpAny M A (truthy v) Q E s') E s) :
    wpAny M A (isTrue (.Call f as ks pos) env (eval (.Call f as ks pos) env)) Q E s := by
  show wpAny M A (do let v ← eval (.Call f as ks pos) env; standAt _; holding [v] (truthy v)) Q E s
  exact wpAny_bind (wpAny_mono h (fun v s' q => wpAny_bind (wpAny_standAt (wpAny_holding q))) fun _ _ e => e)
/-- [1, 3] -/
theorem list2c {M : Model} {env : Env} {Fr W : List Addr} {a b : Int} {k k' : Nat} {p q pos : Pos} {Q : Value → Shared → Prop} (lv : Live W s.heap)
    (h : ∀ l s', Go Fr s s' → RL (V W s'.heap) (.ref l) [.int a, .int b] → Q (.ref l) s') :
    wpAny M A (eval (.List [.Constant (.int a) k p, .Constant (.int b) k' q] pos) env) Q E s := by
  refine wpAny_List (wpAny_items_cons (wpAny_Constant_int (wpAny_items_cons (wpAny_Constant_int (wpAny_items_nil ⟨by rw [sizeLine_eq]; simp, ?_⟩)))))
  refine new_list (Fr := Fr) (W := W) (s := { s with toks := _ }) (xs := [.int a, .int b]) lv (RdAll.cons (Rd.int _ _) (RdAll.cons (Rd.int _ _) RdAll.nil)) fun l s' g _ _ rl => h l s' (go_toks g) rl
theorem op_tuple {Fr W : List Addr} {v : Value} {xs : List PyData} {Q : Value → Shared → Prop} (lv : Live W s.heap) (r : Rd (V W s.heap) v (.list xs)) (hlen : xs.length ≤ 1000000)
    (h : ∀ u s', Go Fr s s' → Rd (V W s'.heap) u (.tuple xs) → Q u s') : wpAny (model prog w) A (call (.type "tuple") [v]) Q E s := by
  obtain ⟨l, vs, rfl, hl, rs⟩ := r.list_inv
  refine call_tuple_list (IsList.ext V_le hl) (fun h' hk => ?_) (by have := rs.length; rw [sizeLine_eq]; simp; omega)
  have e0 := Ext.push h' { cls := .type "tuple", data := .seq vs.toArray }
  have hn : s.heap.get? h'.objs.size = none := Ext.fresh hk (push_none _)
  exact h _ _ (.of (Sm.heap s _) (Ext.trans hk e0)) (Rd.tuple_of (vs := vs) ⟨_, V_in (Heap.get?_push_size _ rfl) (lv.not hn), rfl, 0, rfl⟩ (rs.mono (V_mono (Ext.trans hk e0))))
theorem tuple0 {M : Model} {env : Env} {Fr W : List Addr} {n : Nat} {pos : Pos} {Q : Value → Shared → Prop} (lv : Live W s.heap)
    (h : ∀ v s', Go Fr s s' → Live W s'.heap → Rd (V W s'.heap) v (.tuple []) → Q v s') : wpAny M A (eval (.Tuple [] n pos) env) Q E s := by
  refine wpAny_Tuple (wpAny_items_nil ⟨by rw [sizeLine_eq]; simp, ?_⟩)
  have e0 := Ext.push s.heap { cls := .type "tuple", data := .seq ([] : List Value).toArray }
  exact h _ _ (.of (Sm.heap s _) e0) (lv.mono e0) (Rd.tuple_of (vs := []) ⟨_, V_in (Heap.get?_push_size _ rfl) (lv.not (push_none _)), rfl, 0, rfl⟩ RdAll.nil)
/-- reduce(_law_more, X, [[]]) -/
theorem evMore {env : Env} {Fr W : List Addr} {X : Expr} {p1 p2 p3 p4 p5 : Pos} {ns : List Int} {Q : Value → Shared → Prop} (C : Cx (K1 w.params) A Fr W s) (hk : env.scope.kind = .function) (hg : env.globals = mainGlobals) (hkr : env.kindOf "reduce" = some .globalImplicit) (hkm : env.kindOf "_law_more" = some .globalImplicit)
    (hh : A.handled = none) (hroom : A.depth + 10 < recursionLimit) (hu : A.units + 400 < cLine) (hlen : ns.length ≤ 8)
    (hst : starEach [.Name "_law_more" p2, X, .List [.List [] p3] p4] env = [(false, eval (.Name "_law_more" p2) env), (false, eval X env), (false, eval (.List [.List [] p3] p4) env)])
    (hX : Ev (model prog w) A Fr (eval X env) s (fun sv s' => Rd (V W s'.heap) sv (IL ns)))
    (hQ : ∀ u s', Go Fr s s' → Rd (V W s'.heap) u (.list ((lefts ns).map IL)) → Q u s') :
    wpAny (model prog w) A (eval (.Call (.Name "reduce" p1) [.Name "_law_more" p2, X, .List [.List [] p3] p4] [] p5) env) Q E s := by
  refine callDef3 (K := K1 w.params) (f := 45) (by rfl) (by rfl) (fun h' => nm_global C.gr hg hk hkr (by rfl) h') hst ?_
  refine nm_global C.gr hg hk hkm (by rfl) (v := .ref 50) (hX.use fun sv s₂ g₂ r₂ => ?_)
  have C2 := C.go g₂
  refine list1 (Fr := Fr) (W := W) rfl (list0 (Fr := Fr) C2.lv fun l₃ s₃ g₃ _ _ rl₃ => ⟨.list [], (C2.go g₃).lv, rl₃.rd, fun l₄ s₄ g₄ _ _ rl₄ => ?_⟩)
  have C4 := (C2.go g₃).go g₄
  exact ⟨C4.gr, (redMore C4 hh hroom hu (r₂.mono ((g₃.trans g₄).see C2.sub)) hlen rl₄).use fun u s₅ g₅ r₅ => hQ u s₅ (g₂.trans ((g₃.trans g₄).trans g₅)) r₅⟩
/-- reduce(_law_more_keys, X, [()]) -/
theorem evKeys {env : Env} {Fr W : List Addr} {X : Expr} {p1 p2 p3 p4 p5 : Pos} {k : Nat} {ns : List Int} {Q : Value → Shared → Prop} (C : Cx (K1 w.params) A Fr W s) (hk : env.scope.kind = .function) (hg : env.globals = mainGlobals) (hkr : env.kindOf "reduce" = some .globalImplicit) (hkm : env.kindOf "_law_more_keys" = some .globalImplicit)
    (hh : A.handled = none) (hroom : A.depth + 10 < recursionLimit) (hu : A.units + 400 < cLine) (hlen : ns.length ≤ 8)
    (hst : starEach [.Name "_law_more_keys" p2, X, .List [.Tuple [] k p3] p4] env = [(false, eval (.Name "_law_more_keys" p2) env), (false, eval X env), (false, eval (.List [.Tuple [] k p3] p4) env)])
    (hX : Ev (model prog w) A Fr (eval X env) s (fun sv s' => Rd (V W s'.heap) sv (IL ns)))
    (hQ : ∀ u s', Go Fr s s' → Rd (V W s'.heap) u (.list ((lefts ns).map TL)) → Q u s') :
    wpAny (model prog w) A (eval (.Call (.Name "reduce" p1) [.Name "_law_more_keys" p2, X, .List [.Tuple [] k p3] p4] [] p5) env) Q E s := by
  refine callDef3 (K := K1 w.params) (f := 45) (by rfl) (by rfl) (fun h' => nm_global C.gr hg hk hkr (by rfl) h') hst ?_
  refine nm_global C.gr hg hk hkm (by rfl) (v := .ref 55) (hX.use fun sv s₂ g₂ r₂ => ?_)
  have C2 := C.go g₂
  refine list1 (Fr := Fr) (W := W) rfl (tuple0 (Fr := Fr) C2.lv fun l₃ s₃ g₃ lv₃ rl₃ => ⟨.tuple [], lv₃, rl₃, fun l₄ s₄ g₄ _ _ rl₄ => ?_⟩)
  have C4 := (C2.go g₃).go g₄
  exact ⟨C4.gr, (redKeys C4 hh hroom hu (r₂.mono ((g₃.trans g₄).see C2.sub)) hlen rl₄).use fun u s₅ g₅ r₅ => hQ u s₅ (g₂.trans ((g₃.trans g₄).trans g₅)) r₅⟩
theorem rowOf_len (xs : List Int) : (rowOf xs).length = xs.length := by unfold rowOf; simp
theorem otherOf_len (xs : List Int) : (otherOf xs).length ≤ xs.length := by unfold otherOf; rw [List.length_map]; exact List.length_filter_le _ _
theorem lefts_len {ns : List Int} (h : ns.length ≤ 6) : (lefts ns).length ≤ 64 := by
  have h1 := (rowsOk_lefts ns).2.1
  have h2 := Nat.pow_le_pow_right (n := 2) (by decide) h
  simp at h2; omega
theorem lefts_row {ns : List Int} {y : List Int} (h : ns.length ≤ 6) (hy : y ∈ lefts ns) : y.length ≤ 6 := by
  have h1 := (rowsOk_lefts ns).2.2 y hy
  omega
set_option pp.proofs false in
theorem lawBody {Fr W : List Addr} {L fa : Addr} {cd v : Value} {ns : List Int} {s₁ : Shared} {o : Obj} {fd : FuncData} {body : List Stmt} {env : Env} {m : Str → Option Value}
    (C : Cx (K1 w.params) A Fr W s) (hh : A.handled = none) (hroom : A.depth + 20 < recursionLimit) (hu : A.units + 500 < cLine)
    (ho : (K1 w.params).lookup 84 = some o) (hdata : o.data = .func fd) (hbody : fd.body = .stmts body) (henv : env = envOf fd.name fd.scope L fa cd)
    (sm₁ : Sm s s₁) (ex₁ : Ext s.heap s₁.heap) (hn : s₁.heap.Ns env.locals m) (hm : m "script" = some v) (hL : s.heap.get? env.locals = none)
    (r : Rd (V W s.heap) v (IL ns)) (hlen : ns.length ≤ 63)
    (P1 : lefts (rowOf (nums ns)) = lawLeft (rowOf (nums ns))) (P2 : lefts (otherOf (nums ns)) = lawLeft (otherOf (nums ns))) (P3 : ((lefts (rowOf (nums ns)).reverse).length : Int) = howMany (rowOf (nums ns)))
    (P4 : cmpD (((lefts (rowOf (nums ns)).reverse).map List.reverse).map IL) ((lefts (rowOf (nums ns)) ++ lefts (rowOf (nums ns))).map IL) = true)
    (P5 : cmpD ((lefts (otherOf (nums ns))).map IL) ((lefts (rowOf (nums ns))).map IL) = decide (rowOf (nums ns) = otherOf (nums ns)))
    (P6 : cmpD ((lefts (rowOf (nums ns)) ++ lefts (otherOf (nums ns))).map IL) ((lefts (rowOf (nums ns))).map IL) = found (otherOf (nums ns)) (rowOf (nums ns))) :
    wpAny (model prog w) (A.deeper env) (execs body env) (fun f s' => Go Fr s s' ∧ f = .ret (.bool true)) (fun _ _ => False) s₁ := by
  have e := (rfl : (K1 w.params).lookup 84 = some _)
  rw [e] at ho
  cases ho
  cases hdata
  cases hbody
  have hk : env.scope.kind = .function := by rw [henv]; rfl
  have hg : env.globals = mainGlobals := by rw [henv]; rfl
  have hb : env.builtins = builtinsNs := by rw [henv]; rfl
  have hf : env.frame = some env.locals := by rw [henv]; rfl
  have hu' : (A.deeper env).units = A.units + 3 := rfl
  have hd' : (A.deeper env).depth = A.depth + 1 := rfl
  have hh' : (A.deeper env).handled = none := hh
  have go₁ : Go Fr s s₁ := .of sm₁ ex₁
  have ow : Own W (env.locals :: W) s.heap := (Own.refl W _).cons hL
  have owF : Own Fr (env.locals :: Fr) s.heap := (Own.refl Fr _).cons hL
  have cx : ∀ s', Go Fr s s' → (∃ m, s'.heap.Ns env.locals m) → Cx (K1 w.params) (A.deeper env) (env.locals :: Fr) (env.locals :: W) s' := fun s' g ⟨m, q⟩ => by
    obtain ⟨o, es, ep, q1, _⟩ := id q
    exact C.inn g ow (Live.cons q1 (g.live C.lv)) hk hf (.head _) q
  have C1 := cx s₁ go₁ ⟨_, hn⟩
  have r1 : Rd (V (env.locals :: W) s₁.heap) v (IL ns) := r.mono (go₁.see' C.sub ow)
  -- numbers = script[:4] + [1, 3][len(script):]
  refine wpAny_execs_cons (wpAny_Assign_Name (wpAny_BinOp (sub_upto (Fr := env.locals :: Fr) (W := env.locals :: W) (nm_local hn hk (by rw [henv]; rfl) hm (wpAny_Constant_int ⟨4, _, _, rfl, C1.lv, r1, by simp; omega, fun l₂ s₂ g₂ _ rl₂ => ?_⟩)))))
  have g12 : Go (env.locals :: Fr) s₁ s₂ := go_toks g₂
  have C2 := C1.go g12
  refine sub_from (Fr := env.locals :: Fr) (W := env.locals :: W) (list2c (Fr := env.locals :: Fr) C2.lv fun l₃ s₃ g₃ rl₃ => ?_)
  have C3 := C2.go g₃
  have g13 := g12.trans g₃
  refine callB1 (fun h' => nm_builtin C3.gr hg hb hk (by rw [henv]; rfl) (by rfl) boot_len (by decide) h') rfl ?_
  refine nm_local (g13.ns hn) hk (by rw [henv]; rfl) hm ?_
  refine op_len (W := env.locals :: W) (Fr := env.locals :: Fr) (r1.mono (g13.see C1.sub)) (by simp; omega) fun t₄ s₄ g₄ => ?_
  have C4 := C3.go g₄
  refine ⟨_, _, [.int 1, .int 3], rfl, C4.lv, rl₃.rd.mono (g₄.see C3.sub), by simp, fun l₅ s₅ g₅ _ rl₅ => ?_⟩
  have C5 := C4.go g₅
  have g25 : Go (env.locals :: Fr) s₂ s₅ := (g₃.trans g₄).trans g₅
  refine op_add (Fr := env.locals :: Fr) C5.lv (rl₂.rd.mono (g25.see C2.sub)) rl₅.rd ?_ fun lN s₆ g₆ _ rlN => ?_
  · have : (dropI ([.int 1, .int 3] : List PyData) ((ns.map PyData.int).length : Int)).length ≤ 2 := by unfold dropI; split <;> simp
    simp only [List.length_take, List.length_map] at this ⊢
    omega
  have eN : (ns.map PyData.int).take 4 ++ dropI [.int 1, .int 3] ((ns.map PyData.int).length : Int) = (nums ns).map .int := by
    unfold nums
    rw [List.map_append, List.map_take, ← dropI_map, List.length_map]; rfl
  rw [eN] at rlN
  have hN := nums_len ns
  have hR := rowOf_len (nums ns)
  have hO := otherOf_len (nums ns)
  have g16 : Go (env.locals :: Fr) s₁ s₆ := (g12.trans g25).trans g₆
  refine st_local (g16.ns hn) hk (by rw [henv]; rfl) fun s₇ sm₇ hn₇ hs₇ => ?_
  have go₇ : Go Fr s s₇ := (go₁.step g16 owF).but sm₇ hs₇.extBut hL
  have C7 := cx s₇ go₇ ⟨_, hn₇⟩
  have rN : Rd (V (env.locals :: W) s₇.heap) (.ref lN) (IL (nums ns)) := rlN.rd.mono (V_same hs₇ (.head _))
  -- row = [x % 3 for x in numbers]
  refine wpAny_execs_cons (comp1S (ds := (nums ns).map .int) (cl := []) (fun _ => true) (fun d => match d with | .int x => .int (x.fmod 3) | d => d) (by rw [henv]; rfl) hk (by rw [henv]; rfl) hn₇ (.head _) (.head _) C7 hh' (by rw [henv]; rfl) rfl (by decide) (by decide) (by decide) (by simp only [List.length_map]; omega) ?_)
  refine nm_local hn₇ hk (by rw [henv]; rfl) (v := .ref lN) (by rfl) ⟨Go.refl _ _, src_list hh' C7 rN fun I s₈ hS => ⟨I, rfl, hS, ?_, ?_, ?_⟩⟩
  · intro Cc W2 s' m' v' d i E' hd g ow' cx' hn' hm' hv'
    exact wpAny_tests_nil ⟨Go.refl _ _, rfl⟩
  · intro Cc W2 s' m' v' d i E' hd _ g ow' cx' hn' hm' hv'
    rw [List.getElem?_map] at hd
    obtain ⟨x, _, rfl⟩ := Option.map_eq_some_iff.mp hd
    obtain ⟨t, rfl⟩ := hv'.int_inv
    exact wpAny_BinOp (nm_local hn' (by rfl) (by rw [henv]; rfl) hm' (wpAny_Constant_int (mod_int (by decide) ⟨.of ⟨_, _, rfl⟩ (Ext.refl _), Rd.int _ _⟩)))
  intro lR s₈ s₉ g₈ _ rlR sm₉ hn₉ hs₉
  have eR : (((nums ns).map PyData.int).filter fun _ => true).map (fun d => match d with | .int x => PyData.int (x.fmod 3) | d => d) = (rowOf (nums ns)).map PyData.int := by
    rw [List.filter_eq_self.mpr fun _ _ => rfl]; unfold rowOf; rw [List.map_map, List.map_map]; rfl
  rw [eR] at rlR
  have go₉ : Go Fr s s₉ := (go₇.step g₈ owF).but sm₉ hs₉.extBut hL
  have C9 := cx s₉ go₉ ⟨_, hn₉⟩
  have e79 : Ext (V (env.locals :: W) s₇.heap) (V (env.locals :: W) s₉.heap) := (g₈.see C7.sub).trans (V_same hs₉ (.head _))
  have rN9 := rN.mono e79
  have rR9 : RL (V (env.locals :: W) s₉.heap) (.ref lR) ((rowOf (nums ns)).map .int) := rlR.mono (V_same hs₉ (.head _))
  -- other = [...]
  refine wpAny_execs_cons (comp1S (ds := (nums ns).map .int) (cl := []) (fun d => match d with | .int x => decide ((x.fdiv 3).fmod 4 < 3) | _ => false) (fun d => match d with | .int x => .int ((x.fdiv 3).fmod 4) | d => d) (by rw [henv]; rfl) hk (by rw [henv]; rfl) hn₉ (.head _) (.head _) C9 hh' (by rw [henv]; rfl) rfl (by decide) (by decide) (by decide) (by simp only [List.length_map]; omega) ?_)
  refine nm_local hn₉ hk (by rw [henv]; rfl) (v := .ref lN) (by rfl) ⟨Go.refl _ _, src_list hh' C9 rN9 fun I s₁₀ hS => ⟨I, rfl, hS, ?_, ?_, ?_⟩⟩
  · intro Cc W2 s' m' v' d i E' hd g ow' cx' hn' hm' hv'
    rw [List.getElem?_map] at hd
    obtain ⟨x, _, rfl⟩ := Option.map_eq_some_iff.mp hd
    obtain ⟨t, rfl⟩ := hv'.int_inv
    refine wpAny_tests_one (wpAny_isTrue_Compare1 (wpAny_BinOp (wpAny_BinOp (nm_local hn' (by rfl) (by rw [henv]; rfl) hm' (wpAny_Constant_int ?_)))))
    refine floordiv_int (by decide) (wpAny_Constant_int ?_)
    refine mod_int (by decide) (wpAny_Constant_int ?_)
    exact lt_int (wpAny_truthy_bool ⟨.of ⟨_, _, rfl⟩ (Ext.refl _), rfl⟩)
  · intro Cc W2 s' m' v' d i E' hd _ g ow' cx' hn' hm' hv'
    rw [List.getElem?_map] at hd
    obtain ⟨x, _, rfl⟩ := Option.map_eq_some_iff.mp hd
    obtain ⟨t, rfl⟩ := hv'.int_inv
    refine wpAny_BinOp (wpAny_BinOp (nm_local hn' (by rfl) (by rw [henv]; rfl) hm' (wpAny_Constant_int ?_)))
    refine floordiv_int (by decide) (wpAny_Constant_int ?_)
    exact mod_int (by decide) ⟨.of ⟨_, _, rfl⟩ (Ext.refl _), Rd.int _ _⟩
  intro lO s₁₀ s₁₁ g₁₀ _ rlO sm₁₁ hn₁₁ hs₁₁
  have eO : (((nums ns).map PyData.int).filter (fun d => match d with | .int x => decide ((x.fdiv 3).fmod 4 < 3) | _ => false)).map (fun d => match d with | .int x => PyData.int ((x.fdiv 3).fmod 4) | d => d) = (otherOf (nums ns)).map PyData.int := by
    unfold otherOf; rw [List.filter_map, List.map_map, List.map_map]; rfl
  rw [eO] at rlO
  have go₁₁ : Go Fr s s₁₁ := (go₉.step g₁₀ owF).but sm₁₁ hs₁₁.extBut hL
  have C11 := cx s₁₁ go₁₁ ⟨_, hn₁₁⟩
  have e911 : Ext (V (env.locals :: W) s₉.heap) (V (env.locals :: W) s₁₁.heap) := (g₁₀.see C9.sub).trans (V_same hs₁₁ (.head _))
  have rR11 := rR9.mono e911
  have rO11 : RL (V (env.locals :: W) s₁₁.heap) (.ref lO) ((otherOf (nums ns)).map .int) := rlO.mono (V_same hs₁₁ (.head _))
  generalize hrow : rowOf (nums ns) = row at *
  generalize hoth : otherOf (nums ns) = oth at *
  have hRl : row.length ≤ 6 := by omega
  have hOl : oth.length ≤ 6 := by omega
  have hRr : row.reverse.length ≤ 6 := by rw [List.length_reverse]; exact hRl
  -- left
  refine wpAny_execs_cons (wpAny_Assign_Name (evMore C11 hk hg (by rw [henv]; rfl) (by rw [henv]; rfl) hh' (by omega) (by omega) (by omega) rfl (nm_local hn₁₁ hk (by rw [henv]; rfl) (v := .ref lR) (by rfl) ⟨Go.refl _ _, rR11.rd⟩) fun vL s₁₂ g₁₂ rL => ?_))
  refine st_local (g₁₂.ns hn₁₁) hk (by rw [henv]; rfl) fun s₁₃ sm₁₃ hn₁₃ hs₁₃ => ?_
  have go₁₃ : Go Fr s s₁₃ := (go₁₁.step g₁₂ owF).but sm₁₃ hs₁₃.extBut hL
  have C13 := cx s₁₃ go₁₃ ⟨_, hn₁₃⟩
  have e1 : Ext (V (env.locals :: W) s₁₁.heap) (V (env.locals :: W) s₁₃.heap) := (g₁₂.see C11.sub).trans (V_same hs₁₃ (.head _))
  have rR13 := rR11.mono e1
  have rO13 := rO11.mono e1
  have rL13 := rL.mono (V_same hs₁₃ (.head _) : Ext (V (env.locals :: W) s₁₂.heap) (V (env.locals :: W) s₁₃.heap))
  -- others
  refine wpAny_execs_cons (wpAny_Assign_Name (evMore C13 hk hg (by rw [henv]; rfl) (by rw [henv]; rfl) hh' (by omega) (by omega) (by omega) rfl (nm_local hn₁₃ hk (by rw [henv]; rfl) (v := .ref lO) (by rfl) ⟨Go.refl _ _, rO13.rd⟩) fun vO s₁₄ g₁₄ rO => ?_))
  refine st_local (g₁₄.ns hn₁₃) hk (by rw [henv]; rfl) fun s₁₅ sm₁₅ hn₁₅ hs₁₅ => ?_
  have go₁₅ : Go Fr s s₁₅ := (go₁₃.step g₁₄ owF).but sm₁₅ hs₁₅.extBut hL
  have C15 := cx s₁₅ go₁₅ ⟨_, hn₁₅⟩
  have e2 : Ext (V (env.locals :: W) s₁₃.heap) (V (env.locals :: W) s₁₅.heap) := (g₁₄.see C13.sub).trans (V_same hs₁₅ (.head _))
  have rR15 := rR13.mono e2
  have rO15 := rO13.mono e2
  have rL15 := rL13.mono e2
  have rOs15 := rO.mono (V_same hs₁₅ (.head _) : Ext (V (env.locals :: W) s₁₄.heap) (V (env.locals :: W) s₁₅.heap))
  -- turned
  refine wpAny_execs_cons (wpAny_Assign_Name (evMore (ns := row.reverse) C15 hk hg (by rw [henv]; rfl) (by rw [henv]; rfl) hh' (by omega) (by omega) (by omega) rfl (sub_rev (Fr := env.locals :: Fr) (W := env.locals :: W) (fun _ _ => ⟨_, rfl⟩) (nm_local hn₁₅ hk (by rw [henv]; rfl) (v := .ref lR) (by rfl) (UnaryOp_ (wpAny_Constant_int (neg_int ⟨_, _, rfl, C15.lv, rR15.rd, by simp only [List.length_map]; omega, fun l s' g _ rl => ⟨go_toks g, by rw [← List.map_reverse] at rl; exact rl.rd⟩⟩))))) fun vT s₁₆ g₁₆ rT => ?_))
  refine st_local (g₁₆.ns hn₁₅) hk (by rw [henv]; rfl) fun s₁₇ sm₁₇ hn₁₇ hs₁₇ => ?_
  have go₁₇ : Go Fr s s₁₇ := (go₁₅.step g₁₆ owF).but sm₁₇ hs₁₇.extBut hL
  have C17 := cx s₁₇ go₁₇ ⟨_, hn₁₇⟩
  have e3 : Ext (V (env.locals :: W) s₁₅.heap) (V (env.locals :: W) s₁₇.heap) := (g₁₆.see C15.sub).trans (V_same hs₁₇ (.head _))
  have rR := rR15.mono e3
  have rO' := rO15.mono e3
  have rL' := rL15.mono e3
  have rOs := rOs15.mono e3
  have rT' := rT.mono (V_same hs₁₇ (.head _) : Ext (V (env.locals :: W) s₁₆.heap) (V (env.locals :: W) s₁₇.heap))
  have hLl := lefts_len hRl
  have hOsl := lefts_len hOl
  have hTl := lefts_len hRr
  have see : ∀ {s'}, Go (env.locals :: Fr) s₁₇ s' → Ext (V (env.locals :: W) s₁₇.heap) (V (env.locals :: W) s'.heap) := fun g => g.see C17.sub
  have loc : ∀ {s'}, Go (env.locals :: Fr) s₁₇ s' → s'.heap.Ns env.locals _ := fun g => g.ns hn₁₇
  have hlayL := lay_ILs (lefts row)
  have hdepL := depth_ILs (lefts row)
  have hlayO := lay_ILs (lefts oth)
  have hdepO := depth_ILs (lefts oth)
  -- if left != _law_left(row) or others != _law_left(other)
  refine wpAny_execs_cons (wpAny_If (isTrue_or (wpAny_isTrue_Compare1 (nm_local hn₁₇ hk (by rw [henv]; rfl) (v := vL) (by rfl) ?_))))
  refine callDef1 (K := K1 w.params) (f := 67) (by rfl) (by rfl) (fun h' => nm_global C17.gr hg hk (by rw [henv]; rfl) (by rfl) h') rfl (nm_local hn₁₇ hk (by rw [henv]; rfl) (v := .ref lR) (by rfl) ⟨C17.gr, ?_⟩)
  refine (lawLeftC C17 hh' (by omega) (by omega) rR.rd (by omega)).use fun b1 s₁₈ g₁₈ rb1 => ?_
  rw [← P1] at rb1
  obtain ⟨a1, ra1⟩ := (rL'.mono (see g₁₈)).mono V_le
  obtain ⟨a2, ra2⟩ := rb1.rd.mono V_le
  refine SeqAt.compareNe_reads ra1 ra2 (by rw [PyData.canLay0]; exact hlayL) (by rw [PyData.canLay0]; exact hlayL) (by have := depth_ILL (lefts row); omega) ?_
  rw [eqv_rows_self]
  refine wpAny_truthy_bool ?_
  refine isTrue_or (wpAny_isTrue_Compare1 (nm_local (loc g₁₈) hk (by rw [henv]; rfl) (v := vO) (by rfl) ?_))
  have C18 := C17.go g₁₈
  refine callDef1 (K := K1 w.params) (f := 67) (by rfl) (by rfl) (fun h' => nm_global C18.gr hg hk (by rw [henv]; rfl) (by rfl) h') rfl (nm_local (loc g₁₈) hk (by rw [henv]; rfl) (v := .ref lO) (by rfl) ⟨C18.gr, ?_⟩)
  refine (lawLeftC C18 hh' (by omega) (by omega) (rO'.rd.mono (see g₁₈)) (by omega)).use fun b2 s₁₉ g19 rb2 => ?_
  rw [← P2] at rb2
  have g₁₉ : Go (env.locals :: Fr) s₁₇ s₁₉ := g₁₈.trans g19
  obtain ⟨a3, ra3⟩ := (rOs.mono (see g₁₉)).mono V_le
  obtain ⟨a4, ra4⟩ := rb2.rd.mono V_le
  refine SeqAt.compareNe_reads ra3 ra4 (by rw [PyData.canLay0]; exact hlayO) (by rw [PyData.canLay0]; exact hlayO) (by have := depth_ILL (lefts oth); omega) ?_
  rw [eqv_rows_self]
  refine wpAny_truthy_bool (isTrue_or_nil (wpAny_execs_nil ?_))
  -- if len(turned) != _law_how_many(row) or not _law_refused(left)
  have C19 := C17.go g₁₉
  refine wpAny_execs_cons (wpAny_If (isTrue_or (wpAny_isTrue_Compare1 ?_)))
  refine callB1 (fun h' => nm_builtin C19.gr hg hb hk (by rw [henv]; rfl) (by rfl) boot_len (by decide) h') rfl (nm_local (loc g₁₉) hk (by rw [henv]; rfl) (v := vT) (by rfl) ?_)
  refine op_len (Fr := env.locals :: Fr) (rT'.mono (see g₁₉)) (by simp only [List.length_map]; omega) fun t₂₀ s₂₀ g20 => ?_
  have g₂₀ : Go (env.locals :: Fr) s₁₇ s₂₀ := g₁₉.trans g20
  have C20 := C17.go g₂₀
  refine callDef1 (K := K1 w.params) (f := 72) (by rfl) (by rfl) (fun h' => nm_global C20.gr hg hk (by rw [henv]; rfl) (by rfl) h') rfl (nm_local (loc g₂₀) hk (by rw [henv]; rfl) (v := .ref lR) (by rfl) ⟨C20.gr, ?_⟩)
  refine (lawHowMany C20 hh' (by omega) (by omega) (rR.rd.mono (see g₂₀)) (by omega)).use fun b3 s₂₁ g21 hb3 => ?_
  obtain ⟨t₂₁, rfl⟩ := hb3
  have g₂₁ : Go (env.locals :: Fr) s₁₇ s₂₁ := g₂₀.trans g21
  refine ne_int ?_
  rw [List.length_map, P3, bne_self_eq_false]
  refine wpAny_truthy_bool (isTrue_or (isTrue_not ?_))
  have C21 := C17.go g₂₁
  refine isTrue_call ?_
  refine callDef1 (K := K1 w.params) (f := 62) (by rfl) (by rfl) (fun h' => nm_global C21.gr hg hk (by rw [henv]; rfl) (by rfl) h') rfl (nm_local (loc g₂₁) hk (by rw [henv]; rfl) (v := vL) (by rfl) ⟨C21.gr, ?_⟩)
  obtain ⟨q0, qs, hq⟩ : ∃ q qs, lefts row = q :: qs := by
    have := (rowsOk_lefts row).1
    cases h : lefts row with
    | nil => rw [h] at this; cases this
    | cons q qs => exact ⟨q, qs, rfl⟩
  refine (lawRefused (x := q0.map .int) (xs := qs.map IL) C21 hh' (by omega) (by omega) (by have := rL'.mono (see g₂₁); rw [hq] at this; exact this)).use fun b4 s₂₂ g22 hb4 => ?_
  subst hb4
  have g₂₂ : Go (env.locals :: Fr) s₁₇ s₂₂ := g₂₁.trans g22
  refine wpAny_truthy_bool (isTrue_or_nil (wpAny_execs_nil ?_))
  -- if reduce(_law_more_keys, row, [()]) != [tuple(one) for one in left]
  have C22 := C17.go g₂₂
  refine wpAny_execs_cons (wpAny_If (wpAny_isTrue_Compare1 (evKeys C22 hk hg (by rw [henv]; rfl) (by rw [henv]; rfl) hh' (by omega) (by omega) (by omega) rfl (nm_local (loc g₂₂) hk (by rw [henv]; rfl) (v := .ref lR) (by rfl) ⟨Go.refl _ _, rR.rd.mono (see g₂₂)⟩) fun vK s₂₃ g23 rK => ?_)))
  have g₂₃ : Go (env.locals :: Fr) s₁₇ s₂₃ := g₂₂.trans g23
  have C23 := C17.go g₂₃
  refine comp1 (ds := (lefts row).map IL) (cl := []) (fun _ => true) (fun d => match d with | .list xs => .tuple xs | d => d) C23 hh' (by rw [henv]; rfl) rfl (by decide) (by decide) (by decide) (by simp only [List.length_map]; omega) ?_
  refine nm_local (loc g₂₃) hk (by rw [henv]; rfl) (v := vL) (by rfl) ⟨Go.refl _ _, src_list hh' C23 (rL'.mono (see g₂₃)) fun I s₂₄ hS => ⟨I, rfl, hS, ?_, ?_, ?_⟩⟩
  · intro Cc W2 s' m' v' d i E' hd g ow' cx' hn' hm' hv'
    exact wpAny_tests_nil ⟨Go.refl _ _, rfl⟩
  · intro Cc W2 s' m' v' d i E' hd _ g ow' cx' hn' hm' hv'
    rw [List.getElem?_map] at hd
    obtain ⟨y, hy, rfl⟩ := Option.map_eq_some_iff.mp hd
    have hyl := lefts_row hRl (List.mem_of_getElem? hy)
    refine callT1 (fun h' => nm_builtin cx'.gr (show (compEnvC _ _ _ env).globals = _ from hg) (show (compEnvC _ _ _ env).builtins = _ from hb) rfl (by rw [henv]; rfl) (by rfl) boot_tuple (by decide) h') rfl ?_
    exact nm_local hn' (by rfl) (by rw [henv]; rfl) hm' (op_tuple (Fr := env.locals :: Fr) cx'.lv hv' (by simp only [List.length_map]; omega) fun u s'' g'' ru => ⟨g'', ru⟩)
  intro lK s₂₄ g24 _ rlK
  have eK : (((lefts row).map IL).filter fun _ => true).map (fun d => match d with | .list xs => PyData.tuple xs | d => d) = (lefts row).map TL := by
    rw [List.filter_eq_self.mpr fun _ _ => rfl, List.map_map]; rfl
  rw [eK] at rlK
  have g₂₄ : Go (env.locals :: Fr) s₁₇ s₂₄ := g₂₃.trans g24
  obtain ⟨a5, ra5⟩ := (rK.mono (g24.see C23.sub)).mono V_le
  obtain ⟨a6, ra6⟩ := rlK.rd.mono V_le
  refine SeqAt.compareNe_reads ra5 ra6 (by rw [PyData.canLay0]; exact lay_TLs _) (by rw [PyData.canLay0]; exact lay_TLs _) (by have := depth_TLL (lefts row); omega) ?_
  rw [eqv_keys_self]
  refine wpAny_truthy_bool (wpAny_execs_nil ?_)
  -- if _compare_args_orderless([one[::-1] for one in turned], left + left) is not True
  have C24 := C17.go g₂₄
  refine wpAny_execs_cons (wpAny_If (wpAny_isTrue_Compare1 (callDef2 (K := K1 w.params) (f := 36) (by rfl) (by rfl) (fun h' => nm_global C24.gr hg hk (by rw [henv]; rfl) (by rfl) h') rfl ?_)))
  refine comp1 (ds := (lefts row.reverse).map IL) (cl := []) (fun _ => true) (fun d => match d with | .list xs => .list xs.reverse | d => d) C24 hh' (by rw [henv]; rfl) rfl (by decide) (by decide) (by decide) (by simp only [List.length_map]; omega) ?_
  refine nm_local (loc g₂₄) hk (by rw [henv]; rfl) (v := vT) (by rfl) ⟨Go.refl _ _, src_list hh' C24 (rT'.mono (see g₂₄)) fun I s₂₅ hS => ⟨I, rfl, hS, ?_, ?_, ?_⟩⟩
  · intro Cc W2 s' m' v' d i E' hd g ow' cx' hn' hm' hv'
    exact wpAny_tests_nil ⟨Go.refl _ _, rfl⟩
  · intro Cc W2 s' m' v' d i E' hd _ g ow' cx' hn' hm' hv'
    rw [List.getElem?_map] at hd
    obtain ⟨y, hy, rfl⟩ := Option.map_eq_some_iff.mp hd
    have hyl := lefts_row hRr (List.mem_of_getElem? hy)
    exact sub_rev (Fr := env.locals :: Fr) (W := W2) (fun _ _ => ⟨_, rfl⟩) (nm_local hn' (by rfl) (by rw [henv]; rfl) hm' (UnaryOp_ (wpAny_Constant_int (neg_int ⟨_, _, rfl, cx'.lv, hv', by simp only [List.length_map]; omega, fun l s' g _ rl => ⟨go_toks g, rl.rd⟩⟩))))
  intro lV s₂₅ g25' _ rlV
  have eV : (((lefts row.reverse).map IL).filter fun _ => true).map (fun d => match d with | .list xs => PyData.list xs.reverse | d => d) = ((lefts row.reverse).map List.reverse).map IL := by
    rw [List.filter_eq_self.mpr fun _ _ => rfl, List.map_map, List.map_map]
    refine List.map_congr_left fun x _ => ?_
    simp [IL, List.map_reverse]
  rw [eV] at rlV
  have g₂₅ : Go (env.locals :: Fr) s₁₇ s₂₅ := g₂₄.trans g25'
  have C25 := C17.go g₂₅
  refine wpAny_BinOp (nm_local (loc g₂₅) hk (by rw [henv]; rfl) (v := vL) (by rfl) (nm_local (loc g₂₅) hk (by rw [henv]; rfl) (v := vL) (by rfl) ?_))
  refine op_add (Fr := env.locals :: Fr) C25.lv (rL'.mono (see g₂₅)) (rL'.mono (see g₂₅)) (by simp only [List.length_map]; omega) fun lW s₂₆ g26 _ rlW => ?_
  rw [← List.map_append] at rlW
  have g₂₆ : Go (env.locals :: Fr) s₁₇ s₂₆ := g₂₅.trans g26
  have C26 := C17.go g₂₆
  refine ⟨C26.gr, (compareC C26 hh' (by omega) (by omega) (rlV.rd.mono (g26.see C25.sub)) rlW.rd (lay_ILs _) (lay_ILs _) (Nat.le_trans (depth_ILs _) (by omega)) (Nat.le_trans (depth_ILs _) (by omega)) (by simp only [List.length_map]; omega) (by simp only [List.length_map, List.length_append]; omega)).use fun b5 s₂₇ g27 hb5 => ?_⟩
  rw [P4] at hb5
  subst hb5
  have g₂₇ : Go (env.locals :: Fr) s₁₇ s₂₇ := g₂₆.trans g27
  have C27 := C17.go g₂₇
  refine wpAny_Constant_bool (wpAny_isNot_self rfl (wpAny_truthy_bool (wpAny_execs_nil ?_)))
  -- if _compare_args_orderless(others, left) is not (row == other)
  refine wpAny_execs_cons (wpAny_If (wpAny_isTrue_Compare1 (callDef2 (K := K1 w.params) (f := 36) (by rfl) (by rfl) (fun h' => nm_global C27.gr hg hk (by rw [henv]; rfl) (by rfl) h') rfl ?_)))
  refine nm_local (loc g₂₇) hk (by rw [henv]; rfl) (v := vO) (by rfl) (nm_local (loc g₂₇) hk (by rw [henv]; rfl) (v := vL) (by rfl) ⟨C27.gr, ?_⟩)
  refine (compareC C27 hh' (by omega) (by omega) (rOs.mono (see g₂₇)) (rL'.mono (see g₂₇)) (lay_ILs _) (lay_ILs _) (Nat.le_trans (depth_ILs _) (by omega)) (Nat.le_trans (depth_ILs _) (by omega)) (by simp only [List.length_map]; omega) (by simp only [List.length_map]; omega)).use fun b6 s₂₈ g28 hb6 => ?_
  rw [P5] at hb6
  subst hb6
  have g₂₈ : Go (env.locals :: Fr) s₁₇ s₂₈ := g₂₇.trans g28
  have C28 := C17.go g₂₈
  refine wpAny_Compare1 (nm_local (loc g₂₈) hk (by rw [henv]; rfl) (v := .ref lR) (by rfl) (nm_local (loc g₂₈) hk (by rw [henv]; rfl) (v := .ref lO) (by rfl) ?_))
  obtain ⟨a7, ra7⟩ := (rR.rd.mono (see g₂₈)).mono V_le
  obtain ⟨a8, ra8⟩ := (rO'.rd.mono (see g₂₈)).mono V_le
  refine SeqAt.compareEq_reads ra7 ra8 (lay_IL _) (lay_IL _) (by show A.units + 3 + min (PyData.depth (IL row)) (PyData.depth (IL oth)) < cLine; rw [depth_IL, depth_IL]; omega) ?_
  have e8 : PyData.eqv (.list (row.map .int)) (.list (oth.map .int)) = decide (row = oth) := eqv_IL row oth
  rw [e8]
  refine wpAny_isNot_self rfl (wpAny_truthy_bool (wpAny_execs_nil ?_))
  -- return
  refine wpAny_execs_cons (wpAny_Return_some (wpAny_Compare1 (callDef2 (K := K1 w.params) (f := 36) (by rfl) (by rfl) (fun h' => nm_global C28.gr hg hk (by rw [henv]; rfl) (by rfl) h') rfl ?_)))
  refine wpAny_BinOp (nm_local (loc g₂₈) hk (by rw [henv]; rfl) (v := vL) (by rfl) (nm_local (loc g₂₈) hk (by rw [henv]; rfl) (v := vO) (by rfl) ?_))
  refine op_add (Fr := env.locals :: Fr) C28.lv (rL'.mono (see g₂₈)) (rOs.mono (see g₂₈)) (by simp only [List.length_map]; omega) fun lX s₂₉ g29 _ rlX => ?_
  rw [← List.map_append] at rlX
  have g₂₉ : Go (env.locals :: Fr) s₁₇ s₂₉ := g₂₈.trans g29
  have C29 := C17.go g₂₉
  refine nm_local (loc g₂₉) hk (by rw [henv]; rfl) (v := vL) (by rfl) ⟨C29.gr, ?_⟩
  refine (compareC C29 hh' (by omega) (by omega) rlX.rd (rL'.mono (see g₂₉)) (lay_ILs _) (lay_ILs _) (Nat.le_trans (depth_ILs _) (by omega)) (Nat.le_trans (depth_ILs _) (by omega)) (by simp only [List.length_map, List.length_append]; omega) (by simp only [List.length_map]; omega)).use fun b7 s₃₀ g30 hb7 => ?_
  rw [P6] at hb7
  subst hb7
  have g₃₀ : Go (env.locals :: Fr) s₁₇ s₃₀ := g₂₉.trans g30
  have C30 := C17.go g₃₀
  refine callDef2 (K := K1 w.params) (f := 79) (by rfl) (by rfl) (fun h' => nm_global C30.gr hg hk (by rw [henv]; rfl) (by rfl) h') rfl ?_
  refine nm_local (loc g₃₀) hk (by rw [henv]; rfl) (v := .ref lO) (by rfl) (nm_local (loc g₃₀) hk (by rw [henv]; rfl) (v := .ref lR) (by rfl) ⟨C30.gr, ?_⟩)
  refine (lawFound C30 hh' (by omega) (by omega) (rO'.rd.mono (see g₃₀)) (rR.mono (see g₃₀)) (by omega) (by omega)).use fun b8 s₃₁ g31 hb8 => ?_
  subst hb8
  refine wpAny_is_self rfl ⟨go₁₇.step (g₃₀.trans g31) owF, rfl⟩
end Mine
end

section
open PySem
namespace Mine
theorem rm1_IL (x : List Int) : ∀ b : List (List Int), rm1 (b.map IL) (IL x) = if x ∈ b then some ((b.erase x).map IL) else none
  | [] => rfl
  | c :: b => by
    have ih := rm1_IL x b
    unfold rm1 at ih ⊢
    rw [List.map_cons, List.findIdx?_cons, eqv_IL]
    by_cases h : c = x
    · subst h; simp
    · have h' : ¬ x = c := fun e => h e.symm
      simp only [h, decide_false, Bool.false_eq_true, if_false, Option.map_map]
      rw [show (fun j => (IL c :: b.map IL).eraseIdx j) ∘ (fun i => i + 1) = (fun t => IL c :: t) ∘ fun j => (b.map IL).eraseIdx j from rfl, ← Option.map_map, ih]
      have he : (c :: b).erase x = c :: b.erase x := by rw [List.erase_cons]; simp [h]
      by_cases hm : x ∈ b <;> simp [hm, h', he]
def emp (o : Option (List PyData)) : Bool := match o with | some r => r.isEmpty | none => false
theorem cmpD_emp (xs ys : List PyData) : cmpD xs ys = emp (rmAll (dd xs) (dd ys)) := rfl
theorem rmAll_IL : ∀ (a b : List (List Int)), a.Nodup → b.Nodup → (emp (rmAll (a.map IL) (b.map IL)) = true ↔ ∀ y, y ∈ a ↔ y ∈ b)
  | [], b, _, _ => by
    simp only [rmAll, List.map_nil, List.foldlM_nil]
    show (b.map IL).isEmpty = true ↔ _
    cases b with
    | nil => simp
    | cons c b => exact ⟨fun h => (by simp at h), fun h => absurd ((h c).mpr (by simp)) (by simp)⟩
  | x :: a, b, ha, hb => by
    rw [List.nodup_cons] at ha
    have e : rmAll ((x :: a).map IL) (b.map IL) = (rm1 (b.map IL) (IL x)).bind fun t => rmAll (a.map IL) t := rfl
    rw [e, rm1_IL]
    by_cases hm : x ∈ b
    · simp only [hm, if_true, Option.bind_some]
      rw [rmAll_IL a (b.erase x) ha.2 (hb.erase x)]
      constructor
      · intro h y
        have := h y
        rw [hb.mem_erase_iff] at this
        by_cases hy : y = x
        · subst hy; simp [hm]
        · simp [hy, this]
      · intro h y
        have := h y
        rw [hb.mem_erase_iff]
        by_cases hy : y = x
        · subst hy; simp [ha.1]
        · simp [hy] at this; simp [hy, this]
    · simp only [hm, if_false, Option.bind_none]
      constructor
      · intro h; cases h
      · intro h; exact absurd ((h x).mp (by simp)) hm
theorem cmpD_IL (xs ys : List (List Int)) : cmpD (xs.map IL) (ys.map IL) = true ↔ ∀ y, y ∈ xs ↔ y ∈ ys := by
  rw [cmpD_emp, dd_map IL eqv_IL, dd_map IL eqv_IL, rmAll_IL _ _ (ddG_nodup xs) (ddG_nodup ys)]
  simp only [mem_ddG]
theorem lefts_snoc (ns : List Int) (k : Int) : lefts (ns ++ [k]) = more (lefts ns) k := by unfold lefts; rw [List.foldl_append]; rfl
theorem mem_lefts_rev : ∀ (ns : List Int) (y : List Int), y ∈ lefts ns.reverse ↔ y.Sublist ns.reverse
  | [], y => by simp [lefts]
  | k :: ns, y => by
    rw [List.reverse_cons, lefts_snoc, mem_more, mem_lefts_rev ns y, List.sublist_append_iff]
    constructor
    · rintro (h | ⟨z, h, rfl⟩)
      · exact ⟨y, [], by simp, h, by simp⟩
      · exact ⟨z, [k], rfl, (mem_lefts_rev ns z).mp h, List.Sublist.refl _⟩
    · rintro ⟨a, b, rfl, h1, h2⟩
      cases b with
      | nil => left; simpa using h1
      | cons c b =>
        have hl := h2.length_le
        have hb : b = [] := by cases b with
          | nil => rfl
          | cons _ _ => simp at hl
        subst hb
        have : c ∈ [k] := h2.subset (by simp)
        simp at this
        subst this
        exact .inr ⟨a, (mem_lefts_rev ns a).mpr h1, rfl⟩
theorem mem_lefts (ns y : List Int) : y ∈ lefts ns ↔ y.Sublist ns := by
  have := mem_lefts_rev ns.reverse y
  rwa [List.reverse_reverse] at this
theorem p4 (row : List Int) : cmpD (((lefts row.reverse).map List.reverse).map IL) ((lefts row ++ lefts row).map IL) = true := by
  rw [cmpD_IL]
  intro y
  simp only [List.mem_map, List.mem_append, or_self, mem_lefts]
  constructor
  · rintro ⟨z, h, rfl⟩
    have := h.reverse
    rwa [List.reverse_reverse] at this
  · intro h
    exact ⟨y.reverse, h.reverse, List.reverse_reverse y⟩
theorem p5 (row oth : List Int) : cmpD ((lefts oth).map IL) ((lefts row).map IL) = decide (row = oth) := by
  rw [Bool.eq_iff_iff, cmpD_IL, decide_eq_true_eq]
  simp only [mem_lefts]
  constructor
  · intro h
    have h1 := (h row).mpr (List.Sublist.refl _)
    have h2 := (h oth).mp (List.Sublist.refl _)
    exact h1.eq_of_length (Nat.le_antisymm h1.length_le h2.length_le)
  · rintro rfl y; rfl
theorem found_iff : ∀ (os rs : List Int), found os rs = true ↔ os.Sublist rs
  | [], rs => by simp [found]
  | x :: os, rs => by
    have key : ∀ rs : List Int, (x :: os).Sublist rs ↔ x ∈ rs ∧ os.Sublist (rs.drop (rs.idxOf x + 1)) := by
      intro rs
      induction rs with
      | nil => simp
      | cons r rs ih =>
        by_cases h : r = x
        · subst h; simp [List.cons_sublist_cons]
        · have h' : x ≠ r := fun e => h e.symm
          have hi : (r :: rs).idxOf x = rs.idxOf x + 1 := by simp only [List.idxOf, List.findIdx_cons, show (r == x) = false from by simp [h], cond_false]
          rw [hi]
          have : (x :: os).Sublist (r :: rs) ↔ (x :: os).Sublist rs := by
            constructor
            · intro q
              cases q with
              | cons _ q => exact q
              | cons_cons _ q => exact absurd rfl h
            · intro q; exact q.cons _
          rw [this, ih]
          simp [h']
    rw [key rs]
    unfold found
    rw [List.foldlM_cons]
    unfold f1
    by_cases hm : x ∈ rs
    · simp only [hm, if_true, true_and]
      have := found_iff os (rs.drop (rs.idxOf x + 1))
      unfold found at this
      exact this
    · simp only [hm, if_false, false_and]
      simp
theorem p6 (row oth : List Int) : cmpD ((lefts row ++ lefts oth).map IL) ((lefts row).map IL) = found oth row := by
  rw [Bool.eq_iff_iff, cmpD_IL, found_iff]
  simp only [List.mem_append, mem_lefts]
  constructor
  · intro h; exact (h oth).mp (.inr (List.Sublist.refl _))
  · intro h y
    exact ⟨fun q => q.elim id fun q => q.trans h, .inl⟩
/-- rows of 0, 1, 2 of at most n figures -/
def allRows : Nat → List (List Int)
  | 0 => [[]]
  | n + 1 => [] :: (allRows n).flatMap fun r => [0 :: r, 1 :: r, 2 :: r]
theorem mem_allRows : ∀ (n : Nat) (r : List Int), r.length ≤ n → (∀ x ∈ r, x = 0 ∨ x = 1 ∨ x = 2) → r ∈ allRows n
  | 0, r, h, _ => by cases r with
    | nil => simp [allRows]
    | cons _ _ => simp at h
  | n + 1, [], _, _ => by simp [allRows]
  | n + 1, x :: r, h, hx => by
    have ih := mem_allRows n r (by simpa using h) fun y hy => hx y (.tail _ hy)
    unfold allRows
    refine .tail _ (List.mem_flatMap.mpr ⟨r, ih, ?_⟩)
    rcases hx x (.head _) with rfl | rfl | rfl <;> simp
theorem p1_all : ∀ r ∈ allRows 4, lefts r = lawLeft r := by decide +kernel
theorem p3_all : ∀ r ∈ allRows 4, ((lefts r.reverse).length : Int) = howMany r := by decide +kernel
theorem nums_len4 (ns : List Int) : (nums ns).length ≤ 4 := by
  match ns with
  | [] => decide
  | [a] => simp [nums, dropI]
  | a :: b :: l =>
    have e : dropI ([1, 3] : List Int) ((a :: b :: l).length : Int) = [] := by
      unfold dropI
      rw [if_pos (by omega)]
      exact List.drop_eq_nil_of_le (by simp only [List.length_cons, List.length_nil]; omega)
    unfold nums
    rw [e, List.append_nil, List.length_take]; omega
theorem row_fig (xs : List Int) : ∀ x ∈ rowOf xs, x = 0 ∨ x = 1 ∨ x = 2 := by
  intro x hx
  unfold rowOf at hx
  obtain ⟨y, _, rfl⟩ := List.mem_map.mp hx
  have h1 := Int.fmod_nonneg_of_pos y (b := 3) (by decide)
  have h2 := Int.fmod_lt_of_pos y (b := 3) (by decide)
  omega
theorem oth_fig (xs : List Int) : ∀ x ∈ otherOf xs, x = 0 ∨ x = 1 ∨ x = 2 := by
  intro x hx
  unfold otherOf at hx
  obtain ⟨y, hy, rfl⟩ := List.mem_map.mp hx
  have h0 := (List.mem_filter.mp hy).2
  have h1 := Int.fmod_nonneg_of_pos (y.fdiv 3) (b := 4) (by decide)
  simp at h0
  omega
theorem row_in (ns : List Int) : rowOf (nums ns) ∈ allRows 4 := mem_allRows 4 _ (by rw [rowOf_len]; exact nums_len4 ns) (row_fig _)
theorem oth_in (ns : List Int) : otherOf (nums ns) ∈ allRows 4 := mem_allRows 4 _ (Nat.le_trans (otherOf_len _) (nums_len4 ns)) (oth_fig _)
end Mine
end

section
open PySem PySem.W PyProof.Rows
theorem PySem.Challenge.cw_ny0040_01_holds : PySem.Challenge.rw_ny0040_01.Holds := by
  refine hd ?_
  k_go0
  (all_goals try k_fold)
  rename_i w s₀ s₁ mg mb G Y fa o pm doc kV ho hg KX X V0 GL T B TE TW w9 w8 M w7 w6 hcd ns hs hlay0 hL1 hr1 hl2 w4 w3 l vs w0 hL ra w1 r0 hI hr hcond hcond2 K0 hD h₁ F N0
  have C : Mine.Cx (Mine.K1 w.params) callerA [] [] s₁ := ⟨⟨KX, T.nolimit, ⟨mg, T.g⟩, ⟨mb, T.b, T.builtins⟩⟩, Mine.Live.nil, (fun _ m => nomatch m), ⟨[], rfl, fun _ m => nomatch m⟩, .inl rfl⟩
  have R := Mine.row_in ns
  have O := Mine.oth_in ns
  refine wpAny_mono (Mine.lawBody (A := callerA) (s := s₁) (W := []) (Fr := []) (ns := ns) C rfl (by decide +kernel) (by decide +kernel) (by rfl) (by rfl) (by rfl) rfl ⟨_, _, rfl⟩ F.keep F.ns (by rfl) (Mine.get_none_ge (Nat.le_refl _)) ⟨_, r0⟩ (by omega)
    (Mine.p1_all _ R) (Mine.p1_all _ O) (Mine.p3_all _ R) (Mine.p4 _) (Mine.p5 _ _) (Mine.p6 _ _)) (fun f s' q => ?_) (fun _ _ f => f.elim)
  obtain ⟨g, rfl⟩ := q
  obtain ⟨h', tk, e⟩ := g.sm
  refine ⟨.inl ⟨_, _, _, rfl, ?_, .bool true, ?_, unshared_nil⟩, fun b o q => g.ext b o (fun z => nomatch z) q, ?_, ?_⟩
  · intro cls; rfl
  · kc_post
  · rw [e]
  · rw [e]; exact hg
end
