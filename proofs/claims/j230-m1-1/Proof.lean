import JvmDerived
import JvmDerived.Pilot.@@N@@Statement
import JvmDerived.Pilot.@@N@@Code
set_option linter.unusedVariables false
set_option linter.unusedSimpArgs false
/-! The walk's calculus (own text): W says: from any state that stands in this method with heap h (k cells, n slots made, the addresses in M still to be written), the frame (pc, L, S) runs to a good end. -/
namespace Jvm.Pilot.@@N@@.Wk
open Jvm Jvm.ClassFile Sem Op Lib Jvm.Free Jvm.Stand Jvm.LawKit Jvm.RoadKit Bundle Jvm.Free.SB Jvm.Free.SBG
/-! ### the intern table's texts, apart from what is still written -/
def SlM (M : List Addr) (U : State) (a : Addr) (units : Array UInt16) : Prop :=
  ∃ (q : SQ) (cS : ClassId), q.sa = a ∧ Sl q cS U ∧ (∃ kS : Class, U.vm.classes[cS]? = some kS ∧ kS.kind = .ordinary ∧ q.sC.slots.size = kS.instanceTypes.size) ∧ U.vm.findClass "[B" = some q.SA.cls ∧ q.SA.slots = stringBytes units ∧ q.sa ∉ M ∧ q.sd ∉ M
theorem SlM.mono {M M' : List Addr} {U : State} {a : Addr} {u : Array UInt16} (h : SlM M U a u) (hM : ∀ b ∈ M', b ∈ M ∨ U.heap.size ≤ b) : SlM M' U a u := by
  obtain ⟨q, cS, h1, h2, h3, h4, h5, h6, h7⟩ := h
  have l1 := (Array.getElem?_eq_some_iff.mp h2.1.1).1
  have l2 := (Array.getElem?_eq_some_iff.mp h2.1.2.2.2.2.2.2.2.2.2.1).1
  exact ⟨q, cS, h1, h2, h3, h4, h5, fun r => (hM _ r).elim h6 fun z => absurd l1 (Nat.not_lt.mpr z), fun r => (hM _ r).elim h7 fun z => absurd l2 (Nat.not_lt.mpr z)⟩
theorem SlM.move {M : List Addr} {U U' : State} {a : Addr} {u : Array UInt16} (h : SlM M U a u) (hal : U.vm.Alike U'.vm) (hk : ∀ (b : Addr) (c : Cell), U.heap[b]? = some c → b ∉ M → U'.heap[b]? = some c) : SlM M U' a u := by
  obtain ⟨q, cS, h1, h2, ⟨kS, k1, k2, k3⟩, h4, h5, h6, h7⟩ := h
  obtain ⟨kS', hk', ek⟩ := hal.2.2 _ _ k1
  exact ⟨q, cS, h1, h2.carry hal (hk _ _ h2.1.1 h6) (hk _ _ h2.1.2.2.2.2.2.2.2.2.2.1 h7), ⟨kS', hk', by rw [ek]; exact k2, by rw [ek]; exact k3⟩, by rw [hal.findClass]; exact h4, h5, h6, h7⟩
def IOk (Z : State) (M : List Addr) (U : State) : Prop := ∀ (units : Array UInt16) (a : Addr), units.all (· < 256) = true → U.vm.interned.find? (fun p => p.1 == units) = some (units, a) → Z.vm.interned.find? (fun p => p.1 == units) = some (units, a) ∨ SlM M U a units
/-- what every method finds and leaves: the tables warmed, the texts sound, the first heap as it was -/
def Bg (Z : State) (M : List Addr) (U : State) : Prop := Z.Warmed39 U.vm ∧ IOk Z M U ∧ Ext Z.heap U.heap ∧ (∀ b ∈ M, Z.heap.size ≤ b) ∧ ∀ b ∈ M, b < U.heap.size
def Kept (M : List Addr) (h h' : Heap) : Prop := h.size ≤ h'.size ∧ ∀ (b : Addr) (c : Cell), h[b]? = some c → b ∉ M → h'[b]? = some c
theorem Kept.refl (M : List Addr) (h : Heap) : Kept M h h := ⟨Nat.le_refl _, fun _ _ q _ => q⟩
theorem Kept.ext {M : List Addr} {h h' : Heap} (E : Ext h h') : Kept M h h' := ⟨E.1, fun b c q _ => E.2 b c q⟩
theorem Kept.keep {M ws : List Addr} {h h' : Heap} (K : Keep h h' ws) (hw : ∀ w ∈ ws, w ∈ M) : Kept M h h' := ⟨K.1, fun b c q r => K.2.1 b c q fun z => r (hw b z)⟩
theorem Kept.wr {M : List Addr} {h h' : Heap} {a : Addr} {sl : Nat} {v : Value} (W : Wr h h' a sl v) (ha : a ∈ M) : Kept M h h' := Kept.keep (Keep.of_wr W) (fun w hw => by cases List.mem_singleton.mp hw; exact ha)
theorem Bg.move {Z : State} {M : List Addr} {U U' : State} (b : Bg Z M U) (hW : Z.Warmed39 U'.vm) (hi : U'.vm.interned = U.vm.interned) (hk : Kept M U.heap U'.heap) : Bg Z M U' := by
  obtain ⟨b1, b2, b3, b4, b5⟩ := b
  have hal : U.vm.Alike U'.vm := b1.alike.symm.trans hW.alike
  refine ⟨hW, fun units a hl hf => ?_, ⟨Nat.le_trans b3.1 hk.1, fun x c q => hk.2 x c (b3.2 x c q) fun z => absurd (Array.getElem?_eq_some_iff.mp q).1 (Nat.not_lt.mpr (b4 x z))⟩, b4, fun x z => Nat.lt_of_lt_of_le (b5 x z) hk.1⟩
  rw [hi] at hf
  exact (b2 units a hl hf).imp id fun s => s.move hal hk.2
theorem Bg.shrink {Z : State} {M M' : List Addr} {U : State} (b : Bg Z M U) (hM : ∀ x ∈ M', x ∈ M) : Bg Z M' U :=
  ⟨b.1, fun units a hl hf => (b.2.1 units a hl hf).imp id fun s => s.mono fun x hx => Or.inl (hM x hx), b.2.2.1, fun x hx => b.2.2.2.1 x (hM x hx), fun x hx => b.2.2.2.2 x (hM x hx)⟩
/-- a new address may be written: it was not there when b held -/
theorem Bg.grow {Z : State} {M M' : List Addr} {U U' : State} (b : Bg Z M U) (hW : Z.Warmed39 U'.vm) (hi : U'.vm.interned = U.vm.interned) (hk : Kept M U.heap U'.heap) (hM : ∀ x ∈ M', x ∈ M ∨ (U.heap.size ≤ x ∧ x < U'.heap.size)) : Bg Z M' U' := by
  obtain ⟨b1, b2, b3, b4, b5⟩ := b
  have hal : U.vm.Alike U'.vm := b1.alike.symm.trans hW.alike
  refine ⟨hW, fun units a hl hf => ?_, ⟨Nat.le_trans b3.1 hk.1, fun x c q => hk.2 x c (b3.2 x c q) fun z => absurd (Array.getElem?_eq_some_iff.mp q).1 (Nat.not_lt.mpr (b4 x z))⟩, fun x z => (hM x z).elim (b4 x) fun q => Nat.le_trans b3.1 q.1, fun x z => (hM x z).elim (fun q => Nat.lt_of_lt_of_le (b5 x q) hk.1) fun q => q.2⟩
  rw [hi] at hf
  refine (b2 units a hl hf).imp id fun s => ?_
  have s' : SlM M' U a units := s.mono fun x hx => (hM x hx).imp id fun q => q.1
  obtain ⟨q, cS, h1, h2, ⟨kS, k1, k2, k3⟩, h4, h5, h6, h7⟩ := s
  obtain ⟨kS', hk', ek⟩ := hal.2.2 _ _ k1
  have l1 := (Array.getElem?_eq_some_iff.mp h2.1.1).1
  have l2 := (Array.getElem?_eq_some_iff.mp h2.1.2.2.2.2.2.2.2.2.2.1).1
  exact ⟨q, cS, h1, h2.carry hal (hk.2 _ _ h2.1.1 h6) (hk.2 _ _ h2.1.2.2.2.2.2.2.2.2.2.1 h7), ⟨kS', hk', by rw [ek]; exact k2, by rw [ek]; exact k3⟩, by rw [hal.findClass]; exact h4, h5, fun r => (hM _ r).elim h6 fun z => absurd l1 (Nat.not_lt.mpr z.1), fun r => (hM _ r).elim h7 fun z => absurd l2 (Nat.not_lt.mpr z.1)⟩
/-! ### the context of a walk -/
abbrev Cx : Type _ := Program × Launch × Env × Room × State × MethodId × Array Value × List Frame × Method × Code × State × Bool × List Addr × List Addr × Bool × (Option Value → Heap → Prop)
abbrev Cx.p (B : Cx) : Program := B.1
abbrev Cx.l (B : Cx) : Launch := B.2.1
abbrev Cx.e (B : Cx) : Env := B.2.2.1
abbrev Cx.R (B : Cx) : Room := B.2.2.2.1
abbrev Cx.s (B : Cx) : State := B.2.2.2.2.1
abbrev Cx.m (B : Cx) : MethodId := B.2.2.2.2.2.1
abbrev Cx.args (B : Cx) : Array Value := B.2.2.2.2.2.2.1
abbrev Cx.below (B : Cx) : List Frame := B.2.2.2.2.2.2.2.1
abbrev Cx.meth (B : Cx) : Method := B.2.2.2.2.2.2.2.2.1
abbrev Cx.c (B : Cx) : Code := B.2.2.2.2.2.2.2.2.2.1
abbrev Cx.Z (B : Cx) : State := B.2.2.2.2.2.2.2.2.2.2.1
abbrev Cx.nar (B : Cx) : Bool := B.2.2.2.2.2.2.2.2.2.2.2.1
abbrev Cx.ws (B : Cx) : List Addr := B.2.2.2.2.2.2.2.2.2.2.2.2.1
abbrev Cx.Me (B : Cx) : List Addr := B.2.2.2.2.2.2.2.2.2.2.2.2.2.1
abbrev Cx.fr (B : Cx) : Bool := B.2.2.2.2.2.2.2.2.2.2.2.2.2.2.1
abbrev Cx.Q (B : Cx) : Option Value → Heap → Prop := B.2.2.2.2.2.2.2.2.2.2.2.2.2.2.2
def refs (fr : Bool) (v : Option Value) : List Addr := match fr, v with
  | true, some (.ref a) => [a]
  | _, _ => []
/-- cl.1: no cell that stood at the method's start has been written; cl.2: String entries that are resolved -/
abbrev Cl : Type := Bool × List (String × Nat)
def Pos (B : Cx) (T : State) (h : Heap) (k n : Nat) (M : List Addr) (cl : Cl) : Prop :=
  ∃ (vm0 : Vm) (k0 : Nat) (locs : List Loc), Stand B.p B.l B.e B.R (B.s.setVm vm0) B.m B.args B.below B.meth B.c T locs k n ∧ B.s.Since vm0 k0 ∧ k0 ≤ T.heap.size ∧ (B.nar = true → B.s.WarmedH vm0) ∧
    (∀ y ∈ locs, y.base ∈ B.ws ∨ B.s.heap.size ≤ y.base) ∧ (cl.1 = true → ∀ y ∈ locs, B.s.heap.size ≤ y.base) ∧ (∀ e ∈ cl.2, ∃ a, Lit (B.s.setVm vm0) e.1 e.2 a) ∧ T.heap = h ∧ Bg B.Z M T
def Gd (B : Cx) (U : State) : Prop :=
  ∃ t o, Steps B.p.tables B.e B.below U t ∧ t.status = .running ∧ Ended t B.below o ∧ ∃ v L, o = .returned v ∧ B.Q v t.heap ∧ Keep B.s.heap t.heap B.ws ∧ Bg B.Z (refs B.fr v ++ B.Me) t ∧ (∀ y ∈ L, y.base ∈ B.ws ∨ B.s.heap.size ≤ y.base) ∧ ReturnedEndW B.s o t L B.R.cells B.R.slots ∧ (B.nar = true → B.s.WarmedH t.vm)
theorem Gd.step {B : Cx} {U U' : State} (st : ∀ t, Steps B.p.tables B.e B.below U' t → Steps B.p.tables B.e B.below U t) (g : Gd B U') : Gd B U := by
  obtain ⟨t, o, q, r⟩ := g
  exact ⟨t, o, st t q, r⟩
def W (B : Cx) (h : Heap) (k n : Nat) (M : List Addr) (cl : Cl) (pc : Nat) (L : Array Slot) (S : List Value) : Prop := ∀ T, Pos B T h k n M cl → Gd B (T.setTop (mkF B.m pc L S))
def Ok (B : Cx) (l : Launch) (Z : State) (nar : Bool) (own nm : String) (code : ByteArray) (ml : Nat) (ret : Option FieldType) (R : Room) (h0 : Heap) (ws : List Addr) (fr : Bool) (Q : Option Value → Heap → Prop) (M : List Addr) : Prop :=
  B.p.tables.exec = Jvm.exec ∧ B.c.code = code ∧ B.c.maxLocals = ml ∧ B.s.vm.findClass own = some B.m.cls ∧ B.meth.name = nm ∧ B.meth.sig.returnType = ret ∧ B.meth.locks = false ∧ Z.Warmed39 B.s.vm ∧ B.l = l ∧ B.R = R ∧ B.Z = Z ∧ B.nar = nar ∧ B.ws = ws ∧ B.Me = M ∧ B.fr = fr ∧ B.Q = Q ∧ B.s.heap = h0
section Acc
variable {B : Cx} {l : Launch} {Z : State} {nar : Bool} {own nm : String} {code : ByteArray} {ml : Nat} {ret : Option FieldType} {R : Room} {h0 : Heap} {ws : List Addr} {fr : Bool} {Q : Option Value → Heap → Prop} {Me : List Addr}
theorem Ok.x (ok : Ok B l Z nar own nm code ml ret R h0 ws fr Q Me) : B.p.tables.exec = Jvm.exec := ok.1
theorem Ok.by_ (ok : Ok B l Z nar own nm code ml ret R h0 ws fr Q Me) : B.c.code = code := ok.2.1
theorem Ok.ml_ (ok : Ok B l Z nar own nm code ml ret R h0 ws fr Q Me) : B.c.maxLocals = ml := ok.2.2.1
theorem Ok.own_ (ok : Ok B l Z nar own nm code ml ret R h0 ws fr Q Me) : B.s.vm.findClass own = some B.m.cls := ok.2.2.2.1
theorem Ok.nm_ (ok : Ok B l Z nar own nm code ml ret R h0 ws fr Q Me) : B.meth.name = nm := ok.2.2.2.2.1
theorem Ok.ret_ (ok : Ok B l Z nar own nm code ml ret R h0 ws fr Q Me) : B.meth.sig.returnType = ret := ok.2.2.2.2.2.1
theorem Ok.lk (ok : Ok B l Z nar own nm code ml ret R h0 ws fr Q Me) : B.meth.locks = false := ok.2.2.2.2.2.2.1
theorem Ok.zs (ok : Ok B l Z nar own nm code ml ret R h0 ws fr Q Me) : Z.Warmed39 B.s.vm := ok.2.2.2.2.2.2.2.1
theorem Ok.l_ (ok : Ok B l Z nar own nm code ml ret R h0 ws fr Q Me) : B.l = l := ok.2.2.2.2.2.2.2.2.1
theorem Ok.R_ (ok : Ok B l Z nar own nm code ml ret R h0 ws fr Q Me) : B.R = R := ok.2.2.2.2.2.2.2.2.2.1
theorem Ok.Z_ (ok : Ok B l Z nar own nm code ml ret R h0 ws fr Q Me) : B.Z = Z := ok.2.2.2.2.2.2.2.2.2.2.1
theorem Ok.nar_ (ok : Ok B l Z nar own nm code ml ret R h0 ws fr Q Me) : B.nar = nar := ok.2.2.2.2.2.2.2.2.2.2.2.1
theorem Ok.ws_ (ok : Ok B l Z nar own nm code ml ret R h0 ws fr Q Me) : B.ws = ws := ok.2.2.2.2.2.2.2.2.2.2.2.2.1
theorem Ok.Me_ (ok : Ok B l Z nar own nm code ml ret R h0 ws fr Q Me) : B.Me = Me := ok.2.2.2.2.2.2.2.2.2.2.2.2.2.1
theorem Ok.fr_ (ok : Ok B l Z nar own nm code ml ret R h0 ws fr Q Me) : B.fr = fr := ok.2.2.2.2.2.2.2.2.2.2.2.2.2.2.1
theorem Ok.Q_ (ok : Ok B l Z nar own nm code ml ret R h0 ws fr Q Me) : B.Q = Q := ok.2.2.2.2.2.2.2.2.2.2.2.2.2.2.2.1
theorem Ok.h_ (ok : Ok B l Z nar own nm code ml ret R h0 ws fr Q Me) : B.s.heap = h0 := ok.2.2.2.2.2.2.2.2.2.2.2.2.2.2.2.2
theorem Ok.zv (ok : Ok B l Z nar own nm code ml ret R h0 ws fr Q Me) {vm0 : Vm} {k0 : Nat} (hS : B.s.Since vm0 k0) : Z.Warmed39 (B.s.setVm vm0).vm := State.Warmed39.trans (t := B.s) ok.zs hS.1
theorem Ok.ownv (ok : Ok B l Z nar own nm code ml ret R h0 ws fr Q Me) {vm0 : Vm} {k0 : Nat} (hS : B.s.Since vm0 k0) : (B.s.setVm vm0).vm.findClass own = some B.m.cls := (hS.1.alike.findClass _ _).trans ok.own_
end Acc
/-- behind a step that leaves the start's tables narrow-warm -/
theorem Bg.next {p : Program} {l : Launch} {e : Env} {R : Room} {s : State} {m : MethodId} {args : Array Value} {below : List Frame} {meth : Method} {c : Code} {T T' Z : State} {locs locs' : List Loc} {k n k' n' : Nat} {M : List Addr}
    (bg : Bg Z M T) (hZ : Z.Warmed39 s.vm) (X : Stand p l e R s m args below meth c T locs k n) (X' : Stand p l e R s m args below meth c T' locs' k' n') (hk : Kept M T.heap T'.heap) : Bg Z M T' :=
  bg.move (wtrans hZ X'.warmed) ((X'.warmed.interned_eq).trans X.warmed.interned_eq.symm) hk
theorem Bg.nextN {p : Program} {l : Launch} {e : Env} {R : Room} {s : State} {m : MethodId} {args : Array Value} {below : List Frame} {meth : Method} {c : Code} {T T' Z : State} {locs locs' : List Loc} {k n k' n' : Nat} {M M' : List Addr}
    (bg : Bg Z M T) (hZ : Z.Warmed39 s.vm) (X : Stand p l e R s m args below meth c T locs k n) (X' : Stand p l e R s m args below meth c T' locs' k' n') (hk : Kept M T.heap T'.heap) (hM : ∀ x ∈ M', x ∈ M ∨ (T.heap.size ≤ x ∧ x < T'.heap.size)) : Bg Z M' T' :=
  bg.grow (wtrans hZ X'.warmed) ((X'.warmed.interned_eq).trans X.warmed.interned_eq.symm) hk hM
end Jvm.Pilot.@@N@@.Wk
namespace Jvm.Pilot.@@N@@.Wk
open Jvm Jvm.ClassFile Sem Op Lib Jvm.Free Jvm.Stand Jvm.LawKit Jvm.RoadKit Bundle
section Pure
variable {B : Cx} {l : Launch} {Z : State} {nar : Bool} {own nm : String} {code : ByteArray} {ml : Nat} {ret : Option FieldType} {R : Room} {h0 : Heap} {ws : List Addr} {fr : Bool} {Q : Option Value → Heap → Prop} {Me : List Addr}
variable {h : Heap} {k n : Nat} {M : List Addr} {cl : Cl} {pc pc' : Nat} {L L' : Array Slot} {S S' : List Value}
/-- Java's (char) x -/
def c16 (x : Int32) : Int32 := x.toUInt32.toUInt16.toUInt32.toInt32
/-- Java's (byte) x -/
def b8 (x : Int32) : Int32 := x.toInt8.toInt32
theorem W.pure (st : ∀ (T target : State), At T B.m B.c B.below → Steps B.p.tables B.e B.below (T.setTop (mkF B.m pc' L' S')) target → Steps B.p.tables B.e B.below (T.setTop (mkF B.m pc L S)) target) (K : W B h k n M cl pc' L' S') : W B h k n M cl pc L S :=
  fun T P => Gd.step (fun t q => st T t (by obtain ⟨_, _, _, X, _⟩ := P; exact X.here) q) (K T P)
theorem W.aload (ok : Ok B l Z nar own nm code ml ret R h0 ws fr Q Me) {i : Nat} {v : Value} (hd : decode code pc = .ok (.aload i, 2)) (hp : pc + 2 = pc') (hl : L[i]? = some (.val v)) (hv : v.isRef = true) (K : W B h k n M cl pc' L (v :: S)) : W B h k n M cl pc L S := by
  subst hp; exact W.pure (fun T t hA q => XS.aload hA ok.x rfl (hb ok.by_ hd) hl hv q) K
theorem W.aloadN (ok : Ok B l Z nar own nm code ml ret R h0 ws fr Q Me) {i : Fin 4} {v : Value} (hd : decode code pc = .ok (.aload_n i, 1)) (hp : pc + 1 = pc') (hl : L[i.val]? = some (.val v)) (hv : v.isRef = true) (K : W B h k n M cl pc' L (v :: S)) : W B h k n M cl pc L S := by
  subst hp; exact W.pure (fun T t hA q => XS.aloadN hA ok.x rfl (hb ok.by_ hd) hl hv q) K
theorem W.iload (ok : Ok B l Z nar own nm code ml ret R h0 ws fr Q Me) {i : Nat} {v : Int32} (hd : decode code pc = .ok (.iload i, 2)) (hp : pc + 2 = pc') (hl : L[i]? = some (.val (.int v))) (K : W B h k n M cl pc' L (.int v :: S)) : W B h k n M cl pc L S := by
  subst hp; exact W.pure (fun T t hA q => XS.iload hA ok.x rfl (hb ok.by_ hd) hl q) K
theorem W.iloadN (ok : Ok B l Z nar own nm code ml ret R h0 ws fr Q Me) {i : Fin 4} {v : Int32} (hd : decode code pc = .ok (.iload_n i, 1)) (hp : pc + 1 = pc') (hl : L[i.val]? = some (.val (.int v))) (K : W B h k n M cl pc' L (.int v :: S)) : W B h k n M cl pc L S := by
  subst hp; exact W.pure (fun T t hA q => XS.iloadN hA ok.x rfl (hb ok.by_ hd) hl q) K
theorem W.lload (ok : Ok B l Z nar own nm code ml ret R h0 ws fr Q Me) {i : Nat} {v : Int64} (hd : decode code pc = .ok (.lload i, 2)) (hp : pc + 2 = pc') (hl : L[i]? = some (.val (.long v))) (K : W B h k n M cl pc' L (.long v :: S)) : W B h k n M cl pc L S := by
  subst hp; exact W.pure (fun T t hA q => XT.lload hA ok.x rfl (hb ok.by_ hd) hl q) K
theorem W.lloadN (ok : Ok B l Z nar own nm code ml ret R h0 ws fr Q Me) {i : Fin 4} {v : Int64} (hd : decode code pc = .ok (.lload_n i, 1)) (hp : pc + 1 = pc') (hl : L[i.val]? = some (.val (.long v))) (K : W B h k n M cl pc' L (.long v :: S)) : W B h k n M cl pc L S := by
  subst hp; exact W.pure (fun T t hA q => XT.lloadN hA ok.x rfl (hb ok.by_ hd) hl q) K
theorem W.iconst (ok : Ok B l Z nar own nm code ml ret R h0 ws fr Q Me) {i : Int} (v : Int32) (hd : decode code pc = .ok (.iconst i, 1)) (hp : pc + 1 = pc') (hv : Int32.ofInt i = v) (K : W B h k n M cl pc' L (.int v :: S)) : W B h k n M cl pc L S := by
  subst hp; exact W.pure (fun T t hA q => XT.iconstV hA ok.x rfl v (hb ok.by_ hd) hv q) K
theorem W.bipush (ok : Ok B l Z nar own nm code ml ret R h0 ws fr Q Me) {i : Int} (v : Int32) (hd : decode code pc = .ok (.bipush i, 2)) (hp : pc + 2 = pc') (hv : (Int8.ofInt i).toInt32 = v) (K : W B h k n M cl pc' L (.int v :: S)) : W B h k n M cl pc L S := by
  subst hp; exact W.pure (fun T t hA q => XT.bipushV hA ok.x rfl v (hb ok.by_ hd) hv q) K
theorem W.sipush (ok : Ok B l Z nar own nm code ml ret R h0 ws fr Q Me) {i : Int} (v : Int32) (hd : decode code pc = .ok (.sipush i, 3)) (hp : pc + 3 = pc') (hv : (Int16.ofInt i).toInt32 = v) (K : W B h k n M cl pc' L (.int v :: S)) : W B h k n M cl pc L S := by
  subst hp; exact W.pure (fun T t hA q => XT.sipushV hA ok.x rfl v (hb ok.by_ hd) hv q) K
theorem W.lconst (ok : Ok B l Z nar own nm code ml ret R h0 ws fr Q Me) {i : Fin 2} (v : Int64) (hd : decode code pc = .ok (.lconst i, 1)) (hp : pc + 1 = pc') (hv : Int64.ofNat i = v) (K : W B h k n M cl pc' L (.long v :: S)) : W B h k n M cl pc L S := by
  subst hp; exact W.pure (fun T t hA q => XT.lconstV hA ok.x rfl v (hb ok.by_ hd) hv q) K
theorem W.aconstNull (ok : Ok B l Z nar own nm code ml ret R h0 ws fr Q Me)  (hd : decode code pc = .ok (.aconst_null, 1)) (hp : pc + 1 = pc')  (K : W B h k n M cl pc' L (.null :: S)) : W B h k n M cl pc L S := by
  subst hp; exact W.pure (fun T t hA q => XS.aconstNull hA ok.x rfl (hb ok.by_ hd) q) K
theorem W.iadd (ok : Ok B l Z nar own nm code ml ret R h0 ws fr Q Me) {x y : Int32} (hd : decode code pc = .ok (.iadd, 1)) (hp : pc + 1 = pc')  (K : W B h k n M cl pc' L (.int (x + y) :: S)) : W B h k n M cl pc L (.int y :: .int x :: S) := by
  subst hp; exact W.pure (fun T t hA q => XS.iadd hA ok.x rfl (hb ok.by_ hd) rfl q) K
theorem W.isub (ok : Ok B l Z nar own nm code ml ret R h0 ws fr Q Me) {x y : Int32} (hd : decode code pc = .ok (.isub, 1)) (hp : pc + 1 = pc')  (K : W B h k n M cl pc' L (.int (x - y) :: S)) : W B h k n M cl pc L (.int y :: .int x :: S) := by
  subst hp; exact W.pure (fun T t hA q => XS.isub hA ok.x rfl (hb ok.by_ hd) rfl q) K
theorem W.iand (ok : Ok B l Z nar own nm code ml ret R h0 ws fr Q Me) {x y : Int32} (hd : decode code pc = .ok (.iand, 1)) (hp : pc + 1 = pc')  (K : W B h k n M cl pc' L (.int (x &&& y) :: S)) : W B h k n M cl pc L (.int y :: .int x :: S) := by
  subst hp; exact W.pure (fun T t hA q => XS.iand hA ok.x rfl (hb ok.by_ hd) rfl q) K
theorem W.imul (ok : Ok B l Z nar own nm code ml ret R h0 ws fr Q Me) {x y : Int32} (hd : decode code pc = .ok (.imul, 1)) (hp : pc + 1 = pc')  (K : W B h k n M cl pc' L (.int (x * y) :: S)) : W B h k n M cl pc L (.int y :: .int x :: S) := by
  subst hp; exact W.pure (fun T t hA q => XS.imul hA ok.x rfl (hb ok.by_ hd) rfl q) K
theorem W.ior (ok : Ok B l Z nar own nm code ml ret R h0 ws fr Q Me) {x y : Int32} (hd : decode code pc = .ok (.ior, 1)) (hp : pc + 1 = pc')  (K : W B h k n M cl pc' L (.int (x ||| y) :: S)) : W B h k n M cl pc L (.int y :: .int x :: S) := by
  subst hp; exact W.pure (fun T t hA q => XT.ior hA ok.x rfl (hb ok.by_ hd) rfl q) K
theorem W.ixor (ok : Ok B l Z nar own nm code ml ret R h0 ws fr Q Me) {x y : Int32} (hd : decode code pc = .ok (.ixor, 1)) (hp : pc + 1 = pc')  (K : W B h k n M cl pc' L (.int (x ^^^ y) :: S)) : W B h k n M cl pc L (.int y :: .int x :: S) := by
  subst hp; exact W.pure (fun T t hA q => XT.ixor hA ok.x rfl (hb ok.by_ hd) rfl q) K
theorem W.ishl (ok : Ok B l Z nar own nm code ml ret R h0 ws fr Q Me) {x y : Int32} (hd : decode code pc = .ok (.ishl, 1)) (hp : pc + 1 = pc')  (K : W B h k n M cl pc' L (.int (x <<< (y &&& 31)) :: S)) : W B h k n M cl pc L (.int y :: .int x :: S) := by
  subst hp; exact W.pure (fun T t hA q => XT.ishl hA ok.x rfl (hb ok.by_ hd) rfl q) K
theorem W.ishr (ok : Ok B l Z nar own nm code ml ret R h0 ws fr Q Me) {x y : Int32} (hd : decode code pc = .ok (.ishr, 1)) (hp : pc + 1 = pc')  (K : W B h k n M cl pc' L (.int (x >>> (y &&& 31)) :: S)) : W B h k n M cl pc L (.int y :: .int x :: S) := by
  subst hp; exact W.pure (fun T t hA q => XT.ishr hA ok.x rfl (hb ok.by_ hd) rfl q) K
theorem W.iushr (ok : Ok B l Z nar own nm code ml ret R h0 ws fr Q Me) {x y : Int32} (hd : decode code pc = .ok (.iushr, 1)) (hp : pc + 1 = pc')  (K : W B h k n M cl pc' L (.int (XT.ushr x y) :: S)) : W B h k n M cl pc L (.int y :: .int x :: S) := by
  subst hp; exact W.pure (fun T t hA q => XT.iushr hA ok.x rfl (hb ok.by_ hd) rfl q) K
theorem W.irem (ok : Ok B l Z nar own nm code ml ret R h0 ws fr Q Me) {x y : Int32} (hd : decode code pc = .ok (.irem, 1)) (hp : pc + 1 = pc') (hy : y ≠ 0) (K : W B h k n M cl pc' L (.int (x % y) :: S)) : W B h k n M cl pc L (.int y :: .int x :: S) := by
  subst hp; exact W.pure (fun T t hA q => XS.irem hA ok.x rfl (hb ok.by_ hd) rfl hy (by rw [show x - x / y * y = x % y from irem_eq_mod x y]; exact q)) K
theorem W.idiv (ok : Ok B l Z nar own nm code ml ret R h0 ws fr Q Me) {x y : Int32} (hd : decode code pc = .ok (.idiv, 1)) (hp : pc + 1 = pc') (hy : y ≠ 0) (K : W B h k n M cl pc' L (.int (x / y) :: S)) : W B h k n M cl pc L (.int y :: .int x :: S) := by
  subst hp; exact W.pure (fun T t hA q => XS.idiv hA ok.x rfl (hb ok.by_ hd) rfl hy q) K
theorem W.ineg (ok : Ok B l Z nar own nm code ml ret R h0 ws fr Q Me) {x : Int32} (hd : decode code pc = .ok (.ineg, 1)) (hp : pc + 1 = pc')  (K : W B h k n M cl pc' L (.int (-x) :: S)) : W B h k n M cl pc L (.int x :: S) := by
  subst hp; exact W.pure (fun T t hA q => XS.ineg hA ok.x rfl (hb ok.by_ hd) rfl q) K
theorem W.land (ok : Ok B l Z nar own nm code ml ret R h0 ws fr Q Me) {x y : Int64} (hd : decode code pc = .ok (.land, 1)) (hp : pc + 1 = pc')  (K : W B h k n M cl pc' L (.long (x &&& y) :: S)) : W B h k n M cl pc L (.long y :: .long x :: S) := by
  subst hp; exact W.pure (fun T t hA q => XT.land hA ok.x rfl (hb ok.by_ hd) rfl q) K
theorem W.lor (ok : Ok B l Z nar own nm code ml ret R h0 ws fr Q Me) {x y : Int64} (hd : decode code pc = .ok (.lor, 1)) (hp : pc + 1 = pc')  (K : W B h k n M cl pc' L (.long (x ||| y) :: S)) : W B h k n M cl pc L (.long y :: .long x :: S) := by
  subst hp; exact W.pure (fun T t hA q => XT.lor hA ok.x rfl (hb ok.by_ hd) rfl q) K
theorem W.lxor (ok : Ok B l Z nar own nm code ml ret R h0 ws fr Q Me) {x y : Int64} (hd : decode code pc = .ok (.lxor, 1)) (hp : pc + 1 = pc')  (K : W B h k n M cl pc' L (.long (x ^^^ y) :: S)) : W B h k n M cl pc L (.long y :: .long x :: S) := by
  subst hp; exact W.pure (fun T t hA q => XT.lxor hA ok.x rfl (hb ok.by_ hd) rfl q) K
theorem W.ladd (ok : Ok B l Z nar own nm code ml ret R h0 ws fr Q Me) {x y : Int64} (hd : decode code pc = .ok (.ladd, 1)) (hp : pc + 1 = pc')  (K : W B h k n M cl pc' L (.long (x + y) :: S)) : W B h k n M cl pc L (.long y :: .long x :: S) := by
  subst hp; exact W.pure (fun T t hA q => XT.ladd hA ok.x rfl (hb ok.by_ hd) rfl q) K
theorem W.lsub (ok : Ok B l Z nar own nm code ml ret R h0 ws fr Q Me) {x y : Int64} (hd : decode code pc = .ok (.lsub, 1)) (hp : pc + 1 = pc')  (K : W B h k n M cl pc' L (.long (x - y) :: S)) : W B h k n M cl pc L (.long y :: .long x :: S) := by
  subst hp; exact W.pure (fun T t hA q => XT.lsub hA ok.x rfl (hb ok.by_ hd) rfl q) K
theorem W.lushr (ok : Ok B l Z nar own nm code ml ret R h0 ws fr Q Me) {x : Int64} {y : Int32} (hd : decode code pc = .ok (.lushr, 1)) (hp : pc + 1 = pc')  (K : W B h k n M cl pc' L (.long (XT.ushrL x y) :: S)) : W B h k n M cl pc L (.int y :: .long x :: S) := by
  subst hp; exact W.pure (fun T t hA q => XT.lushr hA ok.x rfl (hb ok.by_ hd) rfl q) K
theorem W.lshr (ok : Ok B l Z nar own nm code ml ret R h0 ws fr Q Me) {x : Int64} {y : Int32} (hd : decode code pc = .ok (.lshr, 1)) (hp : pc + 1 = pc')  (K : W B h k n M cl pc' L (.long (x >>> (y.toInt64 &&& 63)) :: S)) : W B h k n M cl pc L (.int y :: .long x :: S) := by
  subst hp; exact W.pure (fun T t hA q => XT.lshr hA ok.x rfl (hb ok.by_ hd) rfl q) K
theorem W.lshl (ok : Ok B l Z nar own nm code ml ret R h0 ws fr Q Me) {x : Int64} {y : Int32} (hd : decode code pc = .ok (.lshl, 1)) (hp : pc + 1 = pc')  (K : W B h k n M cl pc' L (.long (x <<< (y.toInt64 &&& 63)) :: S)) : W B h k n M cl pc L (.int y :: .long x :: S) := by
  subst hp; exact W.pure (fun T t hA q => XT.lshl hA ok.x rfl (hb ok.by_ hd) rfl q) K
theorem W.i2l (ok : Ok B l Z nar own nm code ml ret R h0 ws fr Q Me) {x : Int32} (hd : decode code pc = .ok (.i2l, 1)) (hp : pc + 1 = pc')  (K : W B h k n M cl pc' L (.long x.toInt64 :: S)) : W B h k n M cl pc L (.int x :: S) := by
  subst hp; exact W.pure (fun T t hA q => XT.i2l hA ok.x rfl (hb ok.by_ hd) rfl q) K
theorem W.l2i (ok : Ok B l Z nar own nm code ml ret R h0 ws fr Q Me) {x : Int64} (hd : decode code pc = .ok (.l2i, 1)) (hp : pc + 1 = pc')  (K : W B h k n M cl pc' L (.int x.toInt32 :: S)) : W B h k n M cl pc L (.long x :: S) := by
  subst hp; exact W.pure (fun T t hA q => XT.l2i hA ok.x rfl (hb ok.by_ hd) rfl q) K
theorem W.i2b (ok : Ok B l Z nar own nm code ml ret R h0 ws fr Q Me) {x : Int32} (hd : decode code pc = .ok (.i2b, 1)) (hp : pc + 1 = pc')  (K : W B h k n M cl pc' L (.int (b8 x) :: S)) : W B h k n M cl pc L (.int x :: S) := by
  subst hp; exact W.pure (fun T t hA q => XT.i2b hA ok.x rfl (hb ok.by_ hd) rfl q) K
theorem W.i2c (ok : Ok B l Z nar own nm code ml ret R h0 ws fr Q Me) {x : Int32} (hd : decode code pc = .ok (.i2c, 1)) (hp : pc + 1 = pc')  (K : W B h k n M cl pc' L (.int (c16 x) :: S)) : W B h k n M cl pc L (.int x :: S) := by
  subst hp; exact W.pure (fun T t hA q => XT.i2c hA ok.x rfl (hb ok.by_ hd) rfl q) K
theorem W.dup (ok : Ok B l Z nar own nm code ml ret R h0 ws fr Q Me) {x : Value} (hd : decode code pc = .ok (.dup, 1)) (hp : pc + 1 = pc') (hc : x.category = 1) (K : W B h k n M cl pc' L (x :: x :: S)) : W B h k n M cl pc L (x :: S) := by
  subst hp; exact W.pure (fun T t hA q => XS.dup hA ok.x rfl (hb ok.by_ hd) rfl hc q) K
theorem W.dup2 (ok : Ok B l Z nar own nm code ml ret R h0 ws fr Q Me) {x y : Value} (hd : decode code pc = .ok (.dup2, 1)) (hp : pc + 1 = pc') (hc : x.category = 1) (hc' : y.category = 1) (K : W B h k n M cl pc' L (x :: y :: x :: y :: S)) : W B h k n M cl pc L (x :: y :: S) := by
  subst hp; exact W.pure (fun T t hA q => XT.dup2 hA ok.x rfl (hb ok.by_ hd) rfl hc hc' q) K
theorem W.dupX1 (ok : Ok B l Z nar own nm code ml ret R h0 ws fr Q Me) {x y : Value} (hd : decode code pc = .ok (.dup_x1, 1)) (hp : pc + 1 = pc') (hc : x.category = 1) (hc' : y.category = 1) (K : W B h k n M cl pc' L (x :: y :: x :: S)) : W B h k n M cl pc L (x :: y :: S) := by
  subst hp; exact W.pure (fun T t hA q => XT.dupX1 hA ok.x rfl (hb ok.by_ hd) rfl hc hc' q) K
theorem W.pop1 (ok : Ok B l Z nar own nm code ml ret R h0 ws fr Q Me) {x : Value} (hd : decode code pc = .ok (.pop, 1)) (hp : pc + 1 = pc') (hc : x.category = 1) (K : W B h k n M cl pc' L S) : W B h k n M cl pc L (x :: S) := by
  subst hp; exact W.pure (fun T t hA q => XT.pop hA ok.x rfl (hb ok.by_ hd) rfl hc q) K
theorem W.istore (ok : Ok B l Z nar own nm code ml ret R h0 ws fr Q Me) {i : Nat} {v : Int32} (hd : decode code pc = .ok (.istore i, 2)) (hp : pc + 2 = pc') (hl : storeLocals L i (.int v) = some L') (K : W B h k n M cl pc' L' S) : W B h k n M cl pc L (.int v :: S) := by
  subst hp; exact W.pure (fun T t hA q => XS.istore hA ok.x rfl (hb ok.by_ hd) rfl hl q) K
theorem W.istoreN (ok : Ok B l Z nar own nm code ml ret R h0 ws fr Q Me) {i : Fin 4} {v : Int32} (hd : decode code pc = .ok (.istore_n i, 1)) (hp : pc + 1 = pc') (hl : storeLocals L i.val (.int v) = some L') (K : W B h k n M cl pc' L' S) : W B h k n M cl pc L (.int v :: S) := by
  subst hp; exact W.pure (fun T t hA q => XS.istoreN hA ok.x rfl (hb ok.by_ hd) rfl hl q) K
theorem W.astore (ok : Ok B l Z nar own nm code ml ret R h0 ws fr Q Me) {i : Nat} {v : Value} (hd : decode code pc = .ok (.astore i, 2)) (hp : pc + 2 = pc') (hv : v.isRef = true) (hl : storeLocals L i v = some L') (K : W B h k n M cl pc' L' S) : W B h k n M cl pc L (v :: S) := by
  subst hp; exact W.pure (fun T t hA q => XS.astore hA ok.x rfl (hb ok.by_ hd) rfl hv hl q) K
theorem W.astoreN (ok : Ok B l Z nar own nm code ml ret R h0 ws fr Q Me) {i : Fin 4} {v : Value} (hd : decode code pc = .ok (.astore_n i, 1)) (hp : pc + 1 = pc') (hv : v.isRef = true) (hl : storeLocals L i.val v = some L') (K : W B h k n M cl pc' L' S) : W B h k n M cl pc L (v :: S) := by
  subst hp; exact W.pure (fun T t hA q => XS.astoreN hA ok.x rfl (hb ok.by_ hd) rfl hv hl q) K
theorem W.lstore (ok : Ok B l Z nar own nm code ml ret R h0 ws fr Q Me) {i : Nat} {v : Int64} (hd : decode code pc = .ok (.lstore i, 2)) (hp : pc + 2 = pc') (hl : storeLocals L i (.long v) = some L') (K : W B h k n M cl pc' L' S) : W B h k n M cl pc L (.long v :: S) := by
  subst hp; exact W.pure (fun T t hA q => XT.lstore hA ok.x rfl (hb ok.by_ hd) rfl hl q) K
theorem W.lstoreN (ok : Ok B l Z nar own nm code ml ret R h0 ws fr Q Me) {i : Fin 4} {v : Int64} (hd : decode code pc = .ok (.lstore_n i, 1)) (hp : pc + 1 = pc') (hl : storeLocals L i.val (.long v) = some L') (K : W B h k n M cl pc' L' S) : W B h k n M cl pc L (.long v :: S) := by
  subst hp; exact W.pure (fun T t hA q => XT.lstoreN hA ok.x rfl (hb ok.by_ hd) rfl hl q) K
theorem W.astoreS (ok : Ok B l Z nar own nm code ml ret R h0 ws fr Q Me) {i : Nat} {v : Value} {o : Slot} (hd : decode code pc = .ok (.astore i, 2)) (hp : pc + 2 = pc') (hv : v.isRef = true) (hl : L[i]? = some o) (ho : One o) (e : L.setIfInBounds i (.val v) = L') (K : W B h k n M cl pc' L' S) : W B h k n M cl pc L (v :: S) := by
  subst hp; exact W.pure (fun T t hA q => XS.astore hA ok.x rfl (hb ok.by_ hd) rfl hv ((XS.store1 hl ho (XT.cat1 hv)).trans (congrArg some e)) q) K
theorem W.astoreNS (ok : Ok B l Z nar own nm code ml ret R h0 ws fr Q Me) {i : Fin 4} {v : Value} {o : Slot} (hd : decode code pc = .ok (.astore_n i, 1)) (hp : pc + 1 = pc') (hv : v.isRef = true) (hl : L[i.val]? = some o) (ho : One o) (e : L.setIfInBounds i.val (.val v) = L') (K : W B h k n M cl pc' L' S) : W B h k n M cl pc L (v :: S) := by
  subst hp; exact W.pure (fun T t hA q => XS.astoreN hA ok.x rfl (hb ok.by_ hd) rfl hv ((XS.store1 hl ho (XT.cat1 hv)).trans (congrArg some e)) q) K
theorem W.istoreS (ok : Ok B l Z nar own nm code ml ret R h0 ws fr Q Me) {i : Nat} {v : Int32} {o : Slot} (hd : decode code pc = .ok (.istore i, 2)) (hp : pc + 2 = pc') (hl : L[i]? = some o) (ho : One o) (e : L.setIfInBounds i (.val (.int v)) = L') (K : W B h k n M cl pc' L' S) : W B h k n M cl pc L (.int v :: S) := by
  subst hp; exact W.pure (fun T t hA q => XS.istore hA ok.x rfl (hb ok.by_ hd) rfl ((XS.store1 hl ho rfl).trans (congrArg some e)) q) K
theorem W.istoreNS (ok : Ok B l Z nar own nm code ml ret R h0 ws fr Q Me) {i : Fin 4} {v : Int32} {o : Slot} (hd : decode code pc = .ok (.istore_n i, 1)) (hp : pc + 1 = pc') (hl : L[i.val]? = some o) (ho : One o) (e : L.setIfInBounds i.val (.val (.int v)) = L') (K : W B h k n M cl pc' L' S) : W B h k n M cl pc L (.int v :: S) := by
  subst hp; exact W.pure (fun T t hA q => XS.istoreN hA ok.x rfl (hb ok.by_ hd) rfl ((XS.store1 hl ho rfl).trans (congrArg some e)) q) K
theorem W.iinc (ok : Ok B l Z nar own nm code ml ret R h0 ws fr Q Me) {i : Nat} {cst : Int} {x : Int32} (v : Int32) (hd : decode code pc = .ok (.iinc i cst, 3)) (hp : pc + 3 = pc') (hv : Int32.ofInt cst = v) (hl : L[i]? = some (.val (.int x))) (hl' : storeLocals L i (.int (x + v)) = some L') (K : W B h k n M cl pc' L' S) : W B h k n M cl pc L S := by
  subst hp; exact W.pure (fun T t hA q => XT.iincV hA ok.x rfl v (hb ok.by_ hd) hv hl hl' q) K
theorem W.goto (ok : Ok B l Z nar own nm code ml ret R h0 ws fr Q Me) {o : Int} (hd : decode code pc = .ok (.goto o, 3)) (ho : 0 ≤ (pc : Int) + o) (hp : ((pc : Int) + o).toNat = pc') (K : W B h k n M cl pc' L S) : W B h k n M cl pc L S :=
  W.pure (fun T t hA q => XS.goto hA ok.x rfl (pc0 := pc) rfl (hb ok.by_ hd) ho hp q) K
theorem W.ifeq (ok : Ok B l Z nar own nm code ml ret R h0 ws fr Q Me) {x : Int32} {o : Int} {pcY pcN : Nat} (hd : decode code pc = .ok (.ifCond .eq o, 3)) (hp : pc + 3 = pcN) (ho : 0 ≤ (pc : Int) + o) (hj : ((pc : Int) + o).toNat = pcY) (KT : x = 0 → W B h k n M cl pcY L S) (KF : ¬ x = 0 → W B h k n M cl pcN L S) : W B h k n M cl pc L (.int x :: S) := by
  subst hp; by_cases c : x = 0
  · exact W.pure (fun T t hA q => XS.ifYes hA ok.x rfl (pc0 := pc) rfl (hb ok.by_ hd) rfl (XT.i0_eq_t c) ho hj q) (KT c)
  · exact W.pure (fun T t hA q => XS.ifNo hA ok.x rfl (hb ok.by_ hd) rfl (XT.i0_eq_f c) q) (KF c)
theorem W.ifne (ok : Ok B l Z nar own nm code ml ret R h0 ws fr Q Me) {x : Int32} {o : Int} {pcY pcN : Nat} (hd : decode code pc = .ok (.ifCond .ne o, 3)) (hp : pc + 3 = pcN) (ho : 0 ≤ (pc : Int) + o) (hj : ((pc : Int) + o).toNat = pcY) (KT : x = 0 → W B h k n M cl pcN L S) (KF : ¬ x = 0 → W B h k n M cl pcY L S) : W B h k n M cl pc L (.int x :: S) := by
  subst hp; by_cases c : x = 0
  · exact W.pure (fun T t hA q => XS.ifNo hA ok.x rfl (hb ok.by_ hd) rfl (XT.i0_ne_f c) q) (KT c)
  · exact W.pure (fun T t hA q => XS.ifYes hA ok.x rfl (pc0 := pc) rfl (hb ok.by_ hd) rfl (XT.i0_ne_t c) ho hj q) (KF c)
theorem W.iflt (ok : Ok B l Z nar own nm code ml ret R h0 ws fr Q Me) {x : Int32} {o : Int} {pcY pcN : Nat} (hd : decode code pc = .ok (.ifCond .lt o, 3)) (hp : pc + 3 = pcN) (ho : 0 ≤ (pc : Int) + o) (hj : ((pc : Int) + o).toNat = pcY) (KT : x < 0 → W B h k n M cl pcY L S) (KF : ¬ x < 0 → W B h k n M cl pcN L S) : W B h k n M cl pc L (.int x :: S) := by
  subst hp; by_cases c : x < 0
  · exact W.pure (fun T t hA q => XS.ifYes hA ok.x rfl (pc0 := pc) rfl (hb ok.by_ hd) rfl (XT.i0_lt_t c) ho hj q) (KT c)
  · exact W.pure (fun T t hA q => XS.ifNo hA ok.x rfl (hb ok.by_ hd) rfl (XT.i0_lt_f c) q) (KF c)
theorem W.ifge (ok : Ok B l Z nar own nm code ml ret R h0 ws fr Q Me) {x : Int32} {o : Int} {pcY pcN : Nat} (hd : decode code pc = .ok (.ifCond .ge o, 3)) (hp : pc + 3 = pcN) (ho : 0 ≤ (pc : Int) + o) (hj : ((pc : Int) + o).toNat = pcY) (KT : x < 0 → W B h k n M cl pcN L S) (KF : ¬ x < 0 → W B h k n M cl pcY L S) : W B h k n M cl pc L (.int x :: S) := by
  subst hp; by_cases c : x < 0
  · exact W.pure (fun T t hA q => XS.ifNo hA ok.x rfl (hb ok.by_ hd) rfl (XT.i0_ge_f c) q) (KT c)
  · exact W.pure (fun T t hA q => XS.ifYes hA ok.x rfl (pc0 := pc) rfl (hb ok.by_ hd) rfl (XT.i0_ge_t c) ho hj q) (KF c)
theorem W.ifgt (ok : Ok B l Z nar own nm code ml ret R h0 ws fr Q Me) {x : Int32} {o : Int} {pcY pcN : Nat} (hd : decode code pc = .ok (.ifCond .gt o, 3)) (hp : pc + 3 = pcN) (ho : 0 ≤ (pc : Int) + o) (hj : ((pc : Int) + o).toNat = pcY) (KT : 0 < x → W B h k n M cl pcY L S) (KF : ¬ 0 < x → W B h k n M cl pcN L S) : W B h k n M cl pc L (.int x :: S) := by
  subst hp; by_cases c : 0 < x
  · exact W.pure (fun T t hA q => XS.ifYes hA ok.x rfl (pc0 := pc) rfl (hb ok.by_ hd) rfl (XT.i0_gt_t c) ho hj q) (KT c)
  · exact W.pure (fun T t hA q => XS.ifNo hA ok.x rfl (hb ok.by_ hd) rfl (XT.i0_gt_f c) q) (KF c)
theorem W.ifle (ok : Ok B l Z nar own nm code ml ret R h0 ws fr Q Me) {x : Int32} {o : Int} {pcY pcN : Nat} (hd : decode code pc = .ok (.ifCond .le o, 3)) (hp : pc + 3 = pcN) (ho : 0 ≤ (pc : Int) + o) (hj : ((pc : Int) + o).toNat = pcY) (KT : 0 < x → W B h k n M cl pcN L S) (KF : ¬ 0 < x → W B h k n M cl pcY L S) : W B h k n M cl pc L (.int x :: S) := by
  subst hp; by_cases c : 0 < x
  · exact W.pure (fun T t hA q => XS.ifNo hA ok.x rfl (hb ok.by_ hd) rfl (XT.i0_le_f c) q) (KT c)
  · exact W.pure (fun T t hA q => XS.ifYes hA ok.x rfl (pc0 := pc) rfl (hb ok.by_ hd) rfl (XT.i0_le_t c) ho hj q) (KF c)
theorem W.icmpeq (ok : Ok B l Z nar own nm code ml ret R h0 ws fr Q Me) {x y : Int32} {o : Int} {pcY pcN : Nat} (hd : decode code pc = .ok (.if_icmp .eq o, 3)) (hp : pc + 3 = pcN) (ho : 0 ≤ (pc : Int) + o) (hj : ((pc : Int) + o).toNat = pcY) (KT : x = y → W B h k n M cl pcY L S) (KF : ¬ x = y → W B h k n M cl pcN L S) : W B h k n M cl pc L (.int y :: .int x :: S) := by
  subst hp; by_cases c : x = y
  · exact W.pure (fun T t hA q => XS.icmpYes hA ok.x rfl (pc0 := pc) rfl (hb ok.by_ hd) rfl (XT.ii_eq_t c) ho hj q) (KT c)
  · exact W.pure (fun T t hA q => XS.icmpNo hA ok.x rfl (hb ok.by_ hd) rfl (XT.ii_eq_f c) q) (KF c)
theorem W.icmpne (ok : Ok B l Z nar own nm code ml ret R h0 ws fr Q Me) {x y : Int32} {o : Int} {pcY pcN : Nat} (hd : decode code pc = .ok (.if_icmp .ne o, 3)) (hp : pc + 3 = pcN) (ho : 0 ≤ (pc : Int) + o) (hj : ((pc : Int) + o).toNat = pcY) (KT : x = y → W B h k n M cl pcN L S) (KF : ¬ x = y → W B h k n M cl pcY L S) : W B h k n M cl pc L (.int y :: .int x :: S) := by
  subst hp; by_cases c : x = y
  · exact W.pure (fun T t hA q => XS.icmpNo hA ok.x rfl (hb ok.by_ hd) rfl (XT.ii_ne_f c) q) (KT c)
  · exact W.pure (fun T t hA q => XS.icmpYes hA ok.x rfl (pc0 := pc) rfl (hb ok.by_ hd) rfl (XT.ii_ne_t c) ho hj q) (KF c)
theorem W.icmplt (ok : Ok B l Z nar own nm code ml ret R h0 ws fr Q Me) {x y : Int32} {o : Int} {pcY pcN : Nat} (hd : decode code pc = .ok (.if_icmp .lt o, 3)) (hp : pc + 3 = pcN) (ho : 0 ≤ (pc : Int) + o) (hj : ((pc : Int) + o).toNat = pcY) (KT : x < y → W B h k n M cl pcY L S) (KF : ¬ x < y → W B h k n M cl pcN L S) : W B h k n M cl pc L (.int y :: .int x :: S) := by
  subst hp; by_cases c : x < y
  · exact W.pure (fun T t hA q => XS.icmpYes hA ok.x rfl (pc0 := pc) rfl (hb ok.by_ hd) rfl (XT.ii_lt_t c) ho hj q) (KT c)
  · exact W.pure (fun T t hA q => XS.icmpNo hA ok.x rfl (hb ok.by_ hd) rfl (XT.ii_lt_f c) q) (KF c)
theorem W.icmpge (ok : Ok B l Z nar own nm code ml ret R h0 ws fr Q Me) {x y : Int32} {o : Int} {pcY pcN : Nat} (hd : decode code pc = .ok (.if_icmp .ge o, 3)) (hp : pc + 3 = pcN) (ho : 0 ≤ (pc : Int) + o) (hj : ((pc : Int) + o).toNat = pcY) (KT : x < y → W B h k n M cl pcN L S) (KF : ¬ x < y → W B h k n M cl pcY L S) : W B h k n M cl pc L (.int y :: .int x :: S) := by
  subst hp; by_cases c : x < y
  · exact W.pure (fun T t hA q => XS.icmpNo hA ok.x rfl (hb ok.by_ hd) rfl (XT.ii_ge_f c) q) (KT c)
  · exact W.pure (fun T t hA q => XS.icmpYes hA ok.x rfl (pc0 := pc) rfl (hb ok.by_ hd) rfl (XT.ii_ge_t c) ho hj q) (KF c)
theorem W.icmpgt (ok : Ok B l Z nar own nm code ml ret R h0 ws fr Q Me) {x y : Int32} {o : Int} {pcY pcN : Nat} (hd : decode code pc = .ok (.if_icmp .gt o, 3)) (hp : pc + 3 = pcN) (ho : 0 ≤ (pc : Int) + o) (hj : ((pc : Int) + o).toNat = pcY) (KT : y < x → W B h k n M cl pcY L S) (KF : ¬ y < x → W B h k n M cl pcN L S) : W B h k n M cl pc L (.int y :: .int x :: S) := by
  subst hp; by_cases c : y < x
  · exact W.pure (fun T t hA q => XS.icmpYes hA ok.x rfl (pc0 := pc) rfl (hb ok.by_ hd) rfl (XT.ii_gt_t c) ho hj q) (KT c)
  · exact W.pure (fun T t hA q => XS.icmpNo hA ok.x rfl (hb ok.by_ hd) rfl (XT.ii_gt_f c) q) (KF c)
theorem W.icmple (ok : Ok B l Z nar own nm code ml ret R h0 ws fr Q Me) {x y : Int32} {o : Int} {pcY pcN : Nat} (hd : decode code pc = .ok (.if_icmp .le o, 3)) (hp : pc + 3 = pcN) (ho : 0 ≤ (pc : Int) + o) (hj : ((pc : Int) + o).toNat = pcY) (KT : y < x → W B h k n M cl pcN L S) (KF : ¬ y < x → W B h k n M cl pcY L S) : W B h k n M cl pc L (.int y :: .int x :: S) := by
  subst hp; by_cases c : y < x
  · exact W.pure (fun T t hA q => XS.icmpNo hA ok.x rfl (hb ok.by_ hd) rfl (XT.ii_le_f c) q) (KT c)
  · exact W.pure (fun T t hA q => XS.icmpYes hA ok.x rfl (pc0 := pc) rfl (hb ok.by_ hd) rfl (XT.ii_le_t c) ho hj q) (KF c)
theorem W.acmpeq (ok : Ok B l Z nar own nm code ml ret R h0 ws fr Q Me) {x y : Value} {o : Int} {pcY pcN : Nat} (hd : decode code pc = .ok (.if_acmp .eq o, 3)) (hp : pc + 3 = pcN) (hx : x.isRef = true) (hy : y.isRef = true) (ho : 0 ≤ (pc : Int) + o) (hj : ((pc : Int) + o).toNat = pcY) (KT : x = y → W B h k n M cl pcY L S) (KF : ¬ x = y → W B h k n M cl pcN L S) : W B h k n M cl pc L (y :: x :: S) := by
  subst hp; by_cases c : x = y
  · exact W.pure (fun T t hA q => XT.acmpYes hA ok.x rfl (pc0 := pc) rfl (hb ok.by_ hd) rfl hx hy (XT.aa_eq_t c) ho hj q) (KT c)
  · exact W.pure (fun T t hA q => XT.acmpNo hA ok.x rfl (hb ok.by_ hd) rfl hx hy (XT.aa_eq_f c) q) (KF c)
theorem W.acmpne (ok : Ok B l Z nar own nm code ml ret R h0 ws fr Q Me) {x y : Value} {o : Int} {pcY pcN : Nat} (hd : decode code pc = .ok (.if_acmp .ne o, 3)) (hp : pc + 3 = pcN) (hx : x.isRef = true) (hy : y.isRef = true) (ho : 0 ≤ (pc : Int) + o) (hj : ((pc : Int) + o).toNat = pcY) (KT : x = y → W B h k n M cl pcN L S) (KF : ¬ x = y → W B h k n M cl pcY L S) : W B h k n M cl pc L (y :: x :: S) := by
  subst hp; by_cases c : x = y
  · exact W.pure (fun T t hA q => XT.acmpNo hA ok.x rfl (hb ok.by_ hd) rfl hx hy (XT.aa_ne_f c) q) (KT c)
  · exact W.pure (fun T t hA q => XT.acmpYes hA ok.x rfl (pc0 := pc) rfl (hb ok.by_ hd) rfl hx hy (XT.aa_ne_t c) ho hj q) (KF c)
theorem W.ifnull (ok : Ok B l Z nar own nm code ml ret R h0 ws fr Q Me) {v : Value} {o : Int} {pcY pcN : Nat} (hd : decode code pc = .ok (.ifnull o, 3)) (hp : pc + 3 = pcN) (hv : v.isRef = true) (ho : 0 ≤ (pc : Int) + o) (hj : ((pc : Int) + o).toNat = pcY) (KT : v = .null → W B h k n M cl pcY L S) (KF : ¬ v = .null → W B h k n M cl pcN L S) : W B h k n M cl pc L (v :: S) := by
  subst hp; by_cases c : v = .null
  · exact W.pure (fun T t hA q => XT.nullYes hA ok.x rfl (pc0 := pc) rfl (hb ok.by_ hd) rfl c ho hj q) (KT c)
  · exact W.pure (fun T t hA q => XT.nullNo hA ok.x rfl (hb ok.by_ hd) rfl hv c q) (KF c)
theorem W.ifnonnull (ok : Ok B l Z nar own nm code ml ret R h0 ws fr Q Me) {v : Value} {o : Int} {pcY pcN : Nat} (hd : decode code pc = .ok (.ifnonnull o, 3)) (hp : pc + 3 = pcN) (hv : v.isRef = true) (ho : 0 ≤ (pc : Int) + o) (hj : ((pc : Int) + o).toNat = pcY) (KT : v = .null → W B h k n M cl pcN L S) (KF : ¬ v = .null → W B h k n M cl pcY L S) : W B h k n M cl pc L (v :: S) := by
  subst hp; by_cases c : v = .null
  · exact W.pure (fun T t hA q => XT.nonnullNo hA ok.x rfl (hb ok.by_ hd) rfl c q) (KT c)
  · exact W.pure (fun T t hA q => XT.nonnullYes hA ok.x rfl (pc0 := pc) rfl (hb ok.by_ hd) rfl hv c ho hj q) (KF c)
end Pure
end Jvm.Pilot.@@N@@.Wk
namespace Jvm.Pilot.@@N@@.Wk
open Jvm Jvm.ClassFile Sem Op Lib Jvm.Free Jvm.Stand Jvm.LawKit Jvm.RoadKit Bundle
/-! ### arrays of int-like things, all components known -/
def ArI (Z : State) (h : Heap) (a : Addr) (ty : FieldType) (cs : List Int32) : Prop := ∃ c : Cell, Arr Z h a c ty ∧ c.slots = (cs.map Value.int).toArray ∧ ∀ x ∈ cs, fits ty (.int x) = true
theorem ArI.ext {Z : State} {h h' : Heap} {a : Addr} {ty : FieldType} {cs : List Int32} (F : ArI Z h a ty cs) (E : Ext h h') : ArI Z h' a ty cs := by obtain ⟨c, A, r⟩ := F; exact ⟨c, A.ext E, r⟩
theorem ArI.keep {Z : State} {h h' : Heap} {a : Addr} {ty : FieldType} {cs : List Int32} {ws : List Addr} (F : ArI Z h a ty cs) (K : Keep h h' ws) (q : a ∉ ws) : ArI Z h' a ty cs := by obtain ⟨c, A, r⟩ := F; exact ⟨c, ⟨K.2.1 a c A.1 q, A.2⟩, r⟩
theorem ArI.kept {Z : State} {h h' : Heap} {a : Addr} {ty : FieldType} {cs : List Int32} {M : List Addr} (F : ArI Z h a ty cs) (K : Kept M h h') (q : a ∉ M) : ArI Z h' a ty cs := by obtain ⟨c, A, r⟩ := F; exact ⟨c, ⟨K.2 a c A.1 q, A.2⟩, r⟩
theorem ArI.other {Z : State} {h h' : Heap} {a b : Addr} {ty : FieldType} {cs : List Int32} {sl : Nat} {v : Value} (F : ArI Z h b ty cs) (W : Wr h h' a sl v) (q : b ≠ a) : ArI Z h' b ty cs := by obtain ⟨c, A, r⟩ := F; exact ⟨c, A.other W q, r⟩
theorem ArI.lt {Z : State} {h : Heap} {a : Addr} {ty : FieldType} {cs : List Int32} (F : ArI Z h a ty cs) : a < h.size := by obtain ⟨c, A, -⟩ := F; exact A.lt
theorem ArI.gt {Z : State} {h : Heap} {a : Addr} {ty : FieldType} {cs : List Int32} (F : ArI Z h a ty cs) : h.size > a := F.lt
theorem gtE {Z : State} {h : Heap} {a : Addr} {C : String} (F : Exa Z h a C) : h.size > a := F.lt
theorem ArI.fit {Z : State} {h : Heap} {a : Addr} {ty : FieldType} {cs : List Int32} (F : ArI Z h a ty cs) : ∀ x ∈ cs, fits ty (.int x) = true := by obtain ⟨c, A, -, r⟩ := F; exact r
theorem ArI.cast {Z : State} {h : Heap} {a : Addr} {ty : FieldType} {cs cs' : List Int32} (F : ArI Z h a ty cs) (e : cs = cs') : ArI Z h a ty cs' := e ▸ F
theorem ArI.new {Z : State} {h : Heap} {a : Addr} {ty : FieldType} {cA : ClassId} {z : Int32} (A : Arr Z h a (newA cA ty z) ty) (hd : defaultValue ty = .int 0) (hf : fits ty (.int 0) = true) : ArI Z h a ty (List.replicate z.toNatClampNeg 0) := by
  refine ⟨_, A, ?_, fun x hx => ?_⟩
  · simp [newA, hd]
  · rw [List.eq_of_mem_replicate hx]; exact hf
theorem ArI.set {Z : State} {h h' : Heap} {a : Addr} {ty : FieldType} {cs : List Int32} {j : Nat} {x : Int32} (F : ArI Z h a ty cs) (W : Wr h h' a j (.int x)) (hx : fits ty (.int x) = true) : ArI Z h' a ty (cs.set j x) := by
  obtain ⟨c, A, e, r⟩ := F
  refine ⟨_, A.same W, ?_, fun y hy => ?_⟩
  · simp only [Cell.setSlot, e]
    apply Array.ext_getElem?
    intro i
    simp [List.map_set]
  · rcases List.mem_or_eq_of_mem_set hy with q | q
    · exact r y q
    · exact q ▸ hx
theorem Fld.kept {Z : State} {h h' : Heap} {a : Addr} {C f d : String} {v : Value} {M : List Addr} (F : Fld Z h a C f d v) (K : Kept M h h') (q : a ∉ M) : Fld Z h' a C f d v := by
  obtain ⟨cell, cf, k, i, f, h1, r⟩ := F; exact ⟨cell, cf, k, i, f, K.2 a cell h1 q, r⟩
theorem Exa.kept {Z : State} {h h' : Heap} {a : Addr} {C : String} {M : List Addr} (F : Exa Z h a C) (K : Kept M h h') (q : a ∉ M) : Exa Z h' a C := by
  obtain ⟨cell, k, h1, r⟩ := F; exact ⟨cell, k, K.2 a cell h1 q, r⟩
theorem ane {a b : Nat} (h : a < b ∨ b < a) : a ≠ b := by omega
theorem nin1 {a b : Nat} (h : a < b ∨ b < a) : a ∉ [b] := by simp; omega
theorem nin2 {a b c : Nat} (h : a < b ∨ b < a) (h2 : a < c ∨ c < a) : a ∉ [b, c] := by simp; omega
theorem ExtT {h h1 h2 : Heap} (E : Ext h h1) (E' : Ext h1 h2) : Ext h h2 := ⟨Nat.le_trans E.1 E'.1, fun a c q => E'.2 a c (E.2 a c q)⟩
theorem ExtK {h h1 h2 : Heap} {ws : List Addr} (E : Ext h h1) (K : Keep h1 h2 ws) (hw : ∀ w ∈ ws, h.size ≤ w) : Ext h h2 :=
  ⟨Nat.le_trans E.1 K.1, fun a c q => K.2.1 a c (E.2 a c q) fun z => absurd (Array.getElem?_eq_some_iff.mp q).1 (Nat.not_lt.mpr (hw a z))⟩
theorem ExtW {h h1 h2 : Heap} {b : Addr} {sl : Nat} {v : Value} (E : Ext h h1) (W : Wr h1 h2 b sl v) (hb : h.size ≤ b) : Ext h h2 := ExtK E (Keep.of_wr W) fun w hw => by cases List.mem_singleton.mp hw; exact hb
theorem ExtR (h : Heap) : Ext h h := ⟨Nat.le_refl _, fun _ _ q => q⟩
theorem Exa.neArI {Z : State} {h : Heap} {a b : Addr} {C : String} {ty : FieldType} {cs : List Int32} {a0 : Array Value} {k : Nat} (E : Exa Z h a C) (w : (Cond.instantiable C k).before a0 Z = true) (A : ArI Z h b ty cs) : a ≠ b := by
  obtain ⟨c, A, -⟩ := A
  exact ne_arr E w A
/-! ### one W-lemma a step that reads or turns the heap -/
section Heap
variable {B : Cx} {l : Launch} {Z : State} {nar : Bool} {own nm : String} {code : ByteArray} {ml : Nat} {ret : Option FieldType} {R : Room} {h0 : Heap} {ws : List Addr} {fr : Bool} {Q : Option Value → Heap → Prop} {Me : List Addr}
variable {h : Heap} {k n : Nat} {M : List Addr} {cl : Cl} {pc pc' : Nat} {L L' : Array Slot} {S S' : List Value} {a0 : Array Value}
theorem W.heap {Φ : Heap → Prop} {k' n' : Nat} {M' : List Addr} {cl' : Cl} (ok : Ok B l Z nar own nm code ml ret R h0 ws fr Q Me)
    (st : ∀ (T : State) (vm0 : Vm) (locs : List Loc), Stand B.p B.l B.e B.R (B.s.setVm vm0) B.m B.args B.below B.meth B.c T locs k n → Z.Warmed39 (B.s.setVm vm0).vm → (B.s.setVm vm0).vm.findClass own = some B.m.cls → T.heap = h → Ext Z.heap h → h0.size ≤ h.size →
      ∃ (T' : State) (locs2 : List Loc), Stand B.p B.l B.e B.R (B.s.setVm vm0) B.m B.args B.below B.meth B.c T' (locs ++ locs2) k' n' ∧ Kept M h T'.heap ∧ (∀ y ∈ locs2, y.base ∈ ws ∨ h0.size ≤ y.base) ∧ (cl'.1 = true → cl.1 = true ∧ ∀ y ∈ locs2, h0.size ≤ y.base) ∧ (∀ x ∈ M', x ∈ M ∨ (h.size ≤ x ∧ x < T'.heap.size)) ∧ Φ T'.heap ∧
        ∀ t, Steps B.p.tables B.e B.below (T'.setTop (mkF B.m pc' L' S')) t → Steps B.p.tables B.e B.below (T.setTop (mkF B.m pc L S)) t)
    (hcs : cl'.2 = cl.2) (K : ∀ h', Φ h' → W B h' k' n' M' cl' pc' L' S') : W B h k n M cl pc L S := by
  intro T P
  obtain ⟨vm0, k0, locs, X, hS, hk0, hnar, hL, hcl, hlt, eT, bg⟩ := P
  have eZ := ok.Z_
  have hsz : h0.size ≤ h.size := by rw [← ok.h_, ← eT]; exact X.same.2.1
  obtain ⟨T', locs2, X', hk, hl2, hc2, hM, hΦ, hst⟩ := st T vm0 locs X (ok.zv hS) (ok.ownv hS) eT (by rw [← eT, ← eZ]; exact bg.2.2.1) hsz
  rw [← eT] at hk hM
  refine Gd.step hst (K _ hΦ T' ⟨vm0, k0, locs ++ locs2, X', hS, Nat.le_trans hk0 hk.1, hnar, fun y hy => ?_, fun hc y hy => ?_, by rw [hcs]; exact hlt, rfl, by rw [eZ] at bg ⊢; exact bg.nextN (ok.zv hS) X X' hk hM⟩)
  · rcases List.mem_append.mp hy with q | q
    · exact hL y q
    · rw [ok.ws_, ok.h_]; exact hl2 y q
  · rcases List.mem_append.mp hy with q | q
    · exact hcl (hc2 hc).1 y q
    · rw [ok.h_]; exact (hc2 hc).2 y q
/-- a step that moves no cell -/
theorem W.still (ok : Ok B l Z nar own nm code ml ret R h0 ws fr Q Me)
    (st : ∀ (T : State) (vm0 : Vm) (locs : List Loc), Stand B.p B.l B.e B.R (B.s.setVm vm0) B.m B.args B.below B.meth B.c T locs k n → Z.Warmed39 (B.s.setVm vm0).vm → (B.s.setVm vm0).vm.findClass own = some B.m.cls → T.heap = h → Ext Z.heap h →
      ∃ (T' : State), Stand B.p B.l B.e B.R (B.s.setVm vm0) B.m B.args B.below B.meth B.c T' locs k n ∧ T'.heap = h ∧ ∀ t, Steps B.p.tables B.e B.below (T'.setTop (mkF B.m pc' L' S')) t → Steps B.p.tables B.e B.below (T.setTop (mkF B.m pc L S)) t)
    (K : W B h k n M cl pc' L' S') : W B h k n M cl pc L S := by
  refine W.heap (Φ := fun h' => h' = h) ok (fun T vm0 locs X hz ho eT hE hsz => ?_) rfl (fun h' e => e ▸ K)
  obtain ⟨T', X', e', hst⟩ := st T vm0 locs X hz ho eT hE
  exact ⟨T', [], by rw [List.append_nil]; exact X', by rw [e']; exact Kept.refl _ _, fun _ q => (nomatch q), fun q => ⟨q, fun _ q => (nomatch q)⟩, fun x q => Or.inl q, e', hst⟩
theorem W.getF (ok : Ok B l Z nar own nm code ml ret R h0 ws fr Q Me) {idx : Nat} {R0 O f d : String} {a : Addr} {v : Value} (w : (Cond.fieldLink own idx R0 f d).before a0 Z = true) (via : Via Z R0 O f d) (F : Fld Z h a O f d v)
    (hd : decode code pc = .ok (.getfield idx, 3)) (hp : pc + 3 = pc') (K : W B h k n M cl pc' L (v :: S)) : W B h k n M cl pc L (.ref a :: S) := by
  subst hp
  refine W.still ok (fun T vm0 locs X hz ho eT _ => ?_) K
  exact RoadKit.getF X ok.x hz ho (host := "") (Or.inl w) via eT F (g := mkF B.m pc L (.ref a :: S)) rfl rfl (hb ok.by_ hd)
theorem W.getS (ok : Ok B l Z nar own nm code ml ret R h0 ws fr Q Me) {idx : Nat} {R0 O f d : String} {v : Value} (w : (Cond.fieldLink own idx R0 f d).before a0 Z = true) (via : Via Z R0 O f d) (F : Sta Z Z.heap O f d v)
    (hd : decode code pc = .ok (.getstatic idx, 3)) (hp : pc + 3 = pc') (K : W B h k n M cl pc' L (v :: S)) : W B h k n M cl pc L S := by
  subst hp
  refine W.still ok (fun T vm0 locs X hz ho eT hE => ?_) K
  exact RoadKit.getS X ok.x hz ho (host := "") w via eT (F.ext hE) (g := mkF B.m pc L S) rfl (hb ok.by_ hd)
theorem W.cast (ok : Ok B l Z nar own nm code ml ret R h0 ws fr Q Me) {idx : Nat} {C : String} {a : Addr} (w : (Cond.classLink own idx C).before a0 Z = true) (F : Ins Z h a C true)
    (hd : decode code pc = .ok (.checkcast idx, 3)) (hp : pc + 3 = pc') (K : W B h k n M cl pc' L (.ref a :: S)) : W B h k n M cl pc L (.ref a :: S) := by
  subst hp
  refine W.still ok (fun T vm0 locs X hz ho eT hE => ?_) K
  exact castY X ok.x hz ho w eT F (g := mkF B.m pc L (.ref a :: S)) rfl rfl (hb ok.by_ hd)
theorem W.instY (ok : Ok B l Z nar own nm code ml ret R h0 ws fr Q Me) {idx : Nat} {C : String} {a : Addr} (w : (Cond.classLink own idx C).before a0 Z = true) (F : Ins Z h a C true)
    (hd : decode code pc = .ok (.instanceof idx, 3)) (hp : pc + 3 = pc') (K : W B h k n M cl pc' L (.int 1 :: S)) : W B h k n M cl pc L (.ref a :: S) := by
  subst hp
  refine W.still ok (fun T vm0 locs X hz ho eT hE => ?_) K
  exact RoadKit.instY X ok.x hz ho w eT F (g := mkF B.m pc L (.ref a :: S)) rfl rfl (hb ok.by_ hd)
theorem W.instNull (ok : Ok B l Z nar own nm code ml ret R h0 ws fr Q Me) {idx : Nat} (hd : decode code pc = .ok (.instanceof idx, 3)) (hp : pc + 3 = pc') (K : W B h k n M cl pc' L (.int 0 :: S)) : W B h k n M cl pc L (.null :: S) := by
  subst hp
  refine W.still ok (fun T vm0 locs X hz ho eT hE => ⟨T, X, eT, fun t q => ?_⟩) K
  exact X.instanceofNull ok.x (g := mkF B.m pc L (.null :: S)) rfl rfl (hb ok.by_ hd) t q
theorem W.arraylength (ok : Ok B l Z nar own nm code ml ret R h0 ws fr Q Me) {a : Addr} {c : Cell} {ty : FieldType} (A : Arr Z h a c ty) (v : Int32) (hv : c.slots.size.toInt32 = v)
    (hd : decode code pc = .ok (.arraylength, 1)) (hp : pc + 1 = pc') (K : W B h k n M cl pc' L (.int v :: S)) : W B h k n M cl pc L (.ref a :: S) := by
  subst hp; subst hv
  refine W.still ok (fun T vm0 locs X hz ho eT hE => ⟨T, X, eT, fun t q => ?_⟩) K
  exact X.arraylength ok.x (by rw [eT]; exact A.1) (State.isArrayOf_alike hz.alike A.2.1) (g := mkF B.m pc L (.ref a :: S)) rfl rfl (hb ok.by_ hd) t q
theorem W.lenI (ok : Ok B l Z nar own nm code ml ret R h0 ws fr Q Me) {a : Addr} {cs : List Int32} {ty : FieldType} (A : ArI Z h a ty cs) (v : Int32) (hv : cs.length.toInt32 = v)
    (hd : decode code pc = .ok (.arraylength, 1)) (hp : pc + 1 = pc') (K : W B h k n M cl pc' L (.int v :: S)) : W B h k n M cl pc L (.ref a :: S) := by
  obtain ⟨c, A, e, -⟩ := A
  exact W.arraylength ok A v (by rw [e]; simpa using hv) hd hp K
theorem inb {c : Cell} {cs : List Int32} {j x : Int32} (e : c.slots = (cs.map Value.int).toArray) (h0 : ¬ j < 0) (hx : cs[j.toNatClampNeg]? = some x) : ¬ (j < 0 ∨ c.slots.size ≤ j.toNatClampNeg) := by
  rintro (q | q)
  · exact h0 q
  · have := (List.getElem?_eq_some_iff.mp hx).1
    rw [e] at q; simp at q; omega
theorem inbL {c : Cell} {cs : List Int32} {j : Int32} (e : c.slots = (cs.map Value.int).toArray) (h0 : ¬ j < 0) (hl : j.toNatClampNeg < cs.length) : ¬ (j < 0 ∨ c.slots.size ≤ j.toNatClampNeg) := by
  rintro (q | q)
  · exact h0 q
  · rw [e] at q; simp at q; omega
theorem W.caload (ok : Ok B l Z nar own nm code ml ret R h0 ws fr Q Me) {a : Addr} {cs : List Int32} {j : Int32} (A : ArI Z h a .char cs) (x : Int32) (hj : ¬ j < 0) (hx : cs[j.toNatClampNeg]? = some x)
    (hd : decode code pc = .ok (.caload, 1)) (hp : pc + 1 = pc') (K : W B h k n M cl pc' L (.int x :: S)) : W B h k n M cl pc L (.int j :: .ref a :: S) := by
  subst hp
  obtain ⟨c, A, e, -⟩ := A
  refine W.still ok (fun T vm0 locs X hz ho eT hE => ⟨T, X, eT, fun t q => ?_⟩) K
  exact X.caload ok.x (j := j) (v := .int x) (by rw [eT]; exact A.1) (State.isArrayOf_alike hz.alike A.2.1) A.2.2 (inb e hj hx) (by rw [e]; simp [hx]) (g := mkF B.m pc L (.int j :: .ref a :: S)) rfl rfl (hb ok.by_ hd) t q
theorem W.baload (ok : Ok B l Z nar own nm code ml ret R h0 ws fr Q Me) {a : Addr} {cs : List Int32} {j : Int32} (A : ArI Z h a .byte cs) (x : Int32) (hj : ¬ j < 0) (hx : cs[j.toNatClampNeg]? = some x)
    (hd : decode code pc = .ok (.baload, 1)) (hp : pc + 1 = pc') (K : W B h k n M cl pc' L (.int x :: S)) : W B h k n M cl pc L (.int j :: .ref a :: S) := by
  subst hp
  obtain ⟨c, A, e, -⟩ := A
  refine W.still ok (fun T vm0 locs X hz ho eT hE => ⟨T, X, eT, fun t q => ?_⟩) K
  exact X.baloadBytes ok.x (j := j) (v := .int x) (by rw [eT]; exact A.1) (State.isArrayOf_alike hz.alike A.2.1) A.2.2 (inb e hj hx) (by rw [e]; simp [hx]) (g := mkF B.m pc L (.int j :: .ref a :: S)) rfl rfl (hb ok.by_ hd) t q
/-- 'new C': the fields at their first values by D -/
theorem W.new (ok : Ok B l Z nar own nm code ml ret R h0 ws fr Q Me) {idx sz : Nat} {C : String} (w : (Cond.classLink own idx C).before a0 Z = true) (wi : (Cond.instantiable C sz).before a0 Z = true) (wz : (Cond.initialized C).before a0 Z = true)
    (hd : decode code pc = .ok (.new idx, 3)) (hp : pc + 3 = pc') (hc : k + 1 ≤ R.cells) (hn : n + sz ≤ R.slots)
    (K : ∀ (a : Addr) (h' : Heap), h0.size ≤ a → h.size = a → Ext h h' → Exa Z h' a C → (∀ {O f d : String} {ty : FieldType}, Laid Z a0 C O f d → parseFieldDescriptor d = some ty → Fld Z h' a O f d (defaultValue ty)) → Unt h' a → W B h' (k + 1) (n + sz) (a :: M) cl pc' L (.ref a :: S)) : W B h k n M cl pc L S := by
  subst hp
  refine W.heap (Φ := fun h' => h0.size ≤ h.size ∧ Ext h h' ∧ Exa Z h' h.size C ∧ (∀ {O f d : String} {ty : FieldType}, Laid Z a0 C O f d → parseFieldDescriptor d = some ty → Fld Z h' h.size O f d (defaultValue ty)) ∧ Unt h' h.size) (k' := k + 1) (n' := n + sz) (M' := h.size :: M) (cl' := cl) (L' := L) (S' := .ref h.size :: S) ok (fun T vm0 locs X hz ho eT hE hsz => ?_) rfl (fun h' ⟨p0, p1, p2, p3, p4⟩ => K _ h' p0 rfl p1 p2 p3 p4)
  have eR := ok.R_
  subst eR
  obtain ⟨T', h', X', e', E', A', D', U', st⟩ := newO X ok.x hz ho w wi wz eT (g := mkF B.m pc L S) rfl (hb ok.by_ hd) hc hn
  subst e'
  exact ⟨T', [], by rw [List.append_nil]; exact X', Kept.ext E', fun _ q => (nomatch q), fun q => ⟨q, fun _ q => (nomatch q)⟩, fun x q => (List.mem_cons.mp q).elim (fun q => Or.inr ⟨Nat.le_of_eq q.symm, q ▸ A'.lt⟩) Or.inl, ⟨hsz, E', A', D', U'⟩, st⟩
theorem W.newarray (ok : Ok B l Z nar own nm code ml ret R h0 ws fr Q Me) {aty : ArrayType} (w : (Cond.arrayClass (newarray.typeOf aty)).before a0 Z = true) {z : Int32} {cap : Nat} (hz0 : ¬ z < 0) (hcap : z.toNatClampNeg ≤ cap) (hb8 : cap * 8 ≤ 536870912)
    (hd : decode code pc = .ok (.newarray aty, 2)) (hp : pc + 2 = pc') (hc : k + 1 ≤ R.cells) (hn : n + cap ≤ R.slots)
    (K : ∀ (a : Addr) (h' : Heap) (cA : ClassId), h0.size ≤ a → h.size = a → Ext h h' → Arr Z h' a (newA cA (newarray.typeOf aty) z) (newarray.typeOf aty) → W B h' (k + 1) (n + cap) (a :: M) cl pc' L (.ref a :: S)) : W B h k n M cl pc L (.int z :: S) := by
  subst hp
  refine W.heap (Φ := fun h' => h0.size ≤ h.size ∧ Ext h h' ∧ ∃ cA, Arr Z h' h.size (newA cA (newarray.typeOf aty) z) (newarray.typeOf aty)) (k' := k + 1) (n' := n + cap) (M' := h.size :: M) (cl' := cl) (L' := L) (S' := .ref h.size :: S) ok (fun T vm0 locs X hz ho eT hE hsz => ?_) rfl (fun h' ⟨p0, p1, cA, p2⟩ => K _ h' cA p0 rfl p1 p2)
  have eR := ok.R_
  subst eR
  obtain ⟨T', h', cA, X', e', E', A', st⟩ := newP X ok.x hz w eT (g := mkF B.m pc L (.int z :: S)) rfl (hb ok.by_ hd) rfl hz0 hcap hb8 hc hn
  subst e'
  exact ⟨T', [], by rw [List.append_nil]; exact X', Kept.ext E', fun _ q => (nomatch q), fun q => ⟨q, fun _ q => (nomatch q)⟩, fun x q => (List.mem_cons.mp q).elim (fun q => Or.inr ⟨Nat.le_of_eq q.symm, q ▸ A'.lt⟩) Or.inl, ⟨hsz, E', cA, A'⟩, st⟩
theorem W.newC (ok : Ok B l Z nar own nm code ml ret R h0 ws fr Q Me) (w : (Cond.arrayClass .char).before a0 Z = true) {z : Int32} {cap : Nat} (hz0 : ¬ z < 0) (hcap : z.toNatClampNeg ≤ cap) (hb8 : cap * 8 ≤ 536870912)
    (hd : decode code pc = .ok (.newarray .char, 2)) (hp : pc + 2 = pc') (hc : k + 1 ≤ R.cells) (hn : n + cap ≤ R.slots)
    (K : ∀ (a : Addr) (h' : Heap), h0.size ≤ a → h.size = a → Ext h h' → ArI Z h' a .char (List.replicate z.toNatClampNeg 0) → W B h' (k + 1) (n + cap) (a :: M) cl pc' L (.ref a :: S)) : W B h k n M cl pc L (.int z :: S) :=
  W.newarray ok (aty := .char) w hz0 hcap hb8 hd hp hc hn fun a h' cA p0 p1 p2 p3 => K a h' p0 p1 p2 (ArI.new p3 rfl rfl)
theorem W.newB (ok : Ok B l Z nar own nm code ml ret R h0 ws fr Q Me) (w : (Cond.arrayClass .byte).before a0 Z = true) {z : Int32} {cap : Nat} (hz0 : ¬ z < 0) (hcap : z.toNatClampNeg ≤ cap) (hb8 : cap * 8 ≤ 536870912)
    (hd : decode code pc = .ok (.newarray .byte, 2)) (hp : pc + 2 = pc') (hc : k + 1 ≤ R.cells) (hn : n + cap ≤ R.slots)
    (K : ∀ (a : Addr) (h' : Heap), h0.size ≤ a → h.size = a → Ext h h' → ArI Z h' a .byte (List.replicate z.toNatClampNeg 0) → W B h' (k + 1) (n + cap) (a :: M) cl pc' L (.ref a :: S)) : W B h k n M cl pc L (.int z :: S) :=
  W.newarray ok (aty := .byte) w hz0 hcap hb8 hd hp hc hn fun a h' cA p0 p1 p2 p3 => K a h' p0 p1 p2 (ArI.new p3 rfl rfl)
/-- a store into an array that is still to be written: hold: cl' says whether old cells are untouched behind it -/
theorem W.castore (ok : Ok B l Z nar own nm code ml ret R h0 ws fr Q Me) {a : Addr} {cs : List Int32} {j x : Int32} {cl' : Cl} (A : ArI Z h a .char cs) (hj : ¬ j < 0) (hl : j.toNatClampNeg < cs.length) (ha : a ∈ M) (hw : a ∈ ws ∨ h0.size ≤ a) (hcl : cl'.1 = true → cl.1 = true ∧ h0.size ≤ a) (hcs : cl'.2 = cl.2)
    (hd : decode code pc = .ok (.castore, 1)) (hp : pc + 1 = pc') (K : ∀ h' : Heap, Wr h h' a j.toNatClampNeg (.int (c16 x)) → ArI Z h' a .char (cs.set j.toNatClampNeg (c16 x)) → W B h' k n M cl' pc' L S) : W B h k n M cl pc L (.int x :: .int j :: .ref a :: S) := by
  subst hp
  refine W.heap (Φ := fun h' => Wr h h' a j.toNatClampNeg (.int (c16 x))) (k' := k) (n' := n) (M' := M) (cl' := cl') (L' := L) (S' := S) ok (fun T vm0 locs X hz ho eT hE hsz => ?_) hcs (fun h' q => K h' q (A.set q (fits_nar_char x)))
  obtain ⟨c, A1, e, r⟩ := A
  obtain ⟨T', h', X', e', W', st⟩ := stC X ok.x hz eT A1 (j := j) (x := x) (inbL e hj hl) (g := mkF B.m pc L (.int x :: .int j :: .ref a :: S)) rfl rfl (hb ok.by_ hd)
  subst e'
  exact ⟨T', _, X', Kept.wr W' ha, fun y hy => by cases List.mem_singleton.mp hy; exact hw, fun q => ⟨(hcl q).1, fun y hy => by cases List.mem_singleton.mp hy; exact (hcl q).2⟩, fun x q => Or.inl q, W', st⟩
theorem W.bastore (ok : Ok B l Z nar own nm code ml ret R h0 ws fr Q Me) {a : Addr} {cs : List Int32} {j x : Int32} {cl' : Cl} (A : ArI Z h a .byte cs) (hj : ¬ j < 0) (hl : j.toNatClampNeg < cs.length) (ha : a ∈ M) (hw : a ∈ ws ∨ h0.size ≤ a) (hcl : cl'.1 = true → cl.1 = true ∧ h0.size ≤ a) (hcs : cl'.2 = cl.2)
    (hd : decode code pc = .ok (.bastore, 1)) (hp : pc + 1 = pc') (K : ∀ h' : Heap, Wr h h' a j.toNatClampNeg (.int (b8 x)) → ArI Z h' a .byte (cs.set j.toNatClampNeg (b8 x)) → W B h' k n M cl' pc' L S) : W B h k n M cl pc L (.int x :: .int j :: .ref a :: S) := by
  subst hp
  refine W.heap (Φ := fun h' => Wr h h' a j.toNatClampNeg (.int (b8 x))) (k' := k) (n' := n) (M' := M) (cl' := cl') (L' := L) (S' := S) ok (fun T vm0 locs X hz ho eT hE hsz => ?_) hcs (fun h' q => K h' q (A.set q (fits_nar_byte x)))
  obtain ⟨c, A1, e, r⟩ := A
  obtain ⟨T', h', X', e', W', st⟩ := stB X ok.x hz eT A1 (j := j) (x := x) (inbL e hj hl) (g := mkF B.m pc L (.int x :: .int j :: .ref a :: S)) rfl rfl (hb ok.by_ hd)
  subst e'
  exact ⟨T', _, X', Kept.wr W' ha, fun y hy => by cases List.mem_singleton.mp hy; exact hw, fun q => ⟨(hcl q).1, fun y hy => by cases List.mem_singleton.mp hy; exact (hcl q).2⟩, fun x q => Or.inl q, W', st⟩
theorem W.putF (ok : Ok B l Z nar own nm code ml ret R h0 ws fr Q Me) {idx kk : Nat} {R0 O f d C : String} {ty : FieldType} {a : Addr} {v v0 : Value} {cl' : Cl} (w : (Cond.fieldLink own idx R0 f d).before a0 Z = true) (via : Via Z R0 O f d) (F : Fld Z h a O f d v0) (E : Exa Z h a C)
    (La : (Cond.lays C O f d).before a0 Z = true ∨ ((Cond.laysFinal C O f d).before a0 Z = true ∧ own = O ∧ nm = "<init>")) (wi : (Cond.instantiable C kk).before a0 Z = true) (hty : parseFieldDescriptor d = some ty) (hnr : narrow ty v = v) (hf : fits ty v = true)
    (ha : a ∈ M) (hw : a ∈ ws ∨ h0.size ≤ a) (hcl : cl'.1 = true → cl.1 = true ∧ h0.size ≤ a) (hcs : cl'.2 = cl.2)
    (hd : decode code pc = .ok (.putfield idx, 3)) (hp : pc + 3 = pc') (K : ∀ h' : Heap, Wr h h' a (RoadKit.slotOf Z O f d) v → W B h' k n M cl' pc' L S) : W B h k n M cl pc L (v :: .ref a :: S) := by
  subst hp
  refine W.heap (Φ := fun h' => Wr h h' a (RoadKit.slotOf Z O f d) v) (k' := k) (n' := n) (M' := M) (cl' := cl') (L' := L) (S' := S) ok (fun T vm0 locs X hz ho eT hE hsz => ?_) hcs (fun h' q => K h' q)
  obtain ⟨T', h', X', e', W', st⟩ := RoadKit.putF X ok.x hz ho (host := "") (Or.inl w) via eT F E (La.imp id fun q => ⟨q.1, q.2.1, ok.nm_.trans q.2.2⟩) wi hty hnr hf (g := mkF B.m pc L (v :: .ref a :: S)) rfl rfl (hb ok.by_ hd)
  subst e'
  exact ⟨T', _, X', Kept.wr W' ha, fun y hy => by cases List.mem_singleton.mp hy; exact hw, fun q => ⟨(hcl q).1, fun y hy => by cases List.mem_singleton.mp hy; exact (hcl q).2⟩, fun x q => Or.inl q, W', st⟩
theorem W.initO (ok : Ok B l Z nar own nm code ml ret R h0 ws fr Q Me) {idx : Nat} {a : Addr} (w1 : (Cond.methodLink own idx Lib.objectInit).before a0 Z = true) (w2 : (Cond.instanceMethod Lib.objectInit).before a0 Z = true) (w3 : (Cond.code Lib.objectInit ⟨#[0xb1]⟩ 1 none).before a0 Z = true)
    (hL : L.size = ml) (hfr : 1 ≤ R.frames) (hlo : (S.map fun v => v.category).sum + 12 ≤ R.locals) (hd : decode code pc = .ok (.invokespecial idx, 3)) (hp : pc + 3 = pc') (K : W B h k n M cl pc' L S) : W B h k n M cl pc L (.ref a :: S) := by
  subst hp
  refine W.still ok (fun T vm0 locs X hz ho eT hE => ?_) K
  have eR := ok.R_
  subst eR
  exact RoadKit.initO X ok.x hz ho w1 w2 w3 eT (g := mkF B.m pc L (.ref a :: S)) rfl (by rw [ok.ml_]; exact hL) rfl (hb ok.by_ hd) hfr (W := (S.map fun v => v.category).sum) (by show 2 * 0 + _ ≤ _; omega) hlo
theorem W.ldcI (ok : Ok B l Z nar own nm code ml ret R h0 ws fr Q Me) {idx : Nat} {v : Int32} (w : (Cond.constant own idx v).before a0 Z = true) (hd : decode code pc = .ok (.ldc idx, 2)) (hp : pc + 2 = pc') (K : W B h k n M cl pc' L (.int v :: S)) : W B h k n M cl pc L S := by
  subst hp
  refine W.still ok (fun T vm0 locs X hz ho eT hE => ⟨T, X, eT, fun t q => ?_⟩) K
  exact X.ldcI ok.x ho (mv hz w) (g := mkF B.m pc L S) rfl (hb ok.by_ hd) q
theorem W.ldc2J (ok : Ok B l Z nar own nm code ml ret R h0 ws fr Q Me) {idx : Nat} {v : Int64} (w : (Cond.constantLong own idx v).before a0 Z = true) (hd : decode code pc = .ok (.ldc2_w idx, 3)) (hp : pc + 3 = pc') (K : W B h k n M cl pc' L (.long v :: S)) : W B h k n M cl pc L S := by
  subst hp
  refine W.still ok (fun T vm0 locs X hz ho eT hE => ⟨T, X, eT, fun t q => ?_⟩) K
  exact X.ldc2J ok.x ho (mv hz w) (g := mkF B.m pc L S) rfl (hb ok.by_ hd) q
/-! ### the end -/
theorem keep_of {p : Program} {l : Launch} {e : Env} {R : Room} {s : State} {m : MethodId} {args : Array Value} {below : List Frame} {meth : Method} {c : Code} {T : State} {locs : List Loc} {k n : Nat} {ws : List Addr}
    (X : Stand p l e R s m args below meth c T locs k n) (hL : ∀ y ∈ locs, y.base ∈ ws ∨ s.heap.size ≤ y.base) : Keep s.heap T.heap ws := by
  refine ⟨X.same.2.1, fun b c hb hn => ?_, fun b c hb => ?_⟩
  · obtain ⟨c', h1, h2, -, h4⟩ := X.same.2.2.2.2.2 b c hb
    have hlt := (Array.getElem?_eq_some_iff.mp hb).1
    have hsl : c'.slots = c.slots := Array.ext_getElem? fun i => h4 i fun hm => (hL _ hm).elim hn fun q => absurd hlt (Nat.not_lt.mpr q)
    have hcc : c' = c := by rw [h2, hsl]
    rw [← hcc]; exact h1
  · obtain ⟨c', h1, h2, h3, -⟩ := X.same.2.2.2.2.2 b c hb
    exact ⟨c', h1, by rw [h2], by rw [h2], h3⟩
theorem W.end_ (ok : Ok B l Z nar own nm code ml ret R h0 ws fr Q Me) {v : Option Value} (hv : ret = none → v = none) (hk : k ≤ R.cells) (hn : n ≤ R.slots) (hM : ∀ x ∈ refs fr v ++ Me, x ∈ M) (hQ : Keep h0 h ws → Q v h)
    (st : ∀ (T : State) (vm0 : Vm) (locs : List Loc) (fs : List Frame), Stand B.p B.l B.e B.R (B.s.setVm vm0) B.m B.args B.below B.meth B.c T locs k n → (∀ (f : JFrame) (acts : List Action), f.method = B.m → f.locked = none → f.entered = [] → (doReturn B.e (T.setTop f) acts v).1 = T.setFrames fs) → Steps B.p.tables B.e B.below (T.setTop (mkF B.m pc L S)) (T.setFrames fs)) : W B h k n M cl pc L S := by
  intro T P
  obtain ⟨vm0, k0, locs, X, hS, hk0, hnar, hL, hcl, hlt, eT, bg⟩ := P
  obtain ⟨fs, hr, hrun, hend, hW⟩ := X.leaveW hS hk0 (v := v) (fun q => hv (ok.ret_ ▸ q)) ok.lk
  have kp : Keep B.s.heap T.heap B.ws := keep_of (s := B.s.setVm vm0) X hL
  refine ⟨_, _, st T vm0 locs fs X hr, hrun, hend, v, locs, rfl, ?_, kp, ?_, hL, ⟨hW.1, hW.2.1, hW.2.2.1, hW.2.2.2.mono (by rw [ok.R_]; exact hk) (by rw [ok.R_]; exact hn)⟩, fun q => ?_⟩
  · rw [ok.Q_]
    show Q v T.heap
    rw [eT]
    rw [ok.h_, ok.ws_, eT] at kp
    exact hQ kp
  · rw [ok.fr_, ok.Me_]
    exact (bg.shrink hM).move (U' := T.setFrames fs) bg.1 rfl (Kept.refl _ _)
  · exact State.WarmedH.trans (t := B.s.setVm vm0) (hnar q) X.warmed
theorem W.retW (ok : Ok B l Z nar own nm code ml ret R h0 ws fr Q Me) {w : Value} {t : FieldType} {i : Instr} (hret : ret = some t) (hd : decode code pc = .ok (i, 1)) (hnw : narrow t w = w)
    (hi : (i = .ireturn ∧ (t = .int ∨ t = .boolean ∨ t = .byte ∨ t = .char ∨ t = .short) ∧ ∃ z, w = .int z) ∨ (i = .lreturn ∧ t = .long ∧ ∃ z, w = .long z) ∨ (i = .dreturn ∧ t = .double ∧ ∃ z, w = .double z) ∨ (i = .freturn ∧ t = .float ∧ ∃ z, w = .float z) ∨ (i = .areturn ∧ t.isReference = true ∧ w.isRef = true))
    (hk : k ≤ R.cells) (hn : n ≤ R.slots) (hM : ∀ x ∈ refs fr (some w) ++ Me, x ∈ M) (hQ : Keep h0 h ws → Q (some w) h) : W B h k n M cl pc L (w :: S) :=
  W.end_ ok (fun q => by rw [hret] at q; cases q) hk hn hM hQ fun T vm0 locs fs X hr => retOut X ok.x (ok.ret_.trans hret) hnw hi (hb ok.by_ hd) hr
theorem W.retI (ok : Ok B l Z nar own nm code ml (some .int) R h0 ws fr Q Me) {z : Int32} (hd : decode code pc = .ok (.ireturn, 1)) (hk : k ≤ R.cells) (hn : n ≤ R.slots) (hM : ∀ x ∈ Me, x ∈ M) (hQ : Keep h0 h ws → Q (some (.int z)) h) : W B h k n M cl pc L (.int z :: S) :=
  W.retW ok rfl hd rfl (Or.inl ⟨rfl, Or.inl rfl, z, rfl⟩) hk hn (by cases fr <;> exact hM) hQ
theorem W.retZ (ok : Ok B l Z nar own nm code ml (some .boolean) R h0 ws fr Q Me) {z : Int32} (hd : decode code pc = .ok (.ireturn, 1)) (hz : z &&& 1 = z) (hk : k ≤ R.cells) (hn : n ≤ R.slots) (hM : ∀ x ∈ Me, x ∈ M) (hQ : Keep h0 h ws → Q (some (.int z)) h) : W B h k n M cl pc L (.int z :: S) :=
  W.retW ok rfl hd (by show Value.int (z &&& 1) = _; rw [hz]) (Or.inl ⟨rfl, Or.inr (Or.inl rfl), z, rfl⟩) hk hn (by cases fr <;> exact hM) hQ
theorem W.retB (ok : Ok B l Z nar own nm code ml (some .byte) R h0 ws fr Q Me) {z : Int32} (hd : decode code pc = .ok (.ireturn, 1)) (hz : b8 z = z) (hk : k ≤ R.cells) (hn : n ≤ R.slots) (hM : ∀ x ∈ Me, x ∈ M) (hQ : Keep h0 h ws → Q (some (.int z)) h) : W B h k n M cl pc L (.int z :: S) :=
  W.retW ok rfl hd (by show Value.int (b8 z) = _; rw [hz]) (Or.inl ⟨rfl, Or.inr (Or.inr (Or.inl rfl)), z, rfl⟩) hk hn (by cases fr <;> exact hM) hQ
theorem W.retC (ok : Ok B l Z nar own nm code ml (some .char) R h0 ws fr Q Me) {z : Int32} (hd : decode code pc = .ok (.ireturn, 1)) (hz : c16 z = z) (hk : k ≤ R.cells) (hn : n ≤ R.slots) (hM : ∀ x ∈ Me, x ∈ M) (hQ : Keep h0 h ws → Q (some (.int z)) h) : W B h k n M cl pc L (.int z :: S) :=
  W.retW ok rfl hd (by show Value.int (c16 z) = _; rw [hz]) (Or.inl ⟨rfl, Or.inr (Or.inr (Or.inr (Or.inl rfl))), z, rfl⟩) hk hn (by cases fr <;> exact hM) hQ
theorem W.retA {t : FieldType} (ok : Ok B l Z nar own nm code ml (some t) R h0 ws fr Q Me) {w : Value} (hd : decode code pc = .ok (.areturn, 1)) (ht : t.isReference = true) (hw : w.isRef = true) (hk : k ≤ R.cells) (hn : n ≤ R.slots) (hM : ∀ x ∈ refs fr (some w) ++ Me, x ∈ M) (hQ : Keep h0 h ws → Q (some w) h) : W B h k n M cl pc L (w :: S) :=
  W.retW ok rfl hd (by cases w <;> simp [Value.isRef] at hw <;> cases t <;> simp [FieldType.isReference] at ht <;> rfl) (Or.inr (Or.inr (Or.inr (Or.inr ⟨rfl, ht, hw⟩)))) hk hn hM hQ
theorem W.retV (ok : Ok B l Z nar own nm code ml none R h0 ws fr Q Me) (hd : decode code pc = .ok (.return_, 1)) (hk : k ≤ R.cells) (hn : n ≤ R.slots) (hM : ∀ x ∈ Me, x ∈ M) (hQ : Keep h0 h ws → Q none h) : W B h k n M cl pc L [] :=
  W.end_ ok (fun _ => rfl) hk hn (by cases fr <;> exact hM) hQ fun T vm0 locs fs X hr => X.returnOut ok.x ok.ret_ (hb ok.by_ hd) hr
end Heap
end Jvm.Pilot.@@N@@.Wk
namespace Jvm.Pilot.@@N@@.Wk
open Jvm Jvm.ClassFile Sem Op Lib Jvm.Free Jvm.Stand Jvm.LawKit Jvm.RoadKit Bundle
/-! ### a method's contract, and how a call spends it -/
def Con (l : Launch) (Z : State) (nar : Bool) (y : MethodName) (bytes : ByteArray) (maxL : Nat) (ret : Option FieldType) (rm : Room) (as' : List Value) (h : Heap) (ws : List Addr) (fr : Bool) (Q : List Addr → Option Value → Heap → Prop) : Prop :=
  ∀ (ws0 : List Jvm.Cond) (M : List Addr), (∀ w ∈ ws, w ∈ M) → MetFree l y (head1 (Jvm.Cond.code y bytes maxL ret :: ws0) rm) (fun a U => a = as'.toArray ∧ U.heap = h ∧ Bg Z M U) (fun _ _ _ _ _ => True)
    (fun _ U o U' => ∃ v Lc, o = .returned v ∧ Q M v U'.heap ∧ Keep h U'.heap ws ∧ Bg Z (refs fr v ++ M) U' ∧ (∀ y ∈ Lc, y.base ∈ ws ∨ h.size ≤ y.base) ∧ ReturnedEndW U o U' Lc rm.cells rm.slots ∧ (nar = true → U.WarmedH U'.vm))
theorem ef_of {m : MethodId} {as' : List Value} {n : Nat} {Ls : Array Slot} (h : Jvm.Sym.laidSlots as' ++ List.replicate (n - (Jvm.Sym.laidSlots as').length) .unset = Ls.toList) : entryFrame m as'.toArray n = mkF m 0 Ls [] := by
  have e : argsToLocals as'.toArray n = Ls := Array.toList_inj.mp (by rw [Jvm.Sym.argsToLocals_toList]; exact h)
  exact (rfl : entryFrame m as'.toArray n = mkF m 0 (argsToLocals as'.toArray n) []).trans (congrArg (fun L => mkF m 0 L []) e)
theorem Con.intro {l : Launch} {Z : State} {nar : Bool} {y : MethodName} {bytes : ByteArray} {maxL : Nat} {ret : Option FieldType} {rm : Room} {as' : List Value} {h : Heap} {ws : List Addr} {fr : Bool} {Q : List Addr → Option Value → Heap → Prop} {L0 : Array Slot}
    (hpl : plainFor y = true) (hef : ∀ m, entryFrame m as'.toArray maxL = mkF m 0 L0 []) (body : ∀ (B : Cx) (M : List Addr), (∀ w ∈ ws, w ∈ M) → Ok B l Z nar y.cls y.name bytes maxL ret rm h ws fr (Q M) M → W B h 0 0 M (true, []) 0 L0 []) : Con l Z nar y bytes maxL ret rm as' h ws fr Q := by
  intro ws0 M hM
  refine MetFree.of_bodySF hpl hisR ?_
  intro p e s m args below meth c s₁ Bd hml hP hK
  obtain ⟨rfl, hh, bg⟩ := hP
  have X : Stand p l e rm s m as'.toArray below meth c s₁ [] 0 0 := Stand.of_body Bd
  obtain ⟨t, o, g1, g2, g3, v, Lc, g4, g5, g6, g7, g8, g9, g10⟩ := body (p, l, e, rm, s, m, as'.toArray, below, meth, c, Z, nar, ws, M, fr, Q M) M hM
    ⟨Bd.exec, Bd.bytes, hml, findClass_of_methodNamed Bd.named, (name_of_methodNamed Bd.named Bd.method).1, Bd.returns, Bd.notSynchronized, bg.1, rfl, rfl, rfl, rfl, rfl, rfl, rfl, rfl, hh⟩ s₁
    ⟨s.vm, s.heap.size, [], by rw [State.setVm_self]; exact X, (State.WarmedH.refl s).since _, by rw [Bd.state]; exact Nat.le_refl _, fun _ => State.WarmedH.refl s, fun _ q => (nomatch q), fun _ _ q => (nomatch q), fun _ q => (nomatch q), by rw [Bd.state]; exact hh, by rw [Bd.state]; exact bg.move bg.1 rfl (Kept.refl _ _)⟩
  refine ⟨t, o, by rw [hef]; exact g1, g2, g3, v, Lc, g4, g5, ?_, g7, ?_, g9, g10⟩
  · rw [← hh]; exact g6
  · rw [← hh]; exact g8
theorem Con.mono {l : Launch} {Z : State} {nar : Bool} {y : MethodName} {bytes : ByteArray} {maxL : Nat} {ret : Option FieldType} {rm : Room} {as' : List Value} {h : Heap} {ws : List Addr} {fr : Bool} {Q Q' : List Addr → Option Value → Heap → Prop}
    (C : Con l Z nar y bytes maxL ret rm as' h ws fr Q) (hq : ∀ M v h', Keep h h' ws → Q M v h' → Q' M v h') : Con l Z nar y bytes maxL ret rm as' h ws fr Q' := by
  intro ws0 M hM p e ha hc hk s m args below hf happ hP hK
  obtain ⟨n, o, g1, g2, g3, v, Lc, g4, g5, g6, g7⟩ := C ws0 M hM p e ha hc hk s m args below hf happ hP hK
  exact ⟨n, o, g1, g2, g3, v, Lc, g4, hq _ _ _ g6 g5, g6, g7⟩
theorem Con.back {l : Launch} {Z : State} {nar : Bool} {y : MethodName} {bytes : ByteArray} {maxL : Nat} {ret : Option FieldType} {rm : Room} {as' : List Value} {h : Heap} {ws : List Addr} {fr : Bool} {Q : List Addr → Option Value → Heap → Prop} {M : List Addr} {a0 : Array Value}
    (C : Con l Z nar y bytes maxL ret rm as' h ws fr Q) (hM : ∀ w ∈ ws, w ∈ M) {p : Program} {e : Env} {below : List Frame} {s : State} {args : Array Value} {R : Room} {len Wd : Nat} (hZ : Z.Warmed39 s.vm)
    (wc : (Jvm.Cond.code y bytes maxL ret).before a0 Z = true) (wz : (Jvm.Cond.initialized y.cls).before a0 Z = true) (hf : rm.frames + 1 ≤ R.frames) (hl : Wd + (maxL + 11) + rm.locals ≤ R.locals) :
    BackS l R p e below s args y len Wd (fun A a => a = as'.toArray ∧ A.U.heap = h ∧ Bg Z M A.U ∧ A.cells + rm.cells ≤ R.cells ∧ A.slots + rm.slots ≤ R.slots)
      (fun A _ v B => ∃ Lc, Q M v B.U.heap ∧ Keep h B.U.heap ws ∧ Bg Z (refs fr v ++ M) B.U ∧ (∀ y ∈ Lc, y.base ∈ ws ∨ h.size ≤ y.base) ∧ B.locs = A.locs ++ Lc ∧ B.cells = A.cells + rm.cells ∧ B.slots = A.slots + rm.slots ∧ (nar = true → A.U.WarmedH B.U.vm)) :=
  BackS.of_freeW (bytes := bytes) (maxL := maxL) (ret := ret) (E := fun _ U o t Lc k n => k = rm.cells ∧ n = rm.slots ∧ ∃ v, o = .returned v ∧ Q M v t.heap ∧ Keep h t.heap ws ∧ Bg Z (refs fr v ++ M) t ∧ (∀ y ∈ Lc, y.base ∈ ws ∨ h.size ≤ y.base) ∧ (nar = true → U.WarmedH t.vm)) (C [] M hM) hf hl
    (fun m meth c A a Y hp => have hU : Z.Warmed39 A.U.vm := wtrans hZ Y.warmed
      ⟨by show (Jvm.Cond.and _ .tt).before a A.U = true; rw [Cond.before_and, mv hU wc]; rfl, mv hU wc, mv hU wz, hp.2.2.2.1, hp.2.2.2.2⟩)
    (fun m meth c A a g mk Y hp => ⟨hp.1, hp.2.1, hp.2.2.1.move (U' := A.U.calling g mk a) hp.2.2.1.1 rfl (Kept.refl _ _)⟩) (fun _ _ _ _ _ _ _ _ _ => trivial)
    (fun _ _ _ _ ⟨v, Lc, h1, h2, h3, h4, h5, h6, h7⟩ => ⟨Lc, _, _, h6, rfl, rfl, v, h1, h2, h3, h4, h5, h7⟩)
    (fun m meth c A a g mk v t Lc k n Y hp _ _ ⟨e1, e2, v', e3, e4, e5, e6, e7, e8⟩ => by
      cases e3; subst e1 e2
      exact ⟨Lc, e4, e5, e6.move (U' := ({ A.U with heap := t.heap, slotsUsed := t.slotsUsed } : State).setVm t.vm) e6.1 rfl (Kept.refl _ _), e7, rfl, rfl, rfl, e8⟩)
section Calls
variable {B : Cx} {l : Launch} {Z : State} {nar : Bool} {own nm : String} {code : ByteArray} {ml : Nat} {ret : Option FieldType} {R : Room} {h0 : Heap} {ws : List Addr} {fr : Bool} {Q : Option Value → Heap → Prop} {Me : List Addr}
variable {h : Heap} {k n : Nat} {M : List Addr} {cl : Cl} {pc pc' : Nat} {L : Array Slot} {S : List Value} {a0 : Array Value}
variable {idx : Nat} {y : MethodName} {bytes : ByteArray} {maxL : Nat} {ret' : Option FieldType} {rm' : Room} {as' rest : List Value} {ws' : List Addr} {fr' : Bool} {Q' : List Addr → Option Value → Heap → Prop} {ps : List FieldType} {r : Option FieldType} {cl' : Cl}
theorem W.call {len : Nat} (ok : Ok B l Z nar own nm code ml ret R h0 ws fr Q Me) (wc : (Jvm.Cond.code y bytes maxL ret').before a0 Z = true) (wz : (Jvm.Cond.initialized y.cls).before a0 Z = true) (C : Con l Z nar y bytes maxL ret' rm' as' h ws' fr' Q')
    (hws : ∀ w ∈ ws', w ∈ M ∧ (w ∈ ws ∨ h0.size ≤ w)) (hcl : cl'.1 = true → cl.1 = true ∧ ∀ w ∈ ws', h0.size ≤ w) (hcs : cl'.2 = cl.2) (hf : rm'.frames + 1 ≤ R.frames) (hlo : (rest.map fun v => v.category).sum + (maxL + 11) + rm'.locals ≤ R.locals) (hcc : k + rm'.cells ≤ R.cells) (hnn : n + rm'.slots ≤ R.slots)
    (core : ∀ (T : State) (vm0 : Vm) (locs : List Loc), Stand B.p B.l B.e B.R (B.s.setVm vm0) B.m B.args B.below B.meth B.c T locs k n → Z.Warmed39 (B.s.setVm vm0).vm → (B.s.setVm vm0).vm.findClass own = some B.m.cls → T.heap = h →
      ∀ {Pre : Pt → Array Value → Prop} {Post : Pt → Array Value → Option Value → Pt → Prop}, BackS B.l B.R B.p B.e B.below (B.s.setVm vm0) B.args y len (rest.map fun v => v.category).sum Pre Post → (∀ vm₁, (B.s.setVm vm0).WarmedH vm₁ → Pre ⟨T.setVm vm₁, locs, k, n⟩ as'.toArray) →
      ∃ (v : Option Value) (vm₁ : Vm) (A : Pt), (B.s.setVm vm0).WarmedH vm₁ ∧ Stand B.p B.l B.e B.R ((B.s.setVm vm0).setVm A.U.vm) B.m B.args B.below B.meth B.c A.U A.locs A.cells A.slots ∧ (B.s.setVm vm0).Since A.U.vm A.U.heap.size ∧ T.heap.size ≤ A.U.heap.size ∧ Post ⟨T.setVm vm₁, locs, k, n⟩ as'.toArray v A ∧
        Steps B.p.tables B.e B.below (T.setTop (mkF B.m pc L S)) (A.U.setTop (mkF B.m pc' L (v.toList ++ rest))))
    (K : ∀ (v : Option Value) (h' : Heap), Q' M v h' → Keep h h' ws' → W B h' (k + rm'.cells) (n + rm'.slots) (refs fr' v ++ M) cl' pc' L (v.toList ++ rest)) : W B h k n M cl pc L S := by
  intro T P
  obtain ⟨vm0, k0, locs, X, hS, hk0, hnar, hL, hc, hlt, eT, bg⟩ := P
  have eZ := ok.Z_
  subst eZ
  have eR := ok.R_
  subst eR
  have el := ok.l_
  subst el
  have hsz : h0.size ≤ h.size := by rw [← ok.h_, ← eT]; exact X.same.2.1
  have hz := ok.zv hS
  have hK := C.back (M := M) (p := B.p) (e := B.e) (below := B.below) (s := B.s.setVm vm0) (args := B.args) (len := len) (fun w hw => (hws w hw).1) hz wc wz hf hlo
  obtain ⟨v, vm1, ⟨T', L', k', n'⟩, hw1, X', hS', hgr, ⟨Lc, q1, q2, q3, q4, q5, q6, q7, q8⟩, st⟩ := core T vm0 locs X hz (ok.ownv hS) eT
    hK (fun vm1 hw => ⟨rfl, eT, bg.move (U' := T.setVm vm1) (wtrans hz hw) (hw.interned_eq.trans X.warmed.interned_eq.symm) (Kept.refl _ _), hcc, hnn⟩)
  dsimp only [Pt.U, Pt.locs, Pt.cells, Pt.slots] at X' hS' hgr q1 q2 q3 q4 q5 q6 q7 q8 st
  subst q5 q6 q7
  obtain ⟨hS2, hZ2⟩ : B.s.Since T'.vm T'.heap.size ∧ True := ⟨hS.trans hS' (Nat.le_trans hk0 hgr), trivial⟩
  refine Gd.step (fun t q => st.trans q) (K v T'.heap q1 q2 T' ⟨T'.vm, T'.heap.size, locs ++ Lc, X', hS2, Nat.le_refl _, fun q => ?_, fun x hx => ?_, fun q x hx => ?_, fun e he => ?_, rfl, q3⟩)
  · exact State.WarmedH.trans (t := T.setVm vm1) (State.WarmedH.trans (t := B.s.setVm vm0) (hnar q) hw1) (q8 (ok.nar_ ▸ q))
  · rcases List.mem_append.mp hx with z | z
    · exact hL x z
    · rw [ok.ws_, ok.h_]
      rcases q4 x z with u | u
      · exact (hws _ u).2
      · exact Or.inr (Nat.le_trans hsz u)
  · rcases List.mem_append.mp hx with z | z
    · exact hc (hcl q).1 x z
    · rw [ok.h_]
      rcases q4 x z with u | u
      · exact (hcl q).2 _ u
      · exact Nat.le_trans hsz u
  · rw [hcs] at he
    obtain ⟨a, ha⟩ := hlt e he
    exact ⟨a, Lit.stays ha hS'.1⟩
abbrev notMH (s : String) : Prop := s ≠ "java/lang/invoke/MethodHandle" ∧ s ≠ "java/lang/invoke/VarHandle"
theorem W.callS (ok : Ok B l Z nar own nm code ml ret R h0 ws fr Q Me) (w1 : (Jvm.Cond.methodLink own idx y).before a0 Z = true) (w2 : (Jvm.Cond.static y).before a0 Z = true) (wz : (Jvm.Cond.initialized y.cls).before a0 Z = true) (wc : (Jvm.Cond.code y bytes maxL ret').before a0 Z = true) (hy : notMH y.cls)
    (hds : parseMethodDescriptor y.desc = some ⟨ps, r⟩) (hlen : as'.length = ps.length) (C : Con l Z nar y bytes maxL ret' rm' as' h ws' fr' Q') (hws : ∀ w ∈ ws', w ∈ M ∧ (w ∈ ws ∨ h0.size ≤ w)) (hcl : cl'.1 = true → cl.1 = true ∧ ∀ w ∈ ws', h0.size ≤ w) (hcs : cl'.2 = cl.2) (hL : L.size = ml)
    (hf : rm'.frames + 1 ≤ R.frames) (hlo : (rest.map fun v => v.category).sum + (maxL + 11) + rm'.locals ≤ R.locals) (hcc : k + rm'.cells ≤ R.cells) (hnn : n + rm'.slots ≤ R.slots) (hd : decode code pc = .ok (.invokestatic idx, 3)) (hp : pc + 3 = pc') (hst : S = as'.reverse ++ rest)
    (K : ∀ (v : Option Value) (h' : Heap), Q' M v h' → Keep h h' ws' → W B h' (k + rm'.cells) (n + rm'.slots) (refs fr' v ++ M) cl' pc' L (v.toList ++ rest)) : W B h k n M cl pc L S := by
  subst hp
  refine W.call (len := 3) ok wc wz C hws hcl hcs hf hlo hcc hnn (fun T vm0 locs X hz ho eT Pre Post hK hpre => ?_) K
  exact callSS X ok.x ho (mv hz w1) (mv hz w2) (mv hz wz) (mv hz wc) hy hK (g := mkF B.m pc L S) rfl (by rw [ok.ml_]; exact hL) (argsL := as') (rest := rest) (lenOf hds hlen) hst (by show 2 * 0 + _ ≤ _; omega) (hb ok.by_ hd) hpre
theorem W.callI (ok : Ok B l Z nar own nm code ml ret R h0 ws fr Q Me) {a : Addr} (hy1 : y.name = "<init>") (w1 : (Jvm.Cond.methodLink own idx y).before a0 Z = true) (w2 : (Jvm.Cond.instanceMethod y).before a0 Z = true) (wz : (Jvm.Cond.initialized y.cls).before a0 Z = true) (wc : (Jvm.Cond.code y bytes maxL none).before a0 Z = true) (hy : notMH y.cls)
    (hds : parseMethodDescriptor y.desc = some ⟨ps, r⟩) (hlen : as'.length = ps.length) (C : Con l Z nar y bytes maxL none rm' (.ref a :: as') h ws' fr' Q') (hws : ∀ w ∈ ws', w ∈ M ∧ (w ∈ ws ∨ h0.size ≤ w)) (hcl : cl'.1 = true → cl.1 = true ∧ ∀ w ∈ ws', h0.size ≤ w) (hcs : cl'.2 = cl.2) (hL : L.size = ml)
    (hf : rm'.frames + 1 ≤ R.frames) (hlo : (rest.map fun v => v.category).sum + (maxL + 11) + rm'.locals ≤ R.locals) (hcc : k + rm'.cells ≤ R.cells) (hnn : n + rm'.slots ≤ R.slots) (hd : decode code pc = .ok (.invokespecial idx, 3)) (hp : pc + 3 = pc') (hst : S = as'.reverse ++ .ref a :: rest)
    (K : ∀ (v : Option Value) (h' : Heap), Q' M v h' → Keep h h' ws' → W B h' (k + rm'.cells) (n + rm'.slots) (refs fr' v ++ M) cl' pc' L (v.toList ++ rest)) : W B h k n M cl pc L S := by
  subst hp
  refine W.call (len := 3) ok wc wz C hws hcl hcs hf hlo hcc hnn (fun T vm0 locs X hz ho eT Pre Post hK hpre => ?_) K
  exact X.specialBackS ok.x hy1 ho (mv hz w1) (mv hz w2) (mv hz wc) hy hK (g := mkF B.m pc L S) rfl (by rw [ok.ml_]; exact hL) (Steps.refl _) (argsL := as') (rest := rest) (lenOf hds hlen) hst (by show 2 * 0 + _ ≤ _; omega) (hb ok.by_ hd) hpre
theorem W.callV (ok : Ok B l Z nar own nm code ml ret R h0 ws fr Q Me) {a : Addr} {C0 : String} (w1 : (Jvm.Cond.methodLink own idx y).before a0 Z = true) (w2 : (Jvm.Cond.declares y).before a0 Z = true) (w3 : (Jvm.Cond.selects C0 y y).before a0 Z = true) (w4 : (Jvm.Cond.instanceMethod y).before a0 Z = true) (wz : (Jvm.Cond.initialized y.cls).before a0 Z = true) (wc : (Jvm.Cond.code y bytes maxL ret').before a0 Z = true) (hy : notMH y.cls)
    (E : Exa Z h a C0) (hds : parseMethodDescriptor y.desc = some ⟨ps, r⟩) (hlen : as'.length = ps.length) (C : Con l Z nar y bytes maxL ret' rm' (.ref a :: as') h ws' fr' Q') (hws : ∀ w ∈ ws', w ∈ M ∧ (w ∈ ws ∨ h0.size ≤ w)) (hcl : cl'.1 = true → cl.1 = true ∧ ∀ w ∈ ws', h0.size ≤ w) (hcs : cl'.2 = cl.2) (hL : L.size = ml)
    (hf : rm'.frames + 1 ≤ R.frames) (hlo : (rest.map fun v => v.category).sum + (maxL + 11) + rm'.locals ≤ R.locals) (hcc : k + rm'.cells ≤ R.cells) (hnn : n + rm'.slots ≤ R.slots) (hd : decode code pc = .ok (.invokevirtual idx, 3)) (hp : pc + 3 = pc') (hst : S = as'.reverse ++ .ref a :: rest)
    (K : ∀ (v : Option Value) (h' : Heap), Q' M v h' → Keep h h' ws' → W B h' (k + rm'.cells) (n + rm'.slots) (refs fr' v ++ M) cl' pc' L (v.toList ++ rest)) : W B h k n M cl pc L S := by
  subst hp
  refine W.call (len := 3) ok wc wz C hws hcl hcs hf hlo hcc hnn (fun T vm0 locs X hz ho eT Pre Post hK hpre => ?_) K
  obtain ⟨cB, kB, q1, q2, q3⟩ := isOf hz eT E
  exact X.virtualBackS ok.x ho (mv hz w1) (mv hz w2) (notFace_of_selects (args := #[]) (mv hz w3)) (mv hz w3) (mv hz w4) hy hK q1 q3 (g := mkF B.m pc L S) rfl (by rw [ok.ml_]; exact hL) (Steps.refl _) (argsL := as') (rest := rest) (lenOf hds hlen) hst (by show 2 * 0 + _ ≤ _; omega) (hb ok.by_ hd) hpre
theorem W.callF (ok : Ok B l Z nar own nm code ml ret R h0 ws fr Q Me) {a : Addr} {C0 : String} {yr : MethodName} {count : Nat} (w1 : (Jvm.Cond.methodLink own idx yr).before a0 Z = true) (w2 : (Jvm.Cond.declares yr).before a0 Z = true) (w5 : (Jvm.Cond.interfaceMethod yr.cls yr.cls yr.name yr.desc).before a0 Z = true) (k5 : ((Jvm.Cond.interfaceMethod yr.cls yr.cls yr.name yr.desc).onTables && (Jvm.Cond.interfaceMethod yr.cls yr.cls yr.name yr.desc).keepsFace) = true) (w3 : (Jvm.Cond.selects C0 yr y).before a0 Z = true) (w4 : (Jvm.Cond.instanceMethod y).before a0 Z = true)
    (w6 : (Jvm.Cond.publicMethod y).before a0 Z = true) (w7 : (Jvm.Cond.unhidden C0 yr.name yr.desc).before a0 Z = true) (w8 : (Jvm.Cond.castable C0 yr.cls).before a0 Z = true) (wz : (Jvm.Cond.initialized y.cls).before a0 Z = true) (wc : (Jvm.Cond.code y bytes maxL ret').before a0 Z = true) (hy : notMH yr.cls)
    (E : Exa Z h a C0) (hds : parseMethodDescriptor yr.desc = some ⟨ps, r⟩) (hlen : as'.length = ps.length) (C : Con l Z nar y bytes maxL ret' rm' (.ref a :: as') h ws' fr' Q') (hws : ∀ w ∈ ws', w ∈ M ∧ (w ∈ ws ∨ h0.size ≤ w)) (hcl : cl'.1 = true → cl.1 = true ∧ ∀ w ∈ ws', h0.size ≤ w) (hcs : cl'.2 = cl.2) (hL : L.size = ml)
    (hf : rm'.frames + 1 ≤ R.frames) (hlo : (rest.map fun v => v.category).sum + (maxL + 11) + rm'.locals ≤ R.locals) (hcc : k + rm'.cells ≤ R.cells) (hnn : n + rm'.slots ≤ R.slots) (hd : decode code pc = .ok (.invokeinterface idx count, 5)) (hp : pc + 5 = pc') (hst : S = as'.reverse ++ .ref a :: rest)
    (K : ∀ (v : Option Value) (h' : Heap), Q' M v h' → Keep h h' ws' → W B h' (k + rm'.cells) (n + rm'.slots) (refs fr' v ++ M) cl' pc' L (v.toList ++ rest)) : W B h k n M cl pc L S := by
  subst hp
  refine W.call (len := 5) ok wc wz C hws hcl hcs hf hlo hcc hnn (fun T vm0 locs X hz ho eT Pre Post hK hpre => ?_) K
  obtain ⟨cB, kB, q1, q2, q3⟩ := isOf hz eT E
  exact X.interfaceBackS ok.x ho (mv hz w1) (mv hz w2) (mv hz w5 k5) (mv hz w3) (mv hz w4) (mv hz w6) (mv hz w7) (mv hz w8) hy hK q1 q2 q3 (g := mkF B.m pc L S) rfl (by rw [ok.ml_]; exact hL) (Steps.refl _) (argsL := as') (rest := rest) (lenOf hds hlen) hst (by show 2 * 0 + _ ≤ _; omega) (hb ok.by_ hd) hpre
theorem W.weaken {k' n' : Nat} {cl' : Cl} (hk : k ≤ k') (hn : n ≤ n') (hcl : cl'.1 = true → cl.1 = true) (hcs : ∀ e ∈ cl'.2, e ∈ cl.2) (K : W B h k' n' M cl' pc L S) : W B h k n M cl pc L S := fun T P => by
  obtain ⟨vm0, k0, locs, X, hS, hk0, hnar, hL, hc, hlt, eT, bg⟩ := P
  exact K T ⟨vm0, k0, locs, X.mono hk hn, hS, hk0, hnar, hL, fun q => hc (hcl q), fun e he => hlt e (hcs e he), eT, bg⟩
theorem W.drop {M' : List Addr} (hM : ∀ x ∈ M', x ∈ M) (K : W B h k n M' cl pc L S) : W B h k n M cl pc L S := fun T P => by
  obtain ⟨vm0, k0, locs, X, hS, hk0, hnar, hL, hc, hlt, eT, bg⟩ := P
  exact K T ⟨vm0, k0, locs, X, hS, hk0, hnar, hL, hc, hlt, eT, bg.shrink hM⟩
/-- what the walk knows of the addresses still to be written -/
theorem W.lt (K : (∀ b ∈ M, h.size > b) → W B h k n M cl pc L S) : W B h k n M cl pc L S := fun T P => by
  obtain ⟨vm0, k0, locs, X, hS, hk0, hnar, hL, hc, hlt, eT, bg⟩ := P
  exact K (fun b hb => by rw [← eT]; exact bg.2.2.2.2 b hb) T ⟨vm0, k0, locs, X, hS, hk0, hnar, hL, hc, hlt, eT, bg⟩
theorem W.old (ok : Ok B l Z nar own nm code ml ret R h0 ws fr Q Me) (K : Ext Z.heap h → h0.size ≤ h.size → W B h k n M cl pc L S) : W B h k n M cl pc L S := fun T P => by
  obtain ⟨vm0, k0, locs, X, hS, hk0, hnar, hL, hc, hlt, eT, bg⟩ := P
  exact K (by rw [← eT, ← ok.Z_]; exact bg.2.2.1) (by rw [← ok.h_, ← eT]; exact X.same.2.1) T ⟨vm0, k0, locs, X, hS, hk0, hnar, hL, hc, hlt, eT, bg⟩
theorem pureK {w : Value} {k' n' : Nat} (K : W B h k' n' M cl pc L (w :: rest)) : ∀ (v : Option Value) (h' : Heap), (v = some w ∧ h' = h) → Keep h h' ws' → W B h' k' n' (refs false v ++ M) cl pc L (v.toList ++ rest) := by
  rintro v h' ⟨rfl, rfl⟩ -
  exact K
theorem pureK0 {k' n' : Nat} (K : W B h k' n' M cl pc L rest) : ∀ (v : Option Value) (h' : Heap), (v = none ∧ h' = h) → Keep h h' ws' → W B h' k' n' (refs false v ++ M) cl pc L (v.toList ++ rest) := by
  rintro v h' ⟨rfl, rfl⟩ -
  exact K
theorem ext_keep {h h' : Heap} (K : Keep h h' []) : Ext h h' := ⟨K.1, fun a c q => K.2.1 a c q fun z => (nomatch z)⟩
end Calls
end Jvm.Pilot.@@N@@.Wk
namespace Jvm.Pilot.@@N@@.Wk
open Jvm Jvm.ClassFile Sem Op Lib Jvm.Free Jvm.Stand Jvm.LawKit Jvm.RoadKit Bundle Jvm.Free.SB Jvm.Free.SBG
/-! ### Strings: nobody writes them, all chars known -/
abbrev ST : String := "java/lang/String"
def wide : List Int32 → List Int32
  | [] => []
  | c :: r => b8 c :: b8 (c >>> ((8 : Int32) &&& 31)) :: wide r
def Cod (cd : Int32) (cs bs : List Int32) : Prop :=
  (cd = 0 ∧ bs = cs.map b8 ∧ ∀ c ∈ cs, 0 ≤ c.toInt ∧ c.toInt ≤ 255) ∨ (cd = 1 ∧ bs = wide cs ∧ (∀ c ∈ cs, 0 ≤ c.toInt ∧ c.toInt ≤ 65535) ∧ ∃ c ∈ cs, 255 < c.toInt)
def StrM (Z : State) (h : Heap) (M : List Addr) (a : Addr) (cs : List Int32) : Prop :=
  ∃ (t : Addr) (cd : Int32) (bs : List Int32), a ∉ M ∧ t ∉ M ∧ Exa Z h a ST ∧ Fld Z h a ST "value" "[B" (.ref t) ∧ Fld Z h a ST "coder" "B" (.int cd) ∧ ArI Z h t .byte bs ∧ Cod cd cs bs
theorem StrM.kept {Z : State} {h h' : Heap} {M : List Addr} {a : Addr} {cs : List Int32} (F : StrM Z h M a cs) (K : Kept M h h') : StrM Z h' M a cs := by
  obtain ⟨t, cd, bs, q1, q2, q3, q4, q5, q6, q7⟩ := F
  exact ⟨t, cd, bs, q1, q2, Exa.kept q3 K q1, Fld.kept q4 K q1, Fld.kept q5 K q1, q6.kept K q2, q7⟩
theorem StrM.ext {Z : State} {h h' : Heap} {M : List Addr} {a : Addr} {cs : List Int32} (F : StrM Z h M a cs) (E : Ext h h') : StrM Z h' M a cs := F.kept (Kept.ext E)
theorem StrM.keep {Z : State} {h h' : Heap} {M ws : List Addr} {a : Addr} {cs : List Int32} (F : StrM Z h M a cs) (K : Keep h h' ws) (hw : ∀ w ∈ ws, w ∈ M) : StrM Z h' M a cs := F.kept (Kept.keep K hw)
theorem StrM.wr {Z : State} {h h' : Heap} {M : List Addr} {a b : Addr} {cs : List Int32} {sl : Nat} {v : Value} (F : StrM Z h M a cs) (W : Wr h h' b sl v) (hb : b ∈ M) : StrM Z h' M a cs := F.kept (Kept.wr W hb)
theorem StrM.mono {Z : State} {h : Heap} {M M' : List Addr} {a : Addr} {cs : List Int32} (F : StrM Z h M a cs) (hM : ∀ b ∈ M', b ∈ M ∨ h.size ≤ b) : StrM Z h M' a cs := by
  obtain ⟨t, cd, bs, q1, q2, q3, q4, q5, q6, q7⟩ := F
  exact ⟨t, cd, bs, fun r => (hM _ r).elim q1 fun z => absurd q3.lt (Nat.not_lt.mpr z), fun r => (hM _ r).elim q2 fun z => absurd q6.lt (Nat.not_lt.mpr z), q3, q4, q5, q6, q7⟩
theorem StrM.cons {Z : State} {h h' : Heap} {M : List Addr} {a b : Addr} {cs : List Int32} (F : StrM Z h M a cs) (hb : h.size = b) (E : Ext h h') : StrM Z h' (b :: M) a cs :=
  (F.mono (M' := b :: M) fun x hx => (List.mem_cons.mp hx).elim (fun q => Or.inr (Nat.le_of_eq (hb.trans q.symm))) Or.inl).ext E
theorem StrM.exa {Z : State} {h : Heap} {M : List Addr} {a : Addr} {cs : List Int32} (F : StrM Z h M a cs) : Exa Z h a ST := by obtain ⟨t, cd, bs, q1, q2, q3, -⟩ := F; exact q3
theorem StrM.lt {Z : State} {h : Heap} {M : List Addr} {a : Addr} {cs : List Int32} (F : StrM Z h M a cs) : a < h.size := F.exa.lt
theorem StrM.gt {Z : State} {h : Heap} {M : List Addr} {a : Addr} {cs : List Int32} (F : StrM Z h M a cs) : h.size > a := F.lt
theorem StrM.nin {Z : State} {h : Heap} {M : List Addr} {a : Addr} {cs : List Int32} (F : StrM Z h M a cs) : a ∉ M := by obtain ⟨t, cd, bs, q1, -⟩ := F; exact q1
def Str (Z : State) (h : Heap) (a : Addr) (cs : List Int32) : Prop :=
  ∃ (t : Addr) (cd : Int32) (bs : List Int32), Exa Z h a ST ∧ Fld Z h a ST "value" "[B" (.ref t) ∧ Fld Z h a ST "coder" "B" (.int cd) ∧ ArI Z h t .byte bs ∧ Cod cd cs bs
theorem StrM.str {Z : State} {h : Heap} {M : List Addr} {a : Addr} {cs : List Int32} (F : StrM Z h M a cs) : Str Z h a cs := by obtain ⟨t, cd, bs, -, -, q⟩ := F; exact ⟨t, cd, bs, q⟩
theorem Str.ext {Z : State} {h h' : Heap} {a : Addr} {cs : List Int32} (F : Str Z h a cs) (E : Ext h h') : Str Z h' a cs := by obtain ⟨t, cd, bs, q1, q2, q3, q4, q5⟩ := F; exact ⟨t, cd, bs, q1.ext E, q2.ext E, q3.ext E, q4.ext E, q5⟩
theorem Str.cast {Z : State} {h : Heap} {a : Addr} {cs cs' : List Int32} (F : Str Z h a cs) (e : cs = cs') : Str Z h a cs' := e ▸ F
theorem Str.exa {Z : State} {h : Heap} {a : Addr} {cs : List Int32} (F : Str Z h a cs) : Exa Z h a ST := by obtain ⟨t, cd, bs, q, -⟩ := F; exact q
theorem StrM.cast {Z : State} {h : Heap} {M : List Addr} {a : Addr} {cs cs' : List Int32} (F : StrM Z h M a cs) (e : cs = cs') : StrM Z h M a cs' := e ▸ F
theorem Cod.rng {cd : Int32} {cs bs : List Int32} (h : Cod cd cs bs) : ∀ c ∈ cs, 0 ≤ c.toInt ∧ c.toInt ≤ 65535 := by
  rcases h with ⟨-, -, h⟩ | ⟨-, -, h, -⟩
  · exact fun c hc => ⟨(h c hc).1, by have := (h c hc).2; omega⟩
  · exact h
theorem StrM.rng {Z : State} {h : Heap} {M : List Addr} {a : Addr} {cs : List Int32} (F : StrM Z h M a cs) : ∀ c ∈ cs, 0 ≤ c.toInt ∧ c.toInt ≤ 65535 := by obtain ⟨t, cd, bs, -, -, -, -, -, -, q⟩ := F; exact q.rng
theorem wide_length : ∀ cs : List Int32, (wide cs).length = 2 * cs.length
  | [] => rfl
  | c :: r => by simp only [wide, List.length_cons, wide_length r]; omega
/-- the chars of a literal -/
def chs (t : String) : List Int32 := t.toList.map fun c => Int32.ofNat c.toNat
theorem b8_byteI : ∀ u : UInt16, u < 256 → b8 (Int32.ofNat u.toNat) = Jvm.Lit.byteI u ∧ 0 ≤ (Int32.ofNat u.toNat).toInt ∧ (Int32.ofNat u.toNat).toInt ≤ 255 := by
  have key : ∀ i : Fin 256, b8 (Int32.ofNat i.val) = Jvm.Lit.byteI (UInt16.ofNat i.val) ∧ 0 ≤ (Int32.ofNat i.val).toInt ∧ (Int32.ofNat i.val).toInt ≤ 255 := by decide +kernel
  intro u hu
  have h256 : u.toNat < 256 := UInt16.lt_iff_toNat_lt.mp hu
  have := key ⟨u.toNat, h256⟩
  simpa using this
theorem StrM.of_sl {Z U : State} {M : List Addr} {a : Addr} {units : Array UInt16} (hal : Z.vm.Alike U.vm) (hlat : units.all (· < 256) = true) (s : SlM M U a units) : StrM Z U.heap M a (units.toList.map fun u => Int32.ofNat u.toNat) := by
  obtain ⟨q, cS, hqa, ⟨⟨s1, s2, s3, ⟨cv, kv, iv, s4, s4'⟩, ⟨cc, kc, ic, s5, s5'⟩, s6, s7, s8, s9, s10, s11, s12, s13, s14, s15, s16⟩, hfS, hcS⟩, ⟨kS, k1, k2, k3⟩, hB, hbyt, n1, n2⟩ := s
  subst hqa
  obtain ⟨kv', z4⟩ := ff_back hal s4
  obtain ⟨kc', z5⟩ := ff_back hal s5
  have hfZ : Z.vm.findClass "java/lang/String" = some q.sC.cls := by rw [← hal.findClass, hcS]; exact hfS
  obtain ⟨kz, hkz, -⟩ := Vm.findClass_spec hfZ
  obtain ⟨kz', hkz', ekz⟩ := hal.2.2 _ _ hkz
  have ekS : kz' = kS := Option.some.inj (hkz'.symm.trans (hcS ▸ k1))
  have hBZ : Z.vm.findClass "[B" = some q.SA.cls := by rw [← hal.findClass]; exact hB
  obtain ⟨kb, hkb, -⟩ := Vm.findClass_spec hBZ
  obtain ⟨kb', hkb', ekb⟩ := hal.2.2 _ _ hkb
  obtain ⟨hst, k9, hk9, comp, hkind9⟩ := s11
  have ek9 : k9 = kb' := Option.some.inj (hk9.symm.trans hkb')
  have hAZ : Z.isArrayOf q.SA .byte := ⟨hst, kb, hkb, comp, by rw [ek9, ekb] at hkind9; exact hkind9⟩
  have hl : ∀ u ∈ units.toList, u < 256 := fun u hu => by
    have := (Array.all_eq_true_iff_forall_mem.mp hlat) u (Array.mem_toList_iff.mp hu)
    simpa using this
  have hsl : q.SA.slots = units.map fun u => Value.int (Jvm.Lit.byteI u) := by rw [hbyt, SBG.stringBytes_lat hlat]; rfl
  refine ⟨q.sd, 0, units.toList.map Jvm.Lit.byteI, n1, n2, ⟨q.sC, kz, s1, hfZ, hkz, s3, fun ho => by rw [k3, ← ekS, ekz]⟩, ⟨q.sC, cv, kv', iv, q.fSV, s1, z4, s6, s2, s3, by rw [← hal.assignable]; exact s4', s8⟩, ⟨q.sC, cc, kc', ic, q.fSC, s1, z5, s7, s2, s3, by rw [← hal.assignable]; exact s5', s9⟩, ⟨q.SA, ⟨s10, hAZ, s12⟩, ?_, fun x hx => ?_⟩, Or.inl ⟨rfl, ?_, fun c hc => ?_⟩⟩
  · rw [hsl]
    apply Array.toList_inj.mp
    simp
  · obtain ⟨u, -, rfl⟩ := List.mem_map.mp hx
    exact SBG.fits_of_int8 _
  · rw [List.map_map]
    exact List.map_congr_left fun u hu => ((b8_byteI u (hl u hu)).1).symm
  · obtain ⟨u, hu, rfl⟩ := List.mem_map.mp hc
    exact (b8_byteI u (hl u hu)).2
theorem chs_of {units : Array UInt16} {text : String} (h : utf16ToString? units = some text) (ht : ∀ c ∈ text.toList, c.toNat < 256) : (units.toList.map fun u => Int32.ofNat u.toNat) = chs text := by
  rw [Jvm.ClassFile.units_of_text h ht, List.map_map]
  refine List.map_congr_left fun c hc => ?_
  have := ht c hc
  simp only [Function.comp]
  congr 1
  simp [Nat.toUInt16]
  omega
/-- an old String of a case is one that nobody writes -/
theorem SlM.of_old {Z U : State} {M : List Addr} {a : Addr} {units : Array UInt16} (s : SlOf Z a units) (b : Bg Z M U) : SlM M U a units := by
  obtain ⟨q, cS, h1, h2, ⟨kS, k1, k2, k3⟩, h4, h5⟩ := s
  have hal := b.1.alike
  obtain ⟨kS', hk', ek⟩ := hal.2.2 _ _ k1
  have g1 := h2.1.1
  have g2 := h2.1.2.2.2.2.2.2.2.2.2.1
  exact ⟨q, cS, h1, h2.carry hal (b.2.2.1.2 _ _ g1) (b.2.2.1.2 _ _ g2), ⟨kS', hk', by rw [ek]; exact k2, by rw [ek]; exact k3⟩, by rw [hal.findClass]; exact h4, h5,
    fun r => absurd (Array.getElem?_eq_some_iff.mp g1).1 (Nat.not_lt.mpr (b.2.2.2.1 _ r)), fun r => absurd (Array.getElem?_eq_some_iff.mp g2).1 (Nat.not_lt.mpr (b.2.2.2.1 _ r))⟩
section Ldc
variable {B : Cx} {l : Launch} {Z : State} {nar : Bool} {own nm : String} {code : ByteArray} {ml : Nat} {ret : Option FieldType} {R : Room} {h0 : Heap} {ws : List Addr} {fr : Bool} {Q : Option Value → Heap → Prop} {Me : List Addr}
variable {h : Heap} {k n : Nat} {M : List Addr} {cl : Cl} {pc pc' : Nat} {L : Array Slot} {S : List Value} {a0 : Array Value}
theorem find_push {A : Array (Array UInt16 × Addr)} {u u' : Array UInt16} {a a' : Addr} (h : (A.push (u', a')).find? (fun p => p.1 == u) = some (u, a)) : A.find? (fun p => p.1 == u) = some (u, a) ∨ (A.find? (fun p => p.1 == u) = none ∧ u' = u ∧ a' = a) := by
  rw [Array.find?_push] at h
  cases hf : A.find? (fun p => p.1 == u) with
  | some x => rw [hf] at h; exact Or.inl (by simpa using h)
  | none =>
    rw [hf] at h
    simp at h
    exact Or.inr ⟨rfl, h.1, h.2⟩
theorem W.ldcS (ok : Ok B l Z nar own nm code ml ret R h0 ws fr Q Me) (hnar : nar = false) {idx : Nat} {text : String} (w : (Jvm.Cond.stringLink own idx text).before a0 Z = true) (wS : ∀ a ∈ Bundle.stringAtoms, a.before a0 Z = true) (hh : Jvm.Lit.constHeld Z own idx) (hcw : Jvm.Lit.compactW.before a0 Z = true)
    (ht : ∀ c ∈ text.toList, c.toNat < 256) (hcl : cl.1 = true ∨ (own, idx) ∈ cl.2) {sz : Nat} (hsz : 4 * text.toList.length ≤ sz) (hbig : sz ≤ 536870912) (hd : decode code pc = .ok (.ldc idx, 2)) (hp : pc + 2 = pc') (hc : k + 2 ≤ R.cells) (hn : n + (sz + 4) ≤ R.slots)
    (K : ∀ (a : Addr) (h' : Heap), Ext h h' → StrM Z h' M a (chs text) → W B h' (k + 2) (n + (sz + 4)) M (cl.1, (own, idx) :: cl.2) pc' L (.ref a :: S)) : W B h k n M cl pc L S := by
  subst hp
  intro T P
  obtain ⟨vm0, k0, locs, X, hS, hk0, hnr, hL, hcl', hlt, eT, bg⟩ := P
  have eZ := ok.Z_
  have eR := ok.R_
  rw [eZ] at bg
  have hz : Z.Warmed39 T.vm := bg.1
  have hal : Z.vm.Alike T.vm := hz.alike
  have X1 : Stand B.p B.l B.e B.R (B.s.setVm T.vm) B.m B.args B.below B.meth B.c T locs k n := X.retabled X.warmed.wide
  have hS1 : B.s.Since T.vm T.heap.size := hS.trans (X.warmed.since _) hk0
  have hown : (B.s.setVm T.vm).vm.findClass own = some B.m.cls := (hS1.1.alike.findClass _ _).trans ok.own_
  have wl : (Jvm.Cond.stringLink own idx text).before B.args (B.s.setVm T.vm) = true := mvS hz w
  obtain ⟨k1, cf, i, units, hk1, hcf, hcp, hu, hnm, htext, hres⟩ := Cond.stringLink_spec hown wl
  have hlat := Jvm.ClassFile.lat_of_text htext ht
  have q2 : k1.cf.bind (namesOf? ·.constantPool idx) = some (.string text) := by rw [hcf]; exact hnm
  have q3 : k1.cf.bind (·.constantPool[idx]?) = some (.string i) := by rw [hcf]; exact hcp
  have q4 : k1.cf.bind (·.constantPool.utf8? i) = some units := by rw [hcf]; simp [ConstantPool.utf8?, hu]
  have wi : (Jvm.Cond.instantiable "java/lang/String" 4).before a0 Z = true := wS _ (by simp [Bundle.stringAtoms, Bundle.sN])
  have wa : (Jvm.Cond.arrayClass .byte).before a0 Z = true := wS _ (by simp [Bundle.stringAtoms])
  have hH : ConstHeldL Z own idx := heldStart hh w ht hcw wa wi
  -- the class's record at the case's start
  have hownZ : Z.vm.findClass own = some B.m.cls := by rw [← hal.findClass]; exact hown
  obtain ⟨kz, cfz, iz, uz, hkz, hcfz, hcpz, huz, hnmz, htextz, hresz⟩ := Cond.stringLink_spec hownZ w
  obtain ⟨kT, hkT, ekT, -, hent, -⟩ := hz.2.2.2 _ _ hkz
  have e1 : kT = k1 := Option.some.inj (hkT.symm.trans hk1)
  subst e1
  have ecf : cfz = cf := by have : kT.cf = kz.cf := by rw [ekT]
                            rw [this, hcfz] at hcf; exact Option.some.inj hcf
  subst ecf
  have ei : iz = i := by have := hcpz.symm.trans hcp; simpa using this
  subst ei
  have eu : uz = units := by have := huz.symm.trans hu; simpa using this
  subst eu
  have held : ∀ a, T.vm.interned.find? (fun p => p.1 == uz) = some (uz, a) → SlM M T a uz ∨ Z.vm.interned.find? (fun p => p.1 == uz) = some (uz, a) := fun a hf => (bg.2.1 uz a hlat hf).symm
  have hownT : T.vm.findClass own = some B.m.cls := hown
  have hkT1 : T.vm.classes[B.m.cls]? = some kT := hk1
  have hltT : ∀ e ∈ cl.2, ∃ a, Lit (B.s.setVm T.vm) e.1 e.2 a := fun e he => by
    obtain ⟨a, ha⟩ := hlt e he
    exact ⟨a, Lit.stays ha X.warmed.wide⟩
  rcases hres with hopen | ⟨a, hres⟩
  · have hcl : cl.1 = true := hcl.elim id fun q => by
      obtain ⟨a, ha⟩ := hltT _ q
      simp [Lit, State.resolvedAt?, hownT, hkT1, hopen] at ha
    cases hf : T.vm.interned.find? (fun p => p.1 == uz) with
    | some pr =>
      obtain ⟨u', a⟩ := pr
      have hu' : u' = uz := by
        have := Array.find?_some hf
        simpa using this
      subst hu'
      have hW : (B.s.setVm T.vm).Warmed39 (T.vm.noted B.m.cls idx (.string a)) := X1.warmed.wide.notedString hk1 (Or.inl hopen) q2 q3 q4 hf
      have X2 := (X1.mono (Nat.le_add_right k 2) (Nat.le_add_right n (sz + 4))).retabled hW
      have sl : SlM M T a u' := by
        rcases held a hf with q | q
        · exact q
        · refine SlM.of_old ?_ bg
          rcases hent idx with e0 | ⟨hop, r, e1, -⟩
          · exact hH _ kz cfz iz u' a hownZ hkz hcfz hcpz huz (Or.inr ⟨e0 ▸ hopen, q⟩)
          · rw [hopen] at e1; simp at e1
      have bg2 : Bg Z M (T.setVm (T.vm.noted B.m.cls idx (.string a))) := bg.move (State.Warmed39.trans (t := B.s.setVm T.vm) hz hW) rfl (Kept.refl _ _)
      have st2 : StrM Z h M a (chs text) := by
        have := StrM.of_sl hal hlat sl
        rw [chs_of htext ht, eT] at this; exact this
      refine Gd.step (U' := (T.setVm (T.vm.noted B.m.cls idx (.string a))).setTop (mkF B.m (pc + 2) L (.ref a :: S))) (fun t q => ?_) (K a h ⟨Nat.le_refl _, fun _ _ q => q⟩ st2 _ ⟨T.vm.noted B.m.cls idx (.string a), T.heap.size, locs, X2, hS1.trans ⟨hW, State.Booked.step (T₂ := T.setVm (T.vm.noted B.m.cls idx (.string a))) (X1.warmed.no_new_pair _) X1.same.2.1 ⟨Nat.le_refl _, Or.inl rfl⟩⟩ (Nat.le_refl _), Nat.le_refl _, fun q => ?_, hL, hcl', fun e he => ?_, eT, by rw [eZ]; exact bg2⟩)
      · have hdd := hb ok.by_ hd
        jvm_step X1.here [ok.x, hdd, ldc.wp_string_found (e := B.e) (s := T) (f := mkF B.m pc L S) X1.here.top hk1 hcf hcp hu hopen hf]
        exact q
      · rw [ok.nar_, hnar] at q; cases q
      · rcases List.mem_cons.mp he with rfl | he
        · refine ⟨a, ?_⟩
          have hf2 : (T.vm.noted B.m.cls idx (.string a)).findClass own = some B.m.cls := (hW.alike.findClass _ _).trans hown
          obtain ⟨kk, hq1, hq2⟩ : ∃ k2 : Class, (T.vm.noted B.m.cls idx (.string a)).classes[B.m.cls]? = some k2 ∧ k2.resolved[idx]? = some (some (.string a)) := ⟨_, Vm.classes_note_self idx (.string a) hkT1, Class.resolved_note_self (.string a) hopen⟩
          simp [Lit, State.resolvedAt?, hf2, hq1, hq2]
        · obtain ⟨b, hb'⟩ := hltT e he
          exact ⟨b, Lit.stays hb' hW⟩
    | none =>
      have hheld : ConstHeldL (B.s.setVm T.vm) own idx := by
        intro c k2 cf2 i2 units2 a hc2 hk2 hcf2 hp2 hu2 hor
        cases hc2.symm.trans hown
        cases hk2.symm.trans hk1
        cases hcf2.symm.trans hcf
        cases hp2.symm.trans hcp
        cases hu2.symm.trans hu
        rcases hor with q | ⟨-, q⟩
        · rw [hopen] at q; simp at q
        · rw [show (B.s.setVm T.vm).vm.interned = T.vm.interned from rfl, hf] at q; cases q
      have hold : ∀ (b : Addr) (c : Cell), (B.s.setVm T.vm).heap[b]? = some c → T.heap[b]? = some c := oldF X1 (fun y hy => hcl' hcl y hy)
      obtain ⟨a, T2, X2, hS2, ⟨k2, hk2, hr2⟩, hkp, hi1, hint, ⟨units2, htext2, hin⟩, st⟩ := X1.ldcColdF hold ok.x (own := own) hown wl (fun d hd => by
        have q := wS d hd
        simp only [Bundle.stringAtoms, List.mem_cons, List.not_mem_nil, or_false] at hd
        rcases hd with rfl | rfl | rfl | rfl | rfl | rfl | rfl
        · exact mv (s := B.s.setVm T.vm) hz q
        · exact mv (s := B.s.setVm T.vm) hz q
        · exact mvA (s := B.s.setVm T.vm) hz q
        · exact mv (s := B.s.setVm T.vm) hz q
        · exact mv (s := B.s.setVm T.vm) hz q
        · exact mv (s := B.s.setVm T.vm) hz q
        · exact mv (s := B.s.setVm T.vm) hz q) hheld (fun us hus => Jvm.ClassFile.lat_of_text hus ht) (g := mkF B.m pc L S) rfl (hb ok.by_ hd) hsz hbig (by rw [eR]; exact hc) (by rw [eR]; exact hn)
      have same : ∀ us : Array UInt16, utf16ToString? us = some text → us = uz := fun us hus => Array.toList_inj.mp (by rw [Jvm.ClassFile.units_of_text hus ht, Jvm.ClassFile.units_of_text htext ht])
      have eu2 := same units2 htext2
      subst eu2
      have hz2 : Z.Warmed39 T2.vm := State.Warmed39.trans (t := B.s.setVm T.vm) hz hS2.1
      -- where the entry points now
      have hfa : T2.vm.interned.find? (fun p => p.1 == units2) = some (units2, a) := by
        obtain ⟨k2', hk2', -, -, ee, -⟩ := hS2.1.2.2.2 _ _ hk1
        cases hk2.symm.trans hk2'
        rcases ee idx with e0 | ⟨-, r, e1, hr | ⟨a3, t3, si, us, rfl, -, z3, z4, z5⟩⟩
        · rw [hr2, hopen] at e0; simp at e0
        · exfalso
          rw [hr2] at e1
          simp only [Option.some.injEq] at e1
          subst e1
          simp [State.rightAt, hk1, hcf, hnm] at hr
        · rw [hr2] at e1
          have ea : a = a3 := by simpa using e1
          subst ea
          rw [q3] at z3
          have : si = iz := by simpa using z3.symm
          subst this
          rw [q4] at z4
          have : us = units2 := by simpa using z4.symm
          subst this
          exact z5
      have hpush : T2.vm.interned = T.vm.interned.push (units2, a) ∧ T.heap.size ≤ a := by
        rcases hint with e0 | ⟨us, a', hus, e0⟩
        · rw [e0, hf] at hfa; cases hfa
        · have := same us hus
          subst this
          rw [e0] at hfa
          rcases find_push hfa with q | ⟨-, -, q⟩
          · rw [hf] at q; cases q
          · subst q
            refine ⟨e0, ?_⟩
            rcases hi1.2 with e2 | ⟨u3, a3, e2, e3, -⟩
            · rw [e0] at e2
              have := congrArg Array.size e2
              simp at this
            · have e4 := e0.symm.trans e2
              have e5 := congrArg Array.back? e4
              simp at e5
              rw [e5.2]; exact e3
      have Kp : Kept M T.heap T2.heap := ⟨hi1.1, fun b c q _ => by rw [hkp b (Array.getElem?_eq_some_iff.mp q).1]; exact q⟩
      have sl : SlM M T2 a units2 := by
        obtain ⟨q, cS, g1, g2, g3, g4, g5, g6⟩ := hin
        rcases g6 with ⟨g6, -⟩ | ⟨g6, g7⟩
        · exfalso
          have := X1.same.2.1
          rw [g1] at g6
          have h3 : (B.s.setVm T.vm).heap.size ≤ T.heap.size := this
          exact absurd g6 (Nat.not_lt.mpr (Nat.le_trans h3 hpush.2))
        · exact ⟨q, cS, g1, g2, g3, g4, g5, fun r => absurd (bg.2.2.2.2 _ r) (Nat.not_lt.mpr g6), fun r => absurd (bg.2.2.2.2 _ r) (Nat.not_lt.mpr g7)⟩
      have hal2 : T.vm.Alike T2.vm := hal.symm.trans hz2.alike
      have bg2 : Bg Z M T2 := by
        refine ⟨hz2, fun us b hl2 hf2 => ?_, ⟨Nat.le_trans bg.2.2.1.1 Kp.1, fun x c q => Kp.2 x c (bg.2.2.1.2 x c q) fun z => absurd (Array.getElem?_eq_some_iff.mp q).1 (Nat.not_lt.mpr (bg.2.2.2.1 x z))⟩, bg.2.2.2.1, fun x z => Nat.lt_of_lt_of_le (bg.2.2.2.2 x z) Kp.1⟩
        rw [hpush.1] at hf2
        rcases find_push hf2 with q | ⟨-, q, q'⟩
        · exact (bg.2.1 us b hl2 q).imp id fun s => s.move hal2 Kp.2
        · subst q q'; exact Or.inr sl
      have st2 : StrM Z T2.heap M a (chs text) := by
        have := StrM.of_sl hz2.alike hlat sl
        rw [chs_of htext ht] at this; exact this
      have E : Ext h T2.heap := by
        rw [← eT]
        exact ⟨hi1.1, fun b c q => by rw [hkp b (Array.getElem?_eq_some_iff.mp q).1]; exact q⟩
      refine Gd.step st (K a T2.heap E st2 T2 ⟨T2.vm, T2.heap.size, locs, X2, hS1.trans hS2 hi1.1, Nat.le_refl _, fun q => ?_, hL, hcl', fun e he => ?_, rfl, by rw [eZ]; exact bg2⟩)
      · rw [ok.nar_, hnar] at q; cases q
      · rcases List.mem_cons.mp he with rfl | he
        · refine ⟨a, ?_⟩
          have hf2 : T2.vm.findClass own = some B.m.cls := (hS2.1.alike.findClass _ _).trans hown
          simp [Lit, State.resolvedAt?, hf2, hk2, hr2]
        · obtain ⟨b, hb'⟩ := hltT e he
          exact ⟨b, Lit.stays hb' hS2.1⟩
  · have Li : Lit (B.s.setVm T.vm) own idx a := by simp [Lit, State.resolvedAt?, hownT, hkT1, hres]
    have sl : SlM M T a uz := by
      rcases hent idx with e0 | ⟨hop, r, e1, hr | ⟨a3, t3, si, us, rfl, -, z3, z4, z5⟩⟩
      · exact SlM.of_old (hH _ kz cfz iz uz a hownZ hkz hcfz hcpz huz (Or.inl (e0 ▸ hres))) bg
      · exfalso
        rw [hres] at e1
        simp only [Option.some.injEq] at e1
        subst e1
        simp [State.rightAt, hkz, hcfz, hnmz] at hr
      · rw [hres] at e1
        have ea : a = a3 := by simpa using e1
        subst ea
        have z3' : cfz.constantPool[idx]? = some (.string si) := by rw [hcfz] at z3; exact z3
        have : si = iz := by have := z3'.symm.trans hcpz; simpa using this
        subst this
        have z4' : us = uz := by rw [hcfz] at z4; simpa [ConstantPool.utf8?, huz] using z4.symm
        subst z4'
        rcases held a z5 with q | q
        · exact q
        · exact SlM.of_old (hH _ kz cfz si us a hownZ hkz hcfz hcpz huz (Or.inr ⟨hop, q⟩)) bg
    have st2 : StrM Z h M a (chs text) := by
      have := StrM.of_sl hal hlat sl
      rw [chs_of htext ht, eT] at this; exact this
    refine Gd.step (ldcAgain X1 ok.x hz hown w Li (g := mkF B.m pc L S) rfl (hb ok.by_ hd)) (K a h ⟨Nat.le_refl _, fun _ _ q => q⟩ st2 T ⟨T.vm, T.heap.size, locs, X1.mono (Nat.le_add_right k 2) (Nat.le_add_right n (sz + 4)), hS1, Nat.le_refl _, fun q => ?_, hL, hcl', fun e he => ?_, eT, by rw [eZ]; exact bg⟩)
    · rw [ok.nar_, hnar] at q; cases q
    · rcases List.mem_cons.mp he with rfl | he
      · exact ⟨a, Li⟩
      · exact hltT e he
end Ldc
end Jvm.Pilot.@@N@@.Wk
namespace Jvm.Pilot.@@N@@.Wk
open Jvm Jvm.ClassFile Sem Op Lib Jvm.Free Jvm.Stand Jvm.LawKit Jvm.RoadKit Bundle
/-! ### numbers -/
theorem c16_rng (x : Int32) : 0 ≤ (c16 x).toInt ∧ (c16 x).toInt ≤ 65535 := by have := c_i2c x; unfold c16; omega
theorem c16_mod (x : Int32) : (c16 x).toInt = x.toInt % 65536 := by have := c_i2c x; unfold c16; omega
theorem c16_of {c : Int32} (h : 0 ≤ c.toInt ∧ c.toInt ≤ 65535) : c16 c = c := Int32.toInt_inj.mp (by have := c16_mod c; omega)
theorem c16_c16 (x : Int32) : c16 (c16 x) = c16 x := c16_of (c16_rng x)
theorem b8_rng (x : Int32) : -128 ≤ (b8 x).toInt ∧ (b8 x).toInt ≤ 127 ∧ ((b8 x).toInt - x.toInt) % 256 = 0 := by have := c_i2b x; unfold b8; omega
theorem b8_of {c : Int32} (h : -128 ≤ c.toInt ∧ c.toInt ≤ 127) : b8 c = c := Int32.toInt_inj.mp (by have := b8_rng c; omega)
theorem b8_b8 (x : Int32) : b8 (b8 x) = b8 x := b8_of (by have := b8_rng x; omega)
theorem and255 (x : Int32) : (x &&& 255).toInt = x.toInt % 256 := c_mask x 255 8 (by decide) (by decide)
theorem b8_and {c : Int32} (h : 0 ≤ c.toInt ∧ c.toInt ≤ 255) : b8 c &&& 255 = c := Int32.toInt_inj.mp (by have := b8_rng c; have := and255 (b8 c); omega)
theorem shr8 (x : Int32) : (x >>> ((8 : Int32) &&& 31)).toInt = x.toInt / 256 := c_ishr x 8 8 (by decide)
theorem shr0 (x : Int32) : x >>> ((0 : Int32) &&& 31) = x := Int32.toInt_inj.mp (by have := c_ishr x 0 0 (by decide); simpa using this)
theorem shr1 (x : Int32) : (x >>> ((1 : Int32) &&& 31)).toInt = x.toInt / 2 := c_ishr x 1 1 (by decide)
theorem shl1 (x : Int32) : ((x <<< ((1 : Int32) &&& 31)).toInt - x.toInt * 2) % 4294967296 = 0 := c_ishl x 1 1 (by decide)
theorem pair {c : Int32} (h : 0 ≤ c.toInt ∧ c.toInt ≤ 65535) : c16 (((b8 c &&& 255) <<< ((0 : Int32) &&& 31)) ||| ((b8 (c >>> ((8 : Int32) &&& 31)) &&& 255) <<< ((8 : Int32) &&& 31))) = c := by
  have e1 := and255 (b8 c)
  have e2 := b8_rng c
  have e3 := and255 (b8 (c >>> ((8 : Int32) &&& 31)))
  have e4 := b8_rng (c >>> ((8 : Int32) &&& 31))
  have e5 := shr8 c
  generalize b8 c &&& 255 = u at *
  generalize b8 (c >>> ((8 : Int32) &&& 31)) &&& 255 = w at *
  have f1 := c_ishl u 0 0 (by decide)
  have f2 := c_ishl w 8 8 (by decide)
  have g1 := rng32 (u <<< ((0 : Int32) &&& 31))
  have g2 := rng32 (w <<< ((8 : Int32) &&& 31))
  generalize u <<< ((0 : Int32) &&& 31) = u' at *
  generalize w <<< ((8 : Int32) &&& 31) = w' at *
  have f3 := c_or' u' w' 8 (by decide) 256 (by decide) (by omega) (by omega) (by omega)
  have f4 := c16_mod (u' ||| w')
  have f5 := rng32 (u' ||| w')
  exact Int32.toInt_inj.mp (by omega)
theorem i32_len {n : Nat} (h : n < 2147483648) : (n.toInt32).toInt = n := len_toInt h
theorem Cod.len {cd : Int32} {cs bs : List Int32} (h : Cod cd cs bs) (hl : cs.length < 1000000) : bs.length.toInt32 >>> (cd &&& 31) = cs.length.toInt32 := by
  rcases h with ⟨rfl, rfl, -⟩ | ⟨rfl, rfl, -⟩
  · rw [shr0, List.length_map]
  · apply Int32.toInt_inj.mp
    rw [shr1, i32_len (by rw [wide_length]; omega), i32_len (by omega), wide_length]; omega
theorem Cod.cd01 {cd : Int32} {cs bs : List Int32} (h : Cod cd cs bs) : b8 cd = cd := by
  rcases h with ⟨rfl, -⟩ | ⟨rfl, -⟩ <;> rfl
theorem nat_i32 {n : Nat} (h : n < 2147483648) : (n.toInt32).toNatClampNeg = n := by
  simp only [Int32.toNatClampNeg, i32_len h]; omega
theorem wide_at : ∀ (cs : List Int32) (i : Nat) (c : Int32), cs[i]? = some c → (wide cs)[2 * i]? = some (b8 c) ∧ (wide cs)[2 * i + 1]? = some (b8 (c >>> ((8 : Int32) &&& 31)))
  | [], i, c, h => by simp at h
  | x :: r, 0, c, h => by simp at h; subst h; simp [wide]
  | x :: r, i + 1, c, h => by
    have := wide_at r i c (by simpa using h)
    have e : 2 * (i + 1) = 2 * i + 1 + 1 := by omega
    rw [e]
    simpa [wide] using this
theorem lt_of_at {cs : List Int32} {i : Nat} {c : Int32} (h : cs[i]? = some c) : i < cs.length := (List.getElem?_eq_some_iff.mp h).1
theorem mem_of_at {cs : List Int32} {i : Nat} {c : Int32} (h : cs[i]? = some c) : c ∈ cs := List.mem_of_getElem? h
theorem neg_iff (x : Int32) : x < 0 ↔ x.toInt < 0 := by rw [Int32.lt_iff_toInt_lt]; rfl
theorem fits_char_rng {x : Int32} (h : fits .char (.int x) = true) : 0 ≤ x.toInt ∧ x.toInt ≤ 65535 := by
  have := rng_char h
  rw [Int32.lt_iff_toInt_lt, Int32.lt_iff_toInt_lt] at this
  have e0 : (0 : Int32).toInt = 0 := rfl
  have e1 : (65535 : Int32).toInt = 65535 := rfl
  omega
theorem i32_succ (i : Nat) : i.toInt32 + 1 = (i + 1).toInt32 := by
  show Int32.ofNat i + 1 = Int32.ofNat (i + 1)
  rw [Int32.ofNat_add]; rfl
theorem fill_step {cs : List Int32} {i m : Nat} {c : Int32} (hc : cs[i]? = some c) : ((cs.take i).map b8 ++ List.replicate (m + 1) 0).set i (b8 c) = (cs.take (i + 1)).map b8 ++ List.replicate m 0 := by
  have hi := lt_of_at hc
  have hl : ((cs.take i).map b8).length = i := by simp; omega
  rw [List.set_append_right _ _ (by omega), hl, Nat.sub_self, List.replicate_succ, List.set_cons_zero, List.take_add_one, hc]
  simp
theorem take_all (cs : List Int32) (i : Nat) (h : i = cs.length) : (cs.take i).map b8 ++ List.replicate 0 0 = cs.map b8 := by simp [h]
theorem wide_app : ∀ (a b : List Int32), wide (a ++ b) = wide a ++ wide b
  | [], b => rfl
  | x :: a, b => by simp [wide, wide_app a b]
theorem wfill_step {cs : List Int32} {i m : Nat} {c : Int32} (hc : cs[i]? = some c) : ((wide (cs.take i) ++ List.replicate (2 * (m + 1)) 0).set (2 * i) (b8 c)).set (2 * i + 1) (b8 (c >>> ((8 : Int32) &&& 31))) = wide (cs.take (i + 1)) ++ List.replicate (2 * m) 0 := by
  have hi := lt_of_at hc
  have hl : (wide (cs.take i)).length = 2 * i := by rw [wide_length, List.length_take]; omega
  have e : 2 * (m + 1) = 2 * m + 1 + 1 := by omega
  rw [List.set_append_right _ _ (by omega), hl, Nat.sub_self, e, List.replicate_succ, List.set_cons_zero, List.set_append_right _ _ (by omega), hl, List.replicate_succ, List.take_add_one, hc, wide_app]
  have e2 : 2 * i + 1 - 2 * i = 1 := by omega
  rw [e2]
  simp [wide]
theorem i32_lt {a b : Nat} (ha : a < 2147483648) (hb : b < 2147483648) : a.toInt32 < b.toInt32 ↔ a < b := by rw [Int32.lt_iff_toInt_lt, i32_len ha, i32_len hb]; omega
theorem i32_inj {a b : Nat} (ha : a < 2147483648) (hb : b < 2147483648) : a.toInt32 = b.toInt32 ↔ a = b := by
  constructor
  · intro q
    have := congrArg Int32.toInt q
    rw [i32_len ha, i32_len hb] at this; omega
  · intro q; rw [q]
theorem i32_nn {a : Nat} (ha : a < 2147483648) : ¬ a.toInt32 < 0 := by rw [neg_iff, i32_len ha]; omega
theorem at_lt {cs : List Int32} {i : Nat} (h : i < cs.length) : ∃ c, cs[i]? = some c := ⟨cs[i], by simp⟩
theorem le255 {c : Int32} (h : c.toInt ≤ 255) : ¬ (255 : Int32) < c := by rw [Int32.lt_iff_toInt_lt]; have : (255 : Int32).toInt = 255 := rfl; omega
theorem gt255 {c : Int32} (h : 255 < c.toInt) : (255 : Int32) < c := by rw [Int32.lt_iff_toInt_lt]; have : (255 : Int32).toInt = 255 := rfl; omega
/-- a list of chars: none, all narrow, or a first wide one -/
theorem three (cs : List Int32) : (∀ c ∈ cs, c.toInt ≤ 255) ∨ ∃ (q : Nat) (cq : Int32), cs[q]? = some cq ∧ 255 < cq.toInt ∧ ∀ (j : Nat) (c : Int32), j < q → cs[j]? = some c → c.toInt ≤ 255 := by
  induction cs with
  | nil => exact Or.inl (fun c hc => by cases hc)
  | cons x r ih =>
    by_cases hx : x.toInt ≤ 255
    · rcases ih with h | ⟨q, cq, h1, h2, h3⟩
      · exact Or.inl (fun c hc => (List.mem_cons.mp hc).elim (fun e => e ▸ hx) (h c))
      · refine Or.inr ⟨q + 1, cq, by simpa using h1, h2, fun j c hj hc => ?_⟩
        cases j with
        | zero => simp at hc; subst hc; exact hx
        | succ j => exact h3 j c (by omega) (by simpa using hc)
    · exact Or.inr ⟨0, x, rfl, by omega, fun j c hj => by omega⟩
theorem i32_of {z : Int32} (h : 0 ≤ z.toInt) : ∃ n : Nat, z = n.toInt32 ∧ (n : Int) = z.toInt :=
  ⟨z.toInt.toNat, Int32.toInt_inj.mp (by rw [i32_len (by have := rng32 z; omega)]; omega), by omega⟩
theorem lowL (d : Int64) : 0 ≤ (c16 (d &&& 255).toInt32).toInt ∧ (c16 (d &&& 255).toInt32).toInt ≤ 255 := by
  have e1 : (d &&& 255).toInt = d.toInt % 256 := c_maskL d 255 8 (by decide) (by decide)
  have e2 := c_l2i (d &&& 255)
  have e3 := c16_mod (d &&& 255).toInt32
  have := rng32 (d &&& 255).toInt32
  omega
theorem lowI (x : Int32) : 0 ≤ (c16 (x &&& 255)).toInt ∧ (c16 (x &&& 255)).toInt ≤ 255 := by
  have e1 := and255 x
  have e3 := c16_mod (x &&& 255)
  omega
theorem maskI (x m : Int32) (k : Nat) (hk : k ≤ 31) (hm : m.toBitVec.toNat = 2 ^ k - 1) : 0 ≤ (x &&& m).toInt ∧ (x &&& m).toInt < (2 ^ k : Nat) := by
  have := c_mask x m k hk hm
  have h2 : (0 : Int) < ((2 ^ k : Nat) : Int) := by exact_mod_cast Nat.two_pow_pos k
  rw [this]
  exact ⟨Int.emod_nonneg _ (by omega), Int.emod_lt_of_pos _ h2⟩
theorem rem_rng {x y : Int32} {d : Int} (hy : y.toInt = d) (hd : 0 < d) (h : 0 ≤ x.toInt) : 0 ≤ (x % y).toInt ∧ (x % y).toInt < d := by
  have := (c_irem x y d hy).1 h
  rw [this]
  exact ⟨Int.emod_nonneg _ (by omega), Int.emod_lt_of_pos _ hd⟩
theorem unb8 : ∀ cs : List Int32, (∀ c ∈ cs, 0 ≤ c.toInt ∧ c.toInt ≤ 255) → (cs.map b8).map (· &&& 255) = cs
  | [], _ => rfl
  | c :: r, h => by
    simp only [List.map_cons]
    rw [b8_and (h c (List.mem_cons_self ..)), unb8 r fun x hx => h x (List.mem_cons_of_mem _ hx)]
def unw : List Int32 → List Int32
  | u :: w :: r => c16 (((u &&& 255) <<< ((0 : Int32) &&& 31)) ||| ((w &&& 255) <<< ((8 : Int32) &&& 31))) :: unw r
  | _ => []
theorem unw_wide : ∀ cs : List Int32, (∀ c ∈ cs, 0 ≤ c.toInt ∧ c.toInt ≤ 65535) → unw (wide cs) = cs
  | [], _ => rfl
  | c :: r, h => by
    simp only [wide, unw]
    rw [pair (h c (List.mem_cons_self ..)), unw_wide r fun x hx => h x (List.mem_cons_of_mem _ hx)]
theorem Cod.inj {cd : Int32} {cs ds bs es : List Int32} (h : Cod cd cs bs) (g : Cod cd ds es) : bs = es ↔ cs = ds := by
  rcases h with ⟨rfl, rfl, h⟩ | ⟨rfl, rfl, h, -⟩ <;> rcases g with ⟨g0, rfl, g⟩ | ⟨g0, rfl, g, -⟩
  · exact ⟨fun e => by rw [← unb8 cs h, ← unb8 ds g, e], fun e => by rw [e]⟩
  · simp at g0
  · simp at g0
  · exact ⟨fun e => by rw [← unw_wide cs h, ← unw_wide ds g, e], fun e => by rw [e]⟩
theorem Cod.apart {cd ce : Int32} {cs ds bs es : List Int32} (h : Cod cd cs bs) (g : Cod ce ds es) (hne : ¬ cd = ce) : ¬ cs = ds := by
  intro e
  subst e
  rcases h with ⟨rfl, -, h⟩ | ⟨rfl, -, -, x, hx, hx2⟩ <;> rcases g with ⟨rfl, -, g⟩ | ⟨rfl, -, -, y, hy, hy2⟩
  · exact hne rfl
  · have := h y hy; omega
  · have := g x hx; omega
  · exact hne rfl
theorem Fld.uniq {Z : State} {h : Heap} {a : Addr} {C f d : String} {v w : Value} (F : Fld Z h a C f d v) (G : Fld Z h a C f d w) : v = w := by
  by_cases q : v = w
  · exact q
  · exact absurd rfl (Fld.ne F G q)
theorem ArI.uniq {Z : State} {h : Heap} {a : Addr} {ty ty' : FieldType} {cs ds : List Int32} (F : ArI Z h a ty cs) (G : ArI Z h a ty' ds) : cs = ds := by
  obtain ⟨c, A, e, -⟩ := F
  obtain ⟨c', A', e', -⟩ := G
  cases A.1.symm.trans A'.1
  have : (cs.map Value.int).toArray = (ds.map Value.int).toArray := e.symm.trans e'
  have := congrArg Array.toList this
  simp at this
  exact (List.map_inj_right (fun x y q => by injection q)).mp this
theorem Str.inj {Z : State} {h : Heap} {a : Addr} {cs ds : List Int32} (F : Str Z h a cs) (G : Str Z h a ds) : cs = ds := by
  obtain ⟨t, cd, bs, -, f2, f3, f4, f5⟩ := F
  obtain ⟨u, ce, es, -, g2, g3, g4, g5⟩ := G
  have e1 := Fld.uniq f2 g2
  have e2 := Fld.uniq f3 g3
  simp only [Value.ref.injEq, Value.int.injEq] at e1 e2
  subst e1 e2
  exact (f5.inj g5).mp (f4.uniq g4)
theorem take_succ_eq {bs es : List Int32} {i : Nat} {x : Int32} (h : bs.take i = es.take i) (h1 : bs[i]? = some x) (h2 : es[i]? = some x) : bs.take (i + 1) = es.take (i + 1) := by
  rw [List.take_add_one, List.take_add_one, h, h1, h2]
theorem eq_int_v {args : Array Value} {s : State} {t : Term} {v : Int32} (h : (Jvm.Cond.eq t (.int v)).value args s none s [] = some true) : t.eval args s none [] s = some (.int v) := by
  simp only [Cond.value, Term.eval] at h
  cases ht : t.eval args s none [] s with
  | none => simp [ht] at h
  | some x => cases x <;> simp [ht] at h ⊢; exact h
theorem ushr31_zero : b8 (XT.ushr (0 : Int32) (31 : Int32)) = 0 := by decide +kernel
theorem ushr_len {n : Nat} (h0 : 0 < n) (h : n < 1000000) : b8 (XT.ushr (n.toInt32 - (2 * n).toInt32) (31 : Int32)) = 1 := by
  have e1 := c_isub n.toInt32 (2 * n).toInt32
  rw [i32_len (by omega), i32_len (by omega)] at e1
  have r := rng32 (n.toInt32 - (2 * n).toInt32)
  have e2 := c_iushr (n.toInt32 - (2 * n).toInt32) 31 31 (by decide) (by decide)
  have e3 : XT.ushr (n.toInt32 - (2 * n).toInt32) 31 = 1 := Int32.toInt_inj.mp (by
    have : (1 : Int32).toInt = 1 := rfl
    unfold XT.ushr
    rw [e2]; omega)
  rw [e3]; rfl
end Jvm.Pilot.@@N@@.Wk
namespace Jvm.Pilot.@@N@@
open Jvm Jvm.ClassFile Sem Op Lib Jvm.Free Jvm.Stand Jvm.LawKit Jvm.RoadKit Bundle Jvm.Pilot.@@N@@.Jvm.D Jvm.Pilot.@@N@@.Wk
def Ev (Z : State) (a0 : Array Value) : Prop := (∀ d ∈ tables_1, d.before a0 Z = true) ∧ (∃ g : Int32, ¬ g = 0 ∧ Sta Z Z.heap "java/lang/String" "COMPACT_STRINGS" "Z" (.int g)) ∧ (∃ g : Value, g.isRef = true ∧ Sta Z Z.heap "jdk/internal/util/Preconditions" "SIOOBE_FORMATTER" "Ljava/util/function/BiFunction;" g) ∧ (∀ q ∈ consts_1, Jvm.Lit.constHeld Z q.1 q.2) ∧ (Jvm.Lit.compactW.before a0 Z = true) ∧ (∃ b : Addr, Sta Z Z.heap "java/lang/Boolean" "TRUE" "Ljava/lang/Boolean;" (.ref b) ∧ Exa Z Z.heap b "java/lang/Boolean" ∧ Fld Z Z.heap b "java/lang/Boolean" "value" "Z" (.int 1)) ∧ (∃ b : Addr, Sta Z Z.heap "java/lang/Boolean" "FALSE" "Ljava/lang/Boolean;" (.ref b) ∧ Exa Z Z.heap b "java/lang/Boolean" ∧ Fld Z Z.heap b "java/lang/Boolean" "value" "Z" (.int 0))
theorem Ev.compact {Z : State} {a0 : Array Value} (h : Ev Z a0) : (∃ g : Int32, ¬ g = 0 ∧ Sta Z Z.heap "java/lang/String" "COMPACT_STRINGS" "Z" (.int g)) := h.2.1
theorem Ev.fmt {Z : State} {a0 : Array Value} (h : Ev Z a0) : (∃ g : Value, g.isRef = true ∧ Sta Z Z.heap "jdk/internal/util/Preconditions" "SIOOBE_FORMATTER" "Ljava/util/function/BiFunction;" g) := h.2.2.1
theorem Ev.held {Z : State} {a0 : Array Value} (h : Ev Z a0) : (∀ q ∈ consts_1, Jvm.Lit.constHeld Z q.1 q.2) := h.2.2.2.1
theorem Ev.cw {Z : State} {a0 : Array Value} (h : Ev Z a0) : (Jvm.Lit.compactW.before a0 Z = true) := h.2.2.2.2.1
theorem Ev.btrue {Z : State} {a0 : Array Value} (h : Ev Z a0) : (∃ b : Addr, Sta Z Z.heap "java/lang/Boolean" "TRUE" "Ljava/lang/Boolean;" (.ref b) ∧ Exa Z Z.heap b "java/lang/Boolean" ∧ Fld Z Z.heap b "java/lang/Boolean" "value" "Z" (.int 1)) := h.2.2.2.2.2.1
theorem Ev.bfalse {Z : State} {a0 : Array Value} (h : Ev Z a0) : (∃ b : Addr, Sta Z Z.heap "java/lang/Boolean" "FALSE" "Ljava/lang/Boolean;" (.ref b) ∧ Exa Z Z.heap b "java/lang/Boolean" ∧ Fld Z Z.heap b "java/lang/Boolean" "value" "Z" (.int 0)) := h.2.2.2.2.2.2
theorem w0 {Z : State} {a0 : Array Value} (hw : ∀ d ∈ tables_1, d.before a0 Z = true) : ((Jvm.Cond.arrayClass Jvm.ClassFile.FieldType.char)).before a0 Z = true := hw _ (List.mem_of_getElem? (i := 0) rfl)
theorem w1 {Z : State} {a0 : Array Value} (hw : ∀ d ∈ tables_1, d.before a0 Z = true) : ((Jvm.Cond.constantLong "com/example/purlin/purlin/util/TextValuesBoolPinLaw" (12 : Nat) (255 : Int64))).before a0 Z = true := hw _ (List.mem_of_getElem? (i := 1) rfl)
theorem w2 {Z : State} {a0 : Array Value} (hw : ∀ d ∈ tables_1, d.before a0 Z = true) : ((Jvm.Cond.methodLink "com/example/purlin/purlin/util/TextValuesBoolPinLaw" (36 : Nat) ({ cls := "com/example/purlin/purlin/util/TextValues", name := "bool", desc := "(Ljava/lang/String;)Ljava/lang/Boolean;" } : Jvm.MethodName))).before a0 Z = true := hw _ (List.mem_of_getElem? (i := 2) rfl)
theorem w3 {Z : State} {a0 : Array Value} (hw : ∀ d ∈ tables_1, d.before a0 Z = true) : ((Jvm.Cond.static ({ cls := "com/example/purlin/purlin/util/TextValues", name := "bool", desc := "(Ljava/lang/String;)Ljava/lang/Boolean;" } : Jvm.MethodName))).before a0 Z = true := hw _ (List.mem_of_getElem? (i := 3) rfl)
theorem w4 {Z : State} {a0 : Array Value} (hw : ∀ d ∈ tables_1, d.before a0 Z = true) : ((Jvm.Cond.initialized "com/example/purlin/purlin/util/TextValues")).before a0 Z = true := hw _ (List.mem_of_getElem? (i := 4) rfl)
theorem w5 {Z : State} {a0 : Array Value} (hw : ∀ d ∈ tables_1, d.before a0 Z = true) : ((Jvm.Cond.code ({ cls := "com/example/purlin/purlin/util/TextValues", name := "bool", desc := "(Ljava/lang/String;)Ljava/lang/Boolean;" } : Jvm.MethodName) prog_90_method_7_code (2 : Nat) (Option.some (Jvm.ClassFile.FieldType.object "java/lang/Boolean")))).before a0 Z = true := hw _ (List.mem_of_getElem? (i := 5) rfl)
theorem w6 {Z : State} {a0 : Array Value} (hw : ∀ d ∈ tables_1, d.before a0 Z = true) : ((Jvm.Cond.stringLink "com/example/purlin/purlin/util/TextValues" (50 : Nat) "true")).before a0 Z = true := hw _ (List.mem_of_getElem? (i := 6) rfl)
theorem w7 {Z : State} {a0 : Array Value} (hw : ∀ d ∈ tables_1, d.before a0 Z = true) : ((Jvm.Cond.initialized "java/lang/String")).before a0 Z = true := hw _ (List.mem_of_getElem? (i := 7) rfl)
theorem w8 {Z : State} {a0 : Array Value} (hw : ∀ d ∈ tables_1, d.before a0 Z = true) : ((Jvm.Cond.instantiable "java/lang/String" (4 : Nat))).before a0 Z = true := hw _ (List.mem_of_getElem? (i := 8) rfl)
theorem w9 {Z : State} {a0 : Array Value} (hw : ∀ d ∈ tables_1, d.before a0 Z = true) : ((Jvm.Cond.arrayClass Jvm.ClassFile.FieldType.byte)).before a0 Z = true := hw _ (List.mem_of_getElem? (i := 9) rfl)
theorem w10 {Z : State} {a0 : Array Value} (hw : ∀ d ∈ tables_1, d.before a0 Z = true) : ((Jvm.Cond.laysFinal "java/lang/String" "java/lang/String" "value" "[B")).before a0 Z = true := hw _ (List.mem_of_getElem? (i := 10) rfl)
theorem w11 {Z : State} {a0 : Array Value} (hw : ∀ d ∈ tables_1, d.before a0 Z = true) : ((Jvm.Cond.laysFinal "java/lang/String" "java/lang/String" "coder" "B")).before a0 Z = true := hw _ (List.mem_of_getElem? (i := 11) rfl)
theorem w14 {Z : State} {a0 : Array Value} (hw : ∀ d ∈ tables_1, d.before a0 Z = true) : ((Jvm.Cond.methodLink "com/example/purlin/purlin/util/TextValues" (52 : Nat) ({ cls := "java/lang/String", name := "equals", desc := "(Ljava/lang/Object;)Z" } : Jvm.MethodName))).before a0 Z = true := hw _ (List.mem_of_getElem? (i := 14) rfl)
theorem w15 {Z : State} {a0 : Array Value} (hw : ∀ d ∈ tables_1, d.before a0 Z = true) : ((Jvm.Cond.declares ({ cls := "java/lang/String", name := "equals", desc := "(Ljava/lang/Object;)Z" } : Jvm.MethodName))).before a0 Z = true := hw _ (List.mem_of_getElem? (i := 15) rfl)
theorem w16 {Z : State} {a0 : Array Value} (hw : ∀ d ∈ tables_1, d.before a0 Z = true) : ((Jvm.Cond.instanceMethod ({ cls := "java/lang/String", name := "equals", desc := "(Ljava/lang/Object;)Z" } : Jvm.MethodName))).before a0 Z = true := hw _ (List.mem_of_getElem? (i := 16) rfl)
theorem w17 {Z : State} {a0 : Array Value} (hw : ∀ d ∈ tables_1, d.before a0 Z = true) : ((Jvm.Cond.selects "java/lang/String" ({ cls := "java/lang/String", name := "equals", desc := "(Ljava/lang/Object;)Z" } : Jvm.MethodName) ({ cls := "java/lang/String", name := "equals", desc := "(Ljava/lang/Object;)Z" } : Jvm.MethodName))).before a0 Z = true := hw _ (List.mem_of_getElem? (i := 17) rfl)
theorem w18 {Z : State} {a0 : Array Value} (hw : ∀ d ∈ tables_1, d.before a0 Z = true) : ((Jvm.Cond.code ({ cls := "java/lang/String", name := "equals", desc := "(Ljava/lang/Object;)Z" } : Jvm.MethodName) jdk_42_method_66_code (3 : Nat) (Option.some Jvm.ClassFile.FieldType.boolean))).before a0 Z = true := hw _ (List.mem_of_getElem? (i := 18) rfl)
theorem w19 {Z : State} {a0 : Array Value} (hw : ∀ d ∈ tables_1, d.before a0 Z = true) : ((Jvm.Cond.stringLink "com/example/purlin/purlin/util/TextValues" (55 : Nat) "yes")).before a0 Z = true := hw _ (List.mem_of_getElem? (i := 19) rfl)
theorem w20 {Z : State} {a0 : Array Value} (hw : ∀ d ∈ tables_1, d.before a0 Z = true) : ((Jvm.Cond.stringLink "com/example/purlin/purlin/util/TextValues" (63 : Nat) "false")).before a0 Z = true := hw _ (List.mem_of_getElem? (i := 20) rfl)
theorem w21 {Z : State} {a0 : Array Value} (hw : ∀ d ∈ tables_1, d.before a0 Z = true) : ((Jvm.Cond.stringLink "com/example/purlin/purlin/util/TextValues" (65 : Nat) "no")).before a0 Z = true := hw _ (List.mem_of_getElem? (i := 21) rfl)
theorem w22 {Z : State} {a0 : Array Value} (hw : ∀ d ∈ tables_1, d.before a0 Z = true) : ((Jvm.Cond.stringLink "com/example/purlin/purlin/util/TextValuesBoolPinLaw" (20 : Nat) "no")).before a0 Z = true := hw _ (List.mem_of_getElem? (i := 22) rfl)
theorem w23 {Z : State} {a0 : Array Value} (hw : ∀ d ∈ tables_1, d.before a0 Z = true) : ((Jvm.Cond.methodLink "com/example/purlin/purlin/util/TextValuesBoolPinLaw" (22 : Nat) ({ cls := "java/lang/String", name := "length", desc := "()I" } : Jvm.MethodName))).before a0 Z = true := hw _ (List.mem_of_getElem? (i := 23) rfl)
theorem w24 {Z : State} {a0 : Array Value} (hw : ∀ d ∈ tables_1, d.before a0 Z = true) : ((Jvm.Cond.declares ({ cls := "java/lang/String", name := "length", desc := "()I" } : Jvm.MethodName))).before a0 Z = true := hw _ (List.mem_of_getElem? (i := 24) rfl)
theorem w25 {Z : State} {a0 : Array Value} (hw : ∀ d ∈ tables_1, d.before a0 Z = true) : ((Jvm.Cond.instanceMethod ({ cls := "java/lang/String", name := "length", desc := "()I" } : Jvm.MethodName))).before a0 Z = true := hw _ (List.mem_of_getElem? (i := 25) rfl)
theorem w26 {Z : State} {a0 : Array Value} (hw : ∀ d ∈ tables_1, d.before a0 Z = true) : ((Jvm.Cond.selects "java/lang/String" ({ cls := "java/lang/String", name := "length", desc := "()I" } : Jvm.MethodName) ({ cls := "java/lang/String", name := "length", desc := "()I" } : Jvm.MethodName))).before a0 Z = true := hw _ (List.mem_of_getElem? (i := 26) rfl)
theorem w27 {Z : State} {a0 : Array Value} (hw : ∀ d ∈ tables_1, d.before a0 Z = true) : ((Jvm.Cond.code ({ cls := "java/lang/String", name := "length", desc := "()I" } : Jvm.MethodName) jdk_42_method_54_code (1 : Nat) (Option.some Jvm.ClassFile.FieldType.int))).before a0 Z = true := hw _ (List.mem_of_getElem? (i := 27) rfl)
theorem w28 {Z : State} {a0 : Array Value} (hw : ∀ d ∈ tables_1, d.before a0 Z = true) : ((Jvm.Cond.fieldLink "java/lang/String" (9 : Nat) "java/lang/String" "value" "[B")).before a0 Z = true := hw _ (List.mem_of_getElem? (i := 28) rfl)
theorem w29 {Z : State} {a0 : Array Value} (hw : ∀ d ∈ tables_1, d.before a0 Z = true) : ((Jvm.Cond.methodLink "java/lang/String" (335 : Nat) ({ cls := "java/lang/String", name := "coder", desc := "()B" } : Jvm.MethodName))).before a0 Z = true := hw _ (List.mem_of_getElem? (i := 29) rfl)
theorem w30 {Z : State} {a0 : Array Value} (hw : ∀ d ∈ tables_1, d.before a0 Z = true) : ((Jvm.Cond.declares ({ cls := "java/lang/String", name := "coder", desc := "()B" } : Jvm.MethodName))).before a0 Z = true := hw _ (List.mem_of_getElem? (i := 30) rfl)
theorem w31 {Z : State} {a0 : Array Value} (hw : ∀ d ∈ tables_1, d.before a0 Z = true) : ((Jvm.Cond.instanceMethod ({ cls := "java/lang/String", name := "coder", desc := "()B" } : Jvm.MethodName))).before a0 Z = true := hw _ (List.mem_of_getElem? (i := 31) rfl)
theorem w32 {Z : State} {a0 : Array Value} (hw : ∀ d ∈ tables_1, d.before a0 Z = true) : ((Jvm.Cond.selects "java/lang/String" ({ cls := "java/lang/String", name := "coder", desc := "()B" } : Jvm.MethodName) ({ cls := "java/lang/String", name := "coder", desc := "()B" } : Jvm.MethodName))).before a0 Z = true := hw _ (List.mem_of_getElem? (i := 32) rfl)
theorem w33 {Z : State} {a0 : Array Value} (hw : ∀ d ∈ tables_1, d.before a0 Z = true) : ((Jvm.Cond.code ({ cls := "java/lang/String", name := "coder", desc := "()B" } : Jvm.MethodName) jdk_42_method_152_code (1 : Nat) (Option.some Jvm.ClassFile.FieldType.byte))).before a0 Z = true := hw _ (List.mem_of_getElem? (i := 33) rfl)
theorem w34 {Z : State} {a0 : Array Value} (hw : ∀ d ∈ tables_1, d.before a0 Z = true) : ((Jvm.Cond.fieldLink "java/lang/String" (38 : Nat) "java/lang/String" "COMPACT_STRINGS" "Z")).before a0 Z = true := hw _ (List.mem_of_getElem? (i := 34) rfl)
theorem w35 {Z : State} {a0 : Array Value} (hw : ∀ d ∈ tables_1, d.before a0 Z = true) : ((Jvm.Cond.fieldLink "java/lang/String" (15 : Nat) "java/lang/String" "coder" "B")).before a0 Z = true := hw _ (List.mem_of_getElem? (i := 35) rfl)
theorem w36 {Z : State} {a0 : Array Value} (hw : ∀ d ∈ tables_1, d.before a0 Z = true) : ((Jvm.Cond.methodLink "com/example/purlin/purlin/util/TextValuesBoolPinLaw" (26 : Nat) ({ cls := "java/lang/String", name := "charAt", desc := "(I)C" } : Jvm.MethodName))).before a0 Z = true := hw _ (List.mem_of_getElem? (i := 36) rfl)
theorem w37 {Z : State} {a0 : Array Value} (hw : ∀ d ∈ tables_1, d.before a0 Z = true) : ((Jvm.Cond.declares ({ cls := "java/lang/String", name := "charAt", desc := "(I)C" } : Jvm.MethodName))).before a0 Z = true := hw _ (List.mem_of_getElem? (i := 37) rfl)
theorem w38 {Z : State} {a0 : Array Value} (hw : ∀ d ∈ tables_1, d.before a0 Z = true) : ((Jvm.Cond.instanceMethod ({ cls := "java/lang/String", name := "charAt", desc := "(I)C" } : Jvm.MethodName))).before a0 Z = true := hw _ (List.mem_of_getElem? (i := 38) rfl)
theorem w39 {Z : State} {a0 : Array Value} (hw : ∀ d ∈ tables_1, d.before a0 Z = true) : ((Jvm.Cond.selects "java/lang/String" ({ cls := "java/lang/String", name := "charAt", desc := "(I)C" } : Jvm.MethodName) ({ cls := "java/lang/String", name := "charAt", desc := "(I)C" } : Jvm.MethodName))).before a0 Z = true := hw _ (List.mem_of_getElem? (i := 39) rfl)
theorem w40 {Z : State} {a0 : Array Value} (hw : ∀ d ∈ tables_1, d.before a0 Z = true) : ((Jvm.Cond.code ({ cls := "java/lang/String", name := "charAt", desc := "(I)C" } : Jvm.MethodName) jdk_42_method_56_code (2 : Nat) (Option.some Jvm.ClassFile.FieldType.char))).before a0 Z = true := hw _ (List.mem_of_getElem? (i := 40) rfl)
theorem w41 {Z : State} {a0 : Array Value} (hw : ∀ d ∈ tables_1, d.before a0 Z = true) : ((Jvm.Cond.methodLink "java/lang/String" (492 : Nat) ({ cls := "java/lang/String", name := "isLatin1", desc := "()Z" } : Jvm.MethodName))).before a0 Z = true := hw _ (List.mem_of_getElem? (i := 41) rfl)
theorem w42 {Z : State} {a0 : Array Value} (hw : ∀ d ∈ tables_1, d.before a0 Z = true) : ((Jvm.Cond.declares ({ cls := "java/lang/String", name := "isLatin1", desc := "()Z" } : Jvm.MethodName))).before a0 Z = true := hw _ (List.mem_of_getElem? (i := 42) rfl)
theorem w43 {Z : State} {a0 : Array Value} (hw : ∀ d ∈ tables_1, d.before a0 Z = true) : ((Jvm.Cond.instanceMethod ({ cls := "java/lang/String", name := "isLatin1", desc := "()Z" } : Jvm.MethodName))).before a0 Z = true := hw _ (List.mem_of_getElem? (i := 43) rfl)
theorem w44 {Z : State} {a0 : Array Value} (hw : ∀ d ∈ tables_1, d.before a0 Z = true) : ((Jvm.Cond.selects "java/lang/String" ({ cls := "java/lang/String", name := "isLatin1", desc := "()Z" } : Jvm.MethodName) ({ cls := "java/lang/String", name := "isLatin1", desc := "()Z" } : Jvm.MethodName))).before a0 Z = true := hw _ (List.mem_of_getElem? (i := 44) rfl)
theorem w45 {Z : State} {a0 : Array Value} (hw : ∀ d ∈ tables_1, d.before a0 Z = true) : ((Jvm.Cond.code ({ cls := "java/lang/String", name := "isLatin1", desc := "()Z" } : Jvm.MethodName) jdk_42_method_154_code (1 : Nat) (Option.some Jvm.ClassFile.FieldType.boolean))).before a0 Z = true := hw _ (List.mem_of_getElem? (i := 45) rfl)
theorem w46 {Z : State} {a0 : Array Value} (hw : ∀ d ∈ tables_1, d.before a0 Z = true) : ((Jvm.Cond.methodLink "java/lang/String" (495 : Nat) ({ cls := "java/lang/StringLatin1", name := "charAt", desc := "([BI)C" } : Jvm.MethodName))).before a0 Z = true := hw _ (List.mem_of_getElem? (i := 46) rfl)
theorem w47 {Z : State} {a0 : Array Value} (hw : ∀ d ∈ tables_1, d.before a0 Z = true) : ((Jvm.Cond.static ({ cls := "java/lang/StringLatin1", name := "charAt", desc := "([BI)C" } : Jvm.MethodName))).before a0 Z = true := hw _ (List.mem_of_getElem? (i := 47) rfl)
theorem w48 {Z : State} {a0 : Array Value} (hw : ∀ d ∈ tables_1, d.before a0 Z = true) : ((Jvm.Cond.initialized "java/lang/StringLatin1")).before a0 Z = true := hw _ (List.mem_of_getElem? (i := 48) rfl)
theorem w49 {Z : State} {a0 : Array Value} (hw : ∀ d ∈ tables_1, d.before a0 Z = true) : ((Jvm.Cond.code ({ cls := "java/lang/StringLatin1", name := "charAt", desc := "([BI)C" } : Jvm.MethodName) jdk_43_method_2_code (2 : Nat) (Option.some Jvm.ClassFile.FieldType.char))).before a0 Z = true := hw _ (List.mem_of_getElem? (i := 49) rfl)
theorem w50 {Z : State} {a0 : Array Value} (hw : ∀ d ∈ tables_1, d.before a0 Z = true) : ((Jvm.Cond.methodLink "java/lang/StringLatin1" (9 : Nat) ({ cls := "java/lang/String", name := "checkIndex", desc := "(II)V" } : Jvm.MethodName))).before a0 Z = true := hw _ (List.mem_of_getElem? (i := 50) rfl)
theorem w51 {Z : State} {a0 : Array Value} (hw : ∀ d ∈ tables_1, d.before a0 Z = true) : ((Jvm.Cond.static ({ cls := "java/lang/String", name := "checkIndex", desc := "(II)V" } : Jvm.MethodName))).before a0 Z = true := hw _ (List.mem_of_getElem? (i := 51) rfl)
theorem w52 {Z : State} {a0 : Array Value} (hw : ∀ d ∈ tables_1, d.before a0 Z = true) : ((Jvm.Cond.code ({ cls := "java/lang/String", name := "checkIndex", desc := "(II)V" } : Jvm.MethodName) jdk_42_method_155_code (2 : Nat) (Option.none : Option Jvm.ClassFile.FieldType))).before a0 Z = true := hw _ (List.mem_of_getElem? (i := 52) rfl)
theorem w53 {Z : State} {a0 : Array Value} (hw : ∀ d ∈ tables_1, d.before a0 Z = true) : ((Jvm.Cond.fieldLink "java/lang/String" (1053 : Nat) "jdk/internal/util/Preconditions" "SIOOBE_FORMATTER" "Ljava/util/function/BiFunction;")).before a0 Z = true := hw _ (List.mem_of_getElem? (i := 53) rfl)
theorem w54 {Z : State} {a0 : Array Value} (hw : ∀ d ∈ tables_1, d.before a0 Z = true) : ((Jvm.Cond.initialized "jdk/internal/util/Preconditions")).before a0 Z = true := hw _ (List.mem_of_getElem? (i := 54) rfl)
theorem w55 {Z : State} {a0 : Array Value} (hw : ∀ d ∈ tables_1, d.before a0 Z = true) : ((Jvm.Cond.methodLink "java/lang/String" (1059 : Nat) ({ cls := "jdk/internal/util/Preconditions", name := "checkIndex", desc := "(IILjava/util/function/BiFunction;)I" } : Jvm.MethodName))).before a0 Z = true := hw _ (List.mem_of_getElem? (i := 55) rfl)
theorem w56 {Z : State} {a0 : Array Value} (hw : ∀ d ∈ tables_1, d.before a0 Z = true) : ((Jvm.Cond.static ({ cls := "jdk/internal/util/Preconditions", name := "checkIndex", desc := "(IILjava/util/function/BiFunction;)I" } : Jvm.MethodName))).before a0 Z = true := hw _ (List.mem_of_getElem? (i := 56) rfl)
theorem w57 {Z : State} {a0 : Array Value} (hw : ∀ d ∈ tables_1, d.before a0 Z = true) : ((Jvm.Cond.code ({ cls := "jdk/internal/util/Preconditions", name := "checkIndex", desc := "(IILjava/util/function/BiFunction;)I" } : Jvm.MethodName) jdk_41_method_11_code (3 : Nat) (Option.some Jvm.ClassFile.FieldType.int))).before a0 Z = true := hw _ (List.mem_of_getElem? (i := 57) rfl)
theorem w58 {Z : State} {a0 : Array Value} (hw : ∀ d ∈ tables_1, d.before a0 Z = true) : ((Jvm.Cond.methodLink "com/example/purlin/purlin/util/TextValuesBoolPinLaw" (30 : Nat) ({ cls := "com/example/purlin/purlin/util/TextValuesBoolPinLaw", name := "make", desc := "([CI)Ljava/lang/String;" } : Jvm.MethodName))).before a0 Z = true := hw _ (List.mem_of_getElem? (i := 58) rfl)
theorem w59 {Z : State} {a0 : Array Value} (hw : ∀ d ∈ tables_1, d.before a0 Z = true) : ((Jvm.Cond.static ({ cls := "com/example/purlin/purlin/util/TextValuesBoolPinLaw", name := "make", desc := "([CI)Ljava/lang/String;" } : Jvm.MethodName))).before a0 Z = true := hw _ (List.mem_of_getElem? (i := 59) rfl)
theorem w60 {Z : State} {a0 : Array Value} (hw : ∀ d ∈ tables_1, d.before a0 Z = true) : ((Jvm.Cond.initialized "com/example/purlin/purlin/util/TextValuesBoolPinLaw")).before a0 Z = true := hw _ (List.mem_of_getElem? (i := 60) rfl)
theorem w61 {Z : State} {a0 : Array Value} (hw : ∀ d ∈ tables_1, d.before a0 Z = true) : ((Jvm.Cond.code ({ cls := "com/example/purlin/purlin/util/TextValuesBoolPinLaw", name := "make", desc := "([CI)Ljava/lang/String;" } : Jvm.MethodName) method_2_code (2 : Nat) (Option.some (Jvm.ClassFile.FieldType.object "java/lang/String")))).before a0 Z = true := hw _ (List.mem_of_getElem? (i := 61) rfl)
theorem w62 {Z : State} {a0 : Array Value} (hw : ∀ d ∈ tables_1, d.before a0 Z = true) : ((Jvm.Cond.classLink "com/example/purlin/purlin/util/TextValuesBoolPinLaw" (7 : Nat) "java/lang/String")).before a0 Z = true := hw _ (List.mem_of_getElem? (i := 62) rfl)
theorem w63 {Z : State} {a0 : Array Value} (hw : ∀ d ∈ tables_1, d.before a0 Z = true) : ((Jvm.Cond.methodLink "com/example/purlin/purlin/util/TextValuesBoolPinLaw" (9 : Nat) ({ cls := "java/lang/String", name := "<init>", desc := "([C)V" } : Jvm.MethodName))).before a0 Z = true := hw _ (List.mem_of_getElem? (i := 63) rfl)
theorem w64 {Z : State} {a0 : Array Value} (hw : ∀ d ∈ tables_1, d.before a0 Z = true) : ((Jvm.Cond.instanceMethod ({ cls := "java/lang/String", name := "<init>", desc := "([C)V" } : Jvm.MethodName))).before a0 Z = true := hw _ (List.mem_of_getElem? (i := 64) rfl)
theorem w65 {Z : State} {a0 : Array Value} (hw : ∀ d ∈ tables_1, d.before a0 Z = true) : ((Jvm.Cond.code ({ cls := "java/lang/String", name := "<init>", desc := "([C)V" } : Jvm.MethodName) jdk_42_method_3_code (2 : Nat) (Option.none : Option Jvm.ClassFile.FieldType))).before a0 Z = true := hw _ (List.mem_of_getElem? (i := 65) rfl)
theorem w66 {Z : State} {a0 : Array Value} (hw : ∀ d ∈ tables_1, d.before a0 Z = true) : ((Jvm.Cond.methodLink "java/lang/String" (27 : Nat) ({ cls := "java/lang/String", name := "<init>", desc := "([CIILjava/lang/Void;)V" } : Jvm.MethodName))).before a0 Z = true := hw _ (List.mem_of_getElem? (i := 66) rfl)
theorem w67 {Z : State} {a0 : Array Value} (hw : ∀ d ∈ tables_1, d.before a0 Z = true) : ((Jvm.Cond.instanceMethod ({ cls := "java/lang/String", name := "<init>", desc := "([CIILjava/lang/Void;)V" } : Jvm.MethodName))).before a0 Z = true := hw _ (List.mem_of_getElem? (i := 67) rfl)
theorem w69 {Z : State} {a0 : Array Value} (hw : ∀ d ∈ tables_1, d.before a0 Z = true) : ((Jvm.Cond.code ({ cls := "java/lang/String", name := "<init>", desc := "([CIILjava/lang/Void;)V" } : Jvm.MethodName) jdk_42_method_149_code (6 : Nat) (Option.none : Option Jvm.ClassFile.FieldType))).before a0 Z = true := hw _ (List.mem_of_getElem? (i := 69) rfl)
theorem w70 {Z : State} {a0 : Array Value} (hw : ∀ d ∈ tables_1, d.before a0 Z = true) : ((Jvm.Cond.methodLink "java/lang/String" (1 : Nat) ({ cls := "java/lang/Object", name := "<init>", desc := "()V" } : Jvm.MethodName))).before a0 Z = true := hw _ (List.mem_of_getElem? (i := 70) rfl)
theorem w71 {Z : State} {a0 : Array Value} (hw : ∀ d ∈ tables_1, d.before a0 Z = true) : ((Jvm.Cond.instanceMethod ({ cls := "java/lang/Object", name := "<init>", desc := "()V" } : Jvm.MethodName))).before a0 Z = true := hw _ (List.mem_of_getElem? (i := 71) rfl)
theorem w72 {Z : State} {a0 : Array Value} (hw : ∀ d ∈ tables_1, d.before a0 Z = true) : ((Jvm.Cond.code ({ cls := "java/lang/Object", name := "<init>", desc := "()V" } : Jvm.MethodName) object_method_1_code (1 : Nat) (Option.none : Option Jvm.ClassFile.FieldType))).before a0 Z = true := hw _ (List.mem_of_getElem? (i := 72) rfl)
theorem w73 {Z : State} {a0 : Array Value} (hw : ∀ d ∈ tables_1, d.before a0 Z = true) : ((Jvm.Cond.methodLink "java/lang/String" (177 : Nat) ({ cls := "java/lang/StringUTF16", name := "compress", desc := "([CII)[B" } : Jvm.MethodName))).before a0 Z = true := hw _ (List.mem_of_getElem? (i := 73) rfl)
theorem w74 {Z : State} {a0 : Array Value} (hw : ∀ d ∈ tables_1, d.before a0 Z = true) : ((Jvm.Cond.static ({ cls := "java/lang/StringUTF16", name := "compress", desc := "([CII)[B" } : Jvm.MethodName))).before a0 Z = true := hw _ (List.mem_of_getElem? (i := 74) rfl)
theorem w75 {Z : State} {a0 : Array Value} (hw : ∀ d ∈ tables_1, d.before a0 Z = true) : ((Jvm.Cond.initialized "java/lang/StringUTF16")).before a0 Z = true := hw _ (List.mem_of_getElem? (i := 75) rfl)
theorem w76 {Z : State} {a0 : Array Value} (hw : ∀ d ∈ tables_1, d.before a0 Z = true) : ((Jvm.Cond.code ({ cls := "java/lang/StringUTF16", name := "compress", desc := "([CII)[B" } : Jvm.MethodName) jdk_52_method_16_code (6 : Nat) (Option.some (Jvm.ClassFile.FieldType.array Jvm.ClassFile.FieldType.byte)))).before a0 Z = true := hw _ (List.mem_of_getElem? (i := 76) rfl)
theorem w77 {Z : State} {a0 : Array Value} (hw : ∀ d ∈ tables_1, d.before a0 Z = true) : ((Jvm.Cond.methodLink "java/lang/StringUTF16" (115 : Nat) ({ cls := "java/lang/StringUTF16", name := "compress", desc := "([CI[BII)I" } : Jvm.MethodName))).before a0 Z = true := hw _ (List.mem_of_getElem? (i := 77) rfl)
theorem w78 {Z : State} {a0 : Array Value} (hw : ∀ d ∈ tables_1, d.before a0 Z = true) : ((Jvm.Cond.static ({ cls := "java/lang/StringUTF16", name := "compress", desc := "([CI[BII)I" } : Jvm.MethodName))).before a0 Z = true := hw _ (List.mem_of_getElem? (i := 78) rfl)
theorem w79 {Z : State} {a0 : Array Value} (hw : ∀ d ∈ tables_1, d.before a0 Z = true) : ((Jvm.Cond.code ({ cls := "java/lang/StringUTF16", name := "compress", desc := "([CI[BII)I" } : Jvm.MethodName) jdk_52_method_21_code (7 : Nat) (Option.some Jvm.ClassFile.FieldType.int))).before a0 Z = true := hw _ (List.mem_of_getElem? (i := 79) rfl)
theorem w80 {Z : State} {a0 : Array Value} (hw : ∀ d ∈ tables_1, d.before a0 Z = true) : ((Jvm.Cond.methodLink "java/lang/String" (47 : Nat) ({ cls := "java/lang/StringUTF16", name := "coderFromArrayLen", desc := "([BI)B" } : Jvm.MethodName))).before a0 Z = true := hw _ (List.mem_of_getElem? (i := 80) rfl)
theorem w81 {Z : State} {a0 : Array Value} (hw : ∀ d ∈ tables_1, d.before a0 Z = true) : ((Jvm.Cond.static ({ cls := "java/lang/StringUTF16", name := "coderFromArrayLen", desc := "([BI)B" } : Jvm.MethodName))).before a0 Z = true := hw _ (List.mem_of_getElem? (i := 81) rfl)
theorem w82 {Z : State} {a0 : Array Value} (hw : ∀ d ∈ tables_1, d.before a0 Z = true) : ((Jvm.Cond.code ({ cls := "java/lang/StringUTF16", name := "coderFromArrayLen", desc := "([BI)B" } : Jvm.MethodName) jdk_52_method_15_code (2 : Nat) (Option.some Jvm.ClassFile.FieldType.byte))).before a0 Z = true := hw _ (List.mem_of_getElem? (i := 82) rfl)
theorem w83 {Z : State} {a0 : Array Value} (hw : ∀ d ∈ tables_1, d.before a0 Z = true) : ((Jvm.Cond.classLink "java/lang/String" (10 : Nat) "java/lang/String")).before a0 Z = true := hw _ (List.mem_of_getElem? (i := 83) rfl)
theorem w84 {Z : State} {a0 : Array Value} (hw : ∀ d ∈ tables_1, d.before a0 Z = true) : ((Jvm.Cond.methodLink "java/lang/String" (541 : Nat) ({ cls := "java/lang/StringLatin1", name := "equals", desc := "([B[B)Z" } : Jvm.MethodName))).before a0 Z = true := hw _ (List.mem_of_getElem? (i := 84) rfl)
theorem w85 {Z : State} {a0 : Array Value} (hw : ∀ d ∈ tables_1, d.before a0 Z = true) : ((Jvm.Cond.static ({ cls := "java/lang/StringLatin1", name := "equals", desc := "([B[B)Z" } : Jvm.MethodName))).before a0 Z = true := hw _ (List.mem_of_getElem? (i := 85) rfl)
theorem w86 {Z : State} {a0 : Array Value} (hw : ∀ d ∈ tables_1, d.before a0 Z = true) : ((Jvm.Cond.code ({ cls := "java/lang/StringLatin1", name := "equals", desc := "([B[B)Z" } : Jvm.MethodName) jdk_43_method_13_code (3 : Nat) (Option.some Jvm.ClassFile.FieldType.boolean))).before a0 Z = true := hw _ (List.mem_of_getElem? (i := 86) rfl)
theorem w87 {Z : State} {a0 : Array Value} (hw : ∀ d ∈ tables_1, d.before a0 Z = true) : ((Jvm.Cond.stringLink "com/example/purlin/purlin/util/TextValuesBoolPinLaw" (16 : Nat) "yes")).before a0 Z = true := hw _ (List.mem_of_getElem? (i := 87) rfl)
theorem w88 {Z : State} {a0 : Array Value} (hw : ∀ d ∈ tables_1, d.before a0 Z = true) : ((Jvm.Cond.fieldLink "com/example/purlin/purlin/util/TextValues" (57 : Nat) "java/lang/Boolean" "TRUE" "Ljava/lang/Boolean;")).before a0 Z = true := hw _ (List.mem_of_getElem? (i := 88) rfl)
theorem w89 {Z : State} {a0 : Array Value} (hw : ∀ d ∈ tables_1, d.before a0 Z = true) : ((Jvm.Cond.initialized "java/lang/Boolean")).before a0 Z = true := hw _ (List.mem_of_getElem? (i := 89) rfl)
theorem w90 {Z : State} {a0 : Array Value} (hw : ∀ d ∈ tables_1, d.before a0 Z = true) : ((Jvm.Cond.methodLink "com/example/purlin/purlin/util/TextValuesBoolPinLaw" (42 : Nat) ({ cls := "java/lang/Boolean", name := "booleanValue", desc := "()Z" } : Jvm.MethodName))).before a0 Z = true := hw _ (List.mem_of_getElem? (i := 90) rfl)
theorem w91 {Z : State} {a0 : Array Value} (hw : ∀ d ∈ tables_1, d.before a0 Z = true) : ((Jvm.Cond.declares ({ cls := "java/lang/Boolean", name := "booleanValue", desc := "()Z" } : Jvm.MethodName))).before a0 Z = true := hw _ (List.mem_of_getElem? (i := 91) rfl)
theorem w92 {Z : State} {a0 : Array Value} (hw : ∀ d ∈ tables_1, d.before a0 Z = true) : ((Jvm.Cond.instanceMethod ({ cls := "java/lang/Boolean", name := "booleanValue", desc := "()Z" } : Jvm.MethodName))).before a0 Z = true := hw _ (List.mem_of_getElem? (i := 92) rfl)
theorem w93 {Z : State} {a0 : Array Value} (hw : ∀ d ∈ tables_1, d.before a0 Z = true) : ((Jvm.Cond.selects "java/lang/Boolean" ({ cls := "java/lang/Boolean", name := "booleanValue", desc := "()Z" } : Jvm.MethodName) ({ cls := "java/lang/Boolean", name := "booleanValue", desc := "()Z" } : Jvm.MethodName))).before a0 Z = true := hw _ (List.mem_of_getElem? (i := 93) rfl)
theorem w94 {Z : State} {a0 : Array Value} (hw : ∀ d ∈ tables_1, d.before a0 Z = true) : ((Jvm.Cond.code ({ cls := "java/lang/Boolean", name := "booleanValue", desc := "()Z" } : Jvm.MethodName) jdk_2055_method_4_code (1 : Nat) (Option.some Jvm.ClassFile.FieldType.boolean))).before a0 Z = true := hw _ (List.mem_of_getElem? (i := 94) rfl)
theorem w95 {Z : State} {a0 : Array Value} (hw : ∀ d ∈ tables_1, d.before a0 Z = true) : ((Jvm.Cond.fieldLink "java/lang/Boolean" (7 : Nat) "java/lang/Boolean" "value" "Z")).before a0 Z = true := hw _ (List.mem_of_getElem? (i := 95) rfl)
theorem w97 {Z : State} {a0 : Array Value} (hw : ∀ d ∈ tables_1, d.before a0 Z = true) : ((Jvm.Cond.stringLink "java/lang/String" (7 : Nat) "")).before a0 Z = true := hw _ (List.mem_of_getElem? (i := 97) rfl)
theorem w98 {Z : State} {a0 : Array Value} (hw : ∀ d ∈ tables_1, d.before a0 Z = true) : ((Jvm.Cond.stringLink "com/example/purlin/purlin/util/TextValuesBoolPinLaw" (14 : Nat) "true")).before a0 Z = true := hw _ (List.mem_of_getElem? (i := 98) rfl)
theorem w99 {Z : State} {a0 : Array Value} (hw : ∀ d ∈ tables_1, d.before a0 Z = true) : ((Jvm.Cond.stringLink "com/example/purlin/purlin/util/TextValuesBoolPinLaw" (18 : Nat) "false")).before a0 Z = true := hw _ (List.mem_of_getElem? (i := 99) rfl)
theorem w100 {Z : State} {a0 : Array Value} (hw : ∀ d ∈ tables_1, d.before a0 Z = true) : ((Jvm.Cond.fieldLink "com/example/purlin/purlin/util/TextValues" (67 : Nat) "java/lang/Boolean" "FALSE" "Ljava/lang/Boolean;")).before a0 Z = true := hw _ (List.mem_of_getElem? (i := 100) rfl)
theorem d_jdk_42_method_152_0 : decode jdk_42_method_152_code 0 = .ok (.getstatic 38, 3) := by decide +kernel
theorem d_jdk_42_method_152_3 : decode jdk_42_method_152_code 3 = .ok (.ifCond .eq 10, 3) := by decide +kernel
theorem d_jdk_42_method_152_6 : decode jdk_42_method_152_code 6 = .ok (.aload_n 0, 1) := by decide +kernel
theorem d_jdk_42_method_152_7 : decode jdk_42_method_152_code 7 = .ok (.getfield 15, 3) := by decide +kernel
theorem d_jdk_42_method_152_10 : decode jdk_42_method_152_code 10 = .ok (.goto 4, 3) := by decide +kernel
theorem d_jdk_42_method_152_14 : decode jdk_42_method_152_code 14 = .ok (.ireturn, 1) := by decide +kernel
theorem d_jdk_42_method_54_0 : decode jdk_42_method_54_code 0 = .ok (.aload_n 0, 1) := by decide +kernel
theorem d_jdk_42_method_54_1 : decode jdk_42_method_54_code 1 = .ok (.getfield 9, 3) := by decide +kernel
theorem d_jdk_42_method_54_4 : decode jdk_42_method_54_code 4 = .ok (.arraylength, 1) := by decide +kernel
theorem d_jdk_42_method_54_5 : decode jdk_42_method_54_code 5 = .ok (.aload_n 0, 1) := by decide +kernel
theorem d_jdk_42_method_54_6 : decode jdk_42_method_54_code 6 = .ok (.invokevirtual 335, 3) := by decide +kernel
theorem d_jdk_42_method_54_9 : decode jdk_42_method_54_code 9 = .ok (.ishr, 1) := by decide +kernel
theorem d_jdk_42_method_54_10 : decode jdk_42_method_54_code 10 = .ok (.ireturn, 1) := by decide +kernel
theorem d_jdk_42_method_154_0 : decode jdk_42_method_154_code 0 = .ok (.getstatic 38, 3) := by decide +kernel
theorem d_jdk_42_method_154_3 : decode jdk_42_method_154_code 3 = .ok (.ifCond .eq 14, 3) := by decide +kernel
theorem d_jdk_42_method_154_6 : decode jdk_42_method_154_code 6 = .ok (.aload_n 0, 1) := by decide +kernel
theorem d_jdk_42_method_154_7 : decode jdk_42_method_154_code 7 = .ok (.getfield 15, 3) := by decide +kernel
theorem d_jdk_42_method_154_10 : decode jdk_42_method_154_code 10 = .ok (.ifCond .ne 7, 3) := by decide +kernel
theorem d_jdk_42_method_154_13 : decode jdk_42_method_154_code 13 = .ok (.iconst 1, 1) := by decide +kernel
theorem d_jdk_42_method_154_14 : decode jdk_42_method_154_code 14 = .ok (.goto 4, 3) := by decide +kernel
theorem d_jdk_42_method_154_18 : decode jdk_42_method_154_code 18 = .ok (.ireturn, 1) := by decide +kernel
theorem d_jdk_42_method_154_17 : decode jdk_42_method_154_code 17 = .ok (.iconst 0, 1) := by decide +kernel
theorem d_jdk_41_method_11_0 : decode jdk_41_method_11_code 0 = .ok (.iload_n 0, 1) := by decide +kernel
theorem d_jdk_41_method_11_1 : decode jdk_41_method_11_code 1 = .ok (.ifCond .lt 8, 3) := by decide +kernel
theorem d_jdk_41_method_11_4 : decode jdk_41_method_11_code 4 = .ok (.iload_n 0, 1) := by decide +kernel
theorem d_jdk_41_method_11_5 : decode jdk_41_method_11_code 5 = .ok (.iload_n 1, 1) := by decide +kernel
theorem d_jdk_41_method_11_6 : decode jdk_41_method_11_code 6 = .ok (.if_icmp .lt 10, 3) := by decide +kernel
theorem d_jdk_41_method_11_16 : decode jdk_41_method_11_code 16 = .ok (.iload_n 0, 1) := by decide +kernel
theorem d_jdk_41_method_11_17 : decode jdk_41_method_11_code 17 = .ok (.ireturn, 1) := by decide +kernel
theorem d_jdk_42_method_155_0 : decode jdk_42_method_155_code 0 = .ok (.iload_n 0, 1) := by decide +kernel
theorem d_jdk_42_method_155_1 : decode jdk_42_method_155_code 1 = .ok (.iload_n 1, 1) := by decide +kernel
theorem d_jdk_42_method_155_2 : decode jdk_42_method_155_code 2 = .ok (.getstatic 1053, 3) := by decide +kernel
theorem d_jdk_42_method_155_5 : decode jdk_42_method_155_code 5 = .ok (.invokestatic 1059, 3) := by decide +kernel
theorem d_jdk_42_method_155_8 : decode jdk_42_method_155_code 8 = .ok (.pop, 1) := by decide +kernel
theorem d_jdk_42_method_155_9 : decode jdk_42_method_155_code 9 = .ok (.return_, 1) := by decide +kernel
theorem d_jdk_43_method_2_0 : decode jdk_43_method_2_code 0 = .ok (.iload_n 1, 1) := by decide +kernel
theorem d_jdk_43_method_2_1 : decode jdk_43_method_2_code 1 = .ok (.aload_n 0, 1) := by decide +kernel
theorem d_jdk_43_method_2_2 : decode jdk_43_method_2_code 2 = .ok (.arraylength, 1) := by decide +kernel
theorem d_jdk_43_method_2_3 : decode jdk_43_method_2_code 3 = .ok (.invokestatic 9, 3) := by decide +kernel
theorem d_jdk_43_method_2_6 : decode jdk_43_method_2_code 6 = .ok (.aload_n 0, 1) := by decide +kernel
theorem d_jdk_43_method_2_7 : decode jdk_43_method_2_code 7 = .ok (.iload_n 1, 1) := by decide +kernel
theorem d_jdk_43_method_2_8 : decode jdk_43_method_2_code 8 = .ok (.baload, 1) := by decide +kernel
theorem d_jdk_43_method_2_9 : decode jdk_43_method_2_code 9 = .ok (.sipush 255, 3) := by decide +kernel
theorem d_jdk_43_method_2_12 : decode jdk_43_method_2_code 12 = .ok (.iand, 1) := by decide +kernel
theorem d_jdk_43_method_2_13 : decode jdk_43_method_2_code 13 = .ok (.i2c, 1) := by decide +kernel
theorem d_jdk_43_method_2_14 : decode jdk_43_method_2_code 14 = .ok (.ireturn, 1) := by decide +kernel
theorem d_jdk_42_method_56_0 : decode jdk_42_method_56_code 0 = .ok (.aload_n 0, 1) := by decide +kernel
theorem d_jdk_42_method_56_1 : decode jdk_42_method_56_code 1 = .ok (.invokevirtual 492, 3) := by decide +kernel
theorem d_jdk_42_method_56_4 : decode jdk_42_method_56_code 4 = .ok (.ifCond .eq 12, 3) := by decide +kernel
theorem d_jdk_42_method_56_7 : decode jdk_42_method_56_code 7 = .ok (.aload_n 0, 1) := by decide +kernel
theorem d_jdk_42_method_56_8 : decode jdk_42_method_56_code 8 = .ok (.getfield 9, 3) := by decide +kernel
theorem d_jdk_42_method_56_11 : decode jdk_42_method_56_code 11 = .ok (.iload_n 1, 1) := by decide +kernel
theorem d_jdk_42_method_56_12 : decode jdk_42_method_56_code 12 = .ok (.invokestatic 495, 3) := by decide +kernel
theorem d_jdk_42_method_56_15 : decode jdk_42_method_56_code 15 = .ok (.ireturn, 1) := by decide +kernel
theorem d_jdk_43_method_13_0 : decode jdk_43_method_13_code 0 = .ok (.aload_n 0, 1) := by decide +kernel
theorem d_jdk_43_method_13_1 : decode jdk_43_method_13_code 1 = .ok (.arraylength, 1) := by decide +kernel
theorem d_jdk_43_method_13_2 : decode jdk_43_method_13_code 2 = .ok (.aload_n 1, 1) := by decide +kernel
theorem d_jdk_43_method_13_3 : decode jdk_43_method_13_code 3 = .ok (.arraylength, 1) := by decide +kernel
theorem d_jdk_43_method_13_4 : decode jdk_43_method_13_code 4 = .ok (.if_icmp .ne 30, 3) := by decide +kernel
theorem d_jdk_43_method_13_7 : decode jdk_43_method_13_code 7 = .ok (.iconst 0, 1) := by decide +kernel
theorem d_jdk_43_method_13_8 : decode jdk_43_method_13_code 8 = .ok (.istore_n 2, 1) := by decide +kernel
theorem d_jdk_43_method_13_9 : decode jdk_43_method_13_code 9 = .ok (.iload_n 2, 1) := by decide +kernel
theorem d_jdk_43_method_13_10 : decode jdk_43_method_13_code 10 = .ok (.aload_n 0, 1) := by decide +kernel
theorem d_jdk_43_method_13_11 : decode jdk_43_method_13_code 11 = .ok (.arraylength, 1) := by decide +kernel
theorem d_jdk_43_method_13_12 : decode jdk_43_method_13_code 12 = .ok (.if_icmp .ge 20, 3) := by decide +kernel
theorem d_jdk_43_method_13_32 : decode jdk_43_method_13_code 32 = .ok (.iconst 1, 1) := by decide +kernel
theorem d_jdk_43_method_13_33 : decode jdk_43_method_13_code 33 = .ok (.ireturn, 1) := by decide +kernel
theorem d_jdk_43_method_13_15 : decode jdk_43_method_13_code 15 = .ok (.aload_n 0, 1) := by decide +kernel
theorem d_jdk_43_method_13_16 : decode jdk_43_method_13_code 16 = .ok (.iload_n 2, 1) := by decide +kernel
theorem d_jdk_43_method_13_17 : decode jdk_43_method_13_code 17 = .ok (.baload, 1) := by decide +kernel
theorem d_jdk_43_method_13_18 : decode jdk_43_method_13_code 18 = .ok (.aload_n 1, 1) := by decide +kernel
theorem d_jdk_43_method_13_19 : decode jdk_43_method_13_code 19 = .ok (.iload_n 2, 1) := by decide +kernel
theorem d_jdk_43_method_13_20 : decode jdk_43_method_13_code 20 = .ok (.baload, 1) := by decide +kernel
theorem d_jdk_43_method_13_21 : decode jdk_43_method_13_code 21 = .ok (.if_icmp .eq 5, 3) := by decide +kernel
theorem d_jdk_43_method_13_26 : decode jdk_43_method_13_code 26 = .ok (.iinc 2 1, 3) := by decide +kernel
theorem d_jdk_43_method_13_29 : decode jdk_43_method_13_code 29 = .ok (.goto (-20), 3) := by decide +kernel
theorem d_jdk_43_method_13_24 : decode jdk_43_method_13_code 24 = .ok (.iconst 0, 1) := by decide +kernel
theorem d_jdk_43_method_13_25 : decode jdk_43_method_13_code 25 = .ok (.ireturn, 1) := by decide +kernel
theorem d_jdk_43_method_13_34 : decode jdk_43_method_13_code 34 = .ok (.iconst 0, 1) := by decide +kernel
theorem d_jdk_43_method_13_35 : decode jdk_43_method_13_code 35 = .ok (.ireturn, 1) := by decide +kernel
theorem d_jdk_42_method_66_0 : decode jdk_42_method_66_code 0 = .ok (.aload_n 0, 1) := by decide +kernel
theorem d_jdk_42_method_66_1 : decode jdk_42_method_66_code 1 = .ok (.aload_n 1, 1) := by decide +kernel
theorem d_jdk_42_method_66_2 : decode jdk_42_method_66_code 2 = .ok (.if_acmp .ne 5, 3) := by decide +kernel
theorem d_jdk_42_method_66_5 : decode jdk_42_method_66_code 5 = .ok (.iconst 1, 1) := by decide +kernel
theorem d_jdk_42_method_66_6 : decode jdk_42_method_66_code 6 = .ok (.ireturn, 1) := by decide +kernel
theorem d_jdk_42_method_66_7 : decode jdk_42_method_66_code 7 = .ok (.aload_n 1, 1) := by decide +kernel
theorem d_jdk_42_method_66_8 : decode jdk_42_method_66_code 8 = .ok (.instanceof 10, 3) := by decide +kernel
theorem d_jdk_42_method_66_11 : decode jdk_42_method_66_code 11 = .ok (.ifCond .eq 43, 3) := by decide +kernel
theorem d_jdk_42_method_66_14 : decode jdk_42_method_66_code 14 = .ok (.aload_n 1, 1) := by decide +kernel
theorem d_jdk_42_method_66_15 : decode jdk_42_method_66_code 15 = .ok (.checkcast 10, 3) := by decide +kernel
theorem d_jdk_42_method_66_18 : decode jdk_42_method_66_code 18 = .ok (.astore_n 2, 1) := by decide +kernel
theorem d_jdk_42_method_66_19 : decode jdk_42_method_66_code 19 = .ok (.getstatic 38, 3) := by decide +kernel
theorem d_jdk_42_method_66_22 : decode jdk_42_method_66_code 22 = .ok (.ifCond .eq 14, 3) := by decide +kernel
theorem d_jdk_42_method_66_25 : decode jdk_42_method_66_code 25 = .ok (.aload_n 0, 1) := by decide +kernel
theorem d_jdk_42_method_66_26 : decode jdk_42_method_66_code 26 = .ok (.getfield 15, 3) := by decide +kernel
theorem d_jdk_42_method_66_29 : decode jdk_42_method_66_code 29 = .ok (.aload_n 2, 1) := by decide +kernel
theorem d_jdk_42_method_66_30 : decode jdk_42_method_66_code 30 = .ok (.getfield 15, 3) := by decide +kernel
theorem d_jdk_42_method_66_33 : decode jdk_42_method_66_code 33 = .ok (.if_icmp .ne 21, 3) := by decide +kernel
theorem d_jdk_42_method_66_36 : decode jdk_42_method_66_code 36 = .ok (.aload_n 0, 1) := by decide +kernel
theorem d_jdk_42_method_66_37 : decode jdk_42_method_66_code 37 = .ok (.getfield 9, 3) := by decide +kernel
theorem d_jdk_42_method_66_40 : decode jdk_42_method_66_code 40 = .ok (.aload_n 2, 1) := by decide +kernel
theorem d_jdk_42_method_66_41 : decode jdk_42_method_66_code 41 = .ok (.getfield 9, 3) := by decide +kernel
theorem d_jdk_42_method_66_44 : decode jdk_42_method_66_code 44 = .ok (.invokestatic 541, 3) := by decide +kernel
theorem d_jdk_42_method_66_47 : decode jdk_42_method_66_code 47 = .ok (.ifCond .eq 7, 3) := by decide +kernel
theorem d_jdk_42_method_66_50 : decode jdk_42_method_66_code 50 = .ok (.iconst 1, 1) := by decide +kernel
theorem d_jdk_42_method_66_51 : decode jdk_42_method_66_code 51 = .ok (.goto 4, 3) := by decide +kernel
theorem d_jdk_42_method_66_55 : decode jdk_42_method_66_code 55 = .ok (.ireturn, 1) := by decide +kernel
theorem d_jdk_42_method_66_54 : decode jdk_42_method_66_code 54 = .ok (.iconst 0, 1) := by decide +kernel
theorem d_jdk_52_method_21_0 : decode jdk_52_method_21_code 0 = .ok (.iconst 0, 1) := by decide +kernel
theorem d_jdk_52_method_21_1 : decode jdk_52_method_21_code 1 = .ok (.istore 5, 2) := by decide +kernel
theorem d_jdk_52_method_21_3 : decode jdk_52_method_21_code 3 = .ok (.iload 5, 2) := by decide +kernel
theorem d_jdk_52_method_21_5 : decode jdk_52_method_21_code 5 = .ok (.iload 4, 2) := by decide +kernel
theorem d_jdk_52_method_21_7 : decode jdk_52_method_21_code 7 = .ok (.if_icmp .ge 37, 3) := by decide +kernel
theorem d_jdk_52_method_21_44 : decode jdk_52_method_21_code 44 = .ok (.iload 4, 2) := by decide +kernel
theorem d_jdk_52_method_21_46 : decode jdk_52_method_21_code 46 = .ok (.ireturn, 1) := by decide +kernel
theorem d_jdk_52_method_21_10 : decode jdk_52_method_21_code 10 = .ok (.aload_n 0, 1) := by decide +kernel
theorem d_jdk_52_method_21_11 : decode jdk_52_method_21_code 11 = .ok (.iload_n 1, 1) := by decide +kernel
theorem d_jdk_52_method_21_12 : decode jdk_52_method_21_code 12 = .ok (.caload, 1) := by decide +kernel
theorem d_jdk_52_method_21_13 : decode jdk_52_method_21_code 13 = .ok (.istore 6, 2) := by decide +kernel
theorem d_jdk_52_method_21_15 : decode jdk_52_method_21_code 15 = .ok (.iload 6, 2) := by decide +kernel
theorem d_jdk_52_method_21_17 : decode jdk_52_method_21_code 17 = .ok (.sipush 255, 3) := by decide +kernel
theorem d_jdk_52_method_21_20 : decode jdk_52_method_21_code 20 = .ok (.if_icmp .le 6, 3) := by decide +kernel
theorem d_jdk_52_method_21_26 : decode jdk_52_method_21_code 26 = .ok (.aload_n 2, 1) := by decide +kernel
theorem d_jdk_52_method_21_27 : decode jdk_52_method_21_code 27 = .ok (.iload_n 3, 1) := by decide +kernel
theorem d_jdk_52_method_21_28 : decode jdk_52_method_21_code 28 = .ok (.iload 6, 2) := by decide +kernel
theorem d_jdk_52_method_21_30 : decode jdk_52_method_21_code 30 = .ok (.i2b, 1) := by decide +kernel
theorem d_jdk_52_method_21_31 : decode jdk_52_method_21_code 31 = .ok (.bastore, 1) := by decide +kernel
theorem d_jdk_52_method_21_32 : decode jdk_52_method_21_code 32 = .ok (.iinc 1 1, 3) := by decide +kernel
theorem d_jdk_52_method_21_35 : decode jdk_52_method_21_code 35 = .ok (.iinc 3 1, 3) := by decide +kernel
theorem d_jdk_52_method_21_38 : decode jdk_52_method_21_code 38 = .ok (.iinc 5 1, 3) := by decide +kernel
theorem d_jdk_52_method_21_41 : decode jdk_52_method_21_code 41 = .ok (.goto (-38), 3) := by decide +kernel
theorem d_jdk_52_method_16_0 : decode jdk_52_method_16_code 0 = .ok (.iload_n 2, 1) := by decide +kernel
theorem d_jdk_52_method_16_1 : decode jdk_52_method_16_code 1 = .ok (.newarray .byte, 2) := by decide +kernel
theorem d_jdk_52_method_16_3 : decode jdk_52_method_16_code 3 = .ok (.astore_n 3, 1) := by decide +kernel
theorem d_jdk_52_method_16_4 : decode jdk_52_method_16_code 4 = .ok (.aload_n 0, 1) := by decide +kernel
theorem d_jdk_52_method_16_5 : decode jdk_52_method_16_code 5 = .ok (.iload_n 1, 1) := by decide +kernel
theorem d_jdk_52_method_16_6 : decode jdk_52_method_16_code 6 = .ok (.aload_n 3, 1) := by decide +kernel
theorem d_jdk_52_method_16_7 : decode jdk_52_method_16_code 7 = .ok (.iconst 0, 1) := by decide +kernel
theorem d_jdk_52_method_16_8 : decode jdk_52_method_16_code 8 = .ok (.iload_n 2, 1) := by decide +kernel
theorem d_jdk_52_method_16_9 : decode jdk_52_method_16_code 9 = .ok (.invokestatic 115, 3) := by decide +kernel
theorem d_jdk_52_method_16_12 : decode jdk_52_method_16_code 12 = .ok (.istore 4, 2) := by decide +kernel
theorem d_jdk_52_method_16_14 : decode jdk_52_method_16_code 14 = .ok (.iload 4, 2) := by decide +kernel
theorem d_jdk_52_method_16_16 : decode jdk_52_method_16_code 16 = .ok (.iload_n 2, 1) := by decide +kernel
theorem d_jdk_52_method_16_17 : decode jdk_52_method_16_code 17 = .ok (.if_icmp .eq 40, 3) := by decide +kernel
theorem d_jdk_52_method_16_57 : decode jdk_52_method_16_code 57 = .ok (.aload_n 3, 1) := by decide +kernel
theorem d_jdk_52_method_16_58 : decode jdk_52_method_16_code 58 = .ok (.areturn, 1) := by decide +kernel
theorem d_jdk_52_method_15_0 : decode jdk_52_method_15_code 0 = .ok (.iload_n 1, 1) := by decide +kernel
theorem d_jdk_52_method_15_1 : decode jdk_52_method_15_code 1 = .ok (.aload_n 0, 1) := by decide +kernel
theorem d_jdk_52_method_15_2 : decode jdk_52_method_15_code 2 = .ok (.arraylength, 1) := by decide +kernel
theorem d_jdk_52_method_15_3 : decode jdk_52_method_15_code 3 = .ok (.isub, 1) := by decide +kernel
theorem d_jdk_52_method_15_4 : decode jdk_52_method_15_code 4 = .ok (.bipush 31, 2) := by decide +kernel
theorem d_jdk_52_method_15_6 : decode jdk_52_method_15_code 6 = .ok (.iushr, 1) := by decide +kernel
theorem d_jdk_52_method_15_7 : decode jdk_52_method_15_code 7 = .ok (.i2b, 1) := by decide +kernel
theorem d_jdk_52_method_15_8 : decode jdk_52_method_15_code 8 = .ok (.ireturn, 1) := by decide +kernel
theorem d_jdk_42_method_149_0 : decode jdk_42_method_149_code 0 = .ok (.aload_n 0, 1) := by decide +kernel
theorem d_jdk_42_method_149_1 : decode jdk_42_method_149_code 1 = .ok (.invokespecial 1, 3) := by decide +kernel
theorem d_jdk_42_method_149_4 : decode jdk_42_method_149_code 4 = .ok (.iload_n 3, 1) := by decide +kernel
theorem d_jdk_42_method_149_5 : decode jdk_42_method_149_code 5 = .ok (.ifCond .ne 22, 3) := by decide +kernel
theorem d_jdk_42_method_149_8 : decode jdk_42_method_149_code 8 = .ok (.aload_n 0, 1) := by decide +kernel
theorem d_jdk_42_method_149_9 : decode jdk_42_method_149_code 9 = .ok (.ldc 7, 2) := by decide +kernel
theorem d_jdk_42_method_149_11 : decode jdk_42_method_149_code 11 = .ok (.getfield 9, 3) := by decide +kernel
theorem d_jdk_42_method_149_14 : decode jdk_42_method_149_code 14 = .ok (.putfield 9, 3) := by decide +kernel
theorem d_jdk_42_method_149_17 : decode jdk_42_method_149_code 17 = .ok (.aload_n 0, 1) := by decide +kernel
theorem d_jdk_42_method_149_18 : decode jdk_42_method_149_code 18 = .ok (.ldc 7, 2) := by decide +kernel
theorem d_jdk_42_method_149_20 : decode jdk_42_method_149_code 20 = .ok (.getfield 15, 3) := by decide +kernel
theorem d_jdk_42_method_149_23 : decode jdk_42_method_149_code 23 = .ok (.putfield 15, 3) := by decide +kernel
theorem d_jdk_42_method_149_26 : decode jdk_42_method_149_code 26 = .ok (.return_, 1) := by decide +kernel
theorem d_jdk_42_method_149_27 : decode jdk_42_method_149_code 27 = .ok (.getstatic 38, 3) := by decide +kernel
theorem d_jdk_42_method_149_30 : decode jdk_42_method_149_code 30 = .ok (.ifCond .eq 28, 3) := by decide +kernel
theorem d_jdk_42_method_149_33 : decode jdk_42_method_149_code 33 = .ok (.aload_n 1, 1) := by decide +kernel
theorem d_jdk_42_method_149_34 : decode jdk_42_method_149_code 34 = .ok (.iload_n 2, 1) := by decide +kernel
theorem d_jdk_42_method_149_35 : decode jdk_42_method_149_code 35 = .ok (.iload_n 3, 1) := by decide +kernel
theorem d_jdk_42_method_149_36 : decode jdk_42_method_149_code 36 = .ok (.invokestatic 177, 3) := by decide +kernel
theorem d_jdk_42_method_149_39 : decode jdk_42_method_149_code 39 = .ok (.astore 5, 2) := by decide +kernel
theorem d_jdk_42_method_149_41 : decode jdk_42_method_149_code 41 = .ok (.aload_n 0, 1) := by decide +kernel
theorem d_jdk_42_method_149_42 : decode jdk_42_method_149_code 42 = .ok (.aload 5, 2) := by decide +kernel
theorem d_jdk_42_method_149_44 : decode jdk_42_method_149_code 44 = .ok (.iload_n 3, 1) := by decide +kernel
theorem d_jdk_42_method_149_45 : decode jdk_42_method_149_code 45 = .ok (.invokestatic 47, 3) := by decide +kernel
theorem d_jdk_42_method_149_48 : decode jdk_42_method_149_code 48 = .ok (.putfield 15, 3) := by decide +kernel
theorem d_jdk_42_method_149_51 : decode jdk_42_method_149_code 51 = .ok (.aload_n 0, 1) := by decide +kernel
theorem d_jdk_42_method_149_52 : decode jdk_42_method_149_code 52 = .ok (.aload 5, 2) := by decide +kernel
theorem d_jdk_42_method_149_54 : decode jdk_42_method_149_code 54 = .ok (.putfield 9, 3) := by decide +kernel
theorem d_jdk_42_method_149_57 : decode jdk_42_method_149_code 57 = .ok (.return_, 1) := by decide +kernel
theorem d_jdk_42_method_3_0 : decode jdk_42_method_3_code 0 = .ok (.aload_n 0, 1) := by decide +kernel
theorem d_jdk_42_method_3_1 : decode jdk_42_method_3_code 1 = .ok (.aload_n 1, 1) := by decide +kernel
theorem d_jdk_42_method_3_2 : decode jdk_42_method_3_code 2 = .ok (.iconst 0, 1) := by decide +kernel
theorem d_jdk_42_method_3_3 : decode jdk_42_method_3_code 3 = .ok (.aload_n 1, 1) := by decide +kernel
theorem d_jdk_42_method_3_4 : decode jdk_42_method_3_code 4 = .ok (.arraylength, 1) := by decide +kernel
theorem d_jdk_42_method_3_5 : decode jdk_42_method_3_code 5 = .ok (.aconst_null, 1) := by decide +kernel
theorem d_jdk_42_method_3_6 : decode jdk_42_method_3_code 6 = .ok (.invokespecial 27, 3) := by decide +kernel
theorem d_jdk_42_method_3_9 : decode jdk_42_method_3_code 9 = .ok (.return_, 1) := by decide +kernel
theorem d_jdk_2055_method_4_0 : decode jdk_2055_method_4_code 0 = .ok (.aload_n 0, 1) := by decide +kernel
theorem d_jdk_2055_method_4_1 : decode jdk_2055_method_4_code 1 = .ok (.getfield 7, 3) := by decide +kernel
theorem d_jdk_2055_method_4_4 : decode jdk_2055_method_4_code 4 = .ok (.ireturn, 1) := by decide +kernel
theorem d_method_2_0 : decode method_2_code 0 = .ok (.iload_n 1, 1) := by decide +kernel
theorem d_method_2_1 : decode method_2_code 1 = .ok (.ifCond .ne 14, 3) := by decide +kernel
theorem d_method_2_4 : decode method_2_code 4 = .ok (.new 7, 3) := by decide +kernel
theorem d_method_2_7 : decode method_2_code 7 = .ok (.dup, 1) := by decide +kernel
theorem d_method_2_8 : decode method_2_code 8 = .ok (.iconst 0, 1) := by decide +kernel
theorem d_method_2_9 : decode method_2_code 9 = .ok (.newarray .char, 2) := by decide +kernel
theorem d_method_2_11 : decode method_2_code 11 = .ok (.invokespecial 9, 3) := by decide +kernel
theorem d_method_2_14 : decode method_2_code 14 = .ok (.areturn, 1) := by decide +kernel
theorem d_method_2_15 : decode method_2_code 15 = .ok (.iload_n 1, 1) := by decide +kernel
theorem d_method_2_16 : decode method_2_code 16 = .ok (.iconst 1, 1) := by decide +kernel
theorem d_method_2_17 : decode method_2_code 17 = .ok (.if_icmp .ne 20, 3) := by decide +kernel
theorem d_method_2_20 : decode method_2_code 20 = .ok (.new 7, 3) := by decide +kernel
theorem d_method_2_23 : decode method_2_code 23 = .ok (.dup, 1) := by decide +kernel
theorem d_method_2_24 : decode method_2_code 24 = .ok (.iconst 1, 1) := by decide +kernel
theorem d_method_2_25 : decode method_2_code 25 = .ok (.newarray .char, 2) := by decide +kernel
theorem d_method_2_27 : decode method_2_code 27 = .ok (.dup, 1) := by decide +kernel
theorem d_method_2_28 : decode method_2_code 28 = .ok (.iconst 0, 1) := by decide +kernel
theorem d_method_2_29 : decode method_2_code 29 = .ok (.aload_n 0, 1) := by decide +kernel
theorem d_method_2_30 : decode method_2_code 30 = .ok (.iconst 0, 1) := by decide +kernel
theorem d_method_2_31 : decode method_2_code 31 = .ok (.caload, 1) := by decide +kernel
theorem d_method_2_32 : decode method_2_code 32 = .ok (.castore, 1) := by decide +kernel
theorem d_method_2_33 : decode method_2_code 33 = .ok (.invokespecial 9, 3) := by decide +kernel
theorem d_method_2_36 : decode method_2_code 36 = .ok (.areturn, 1) := by decide +kernel
theorem d_method_2_37 : decode method_2_code 37 = .ok (.iload_n 1, 1) := by decide +kernel
theorem d_method_2_38 : decode method_2_code 38 = .ok (.iconst 2, 1) := by decide +kernel
theorem d_method_2_39 : decode method_2_code 39 = .ok (.if_icmp .ne 26, 3) := by decide +kernel
theorem d_method_2_42 : decode method_2_code 42 = .ok (.new 7, 3) := by decide +kernel
theorem d_method_2_45 : decode method_2_code 45 = .ok (.dup, 1) := by decide +kernel
theorem d_method_2_46 : decode method_2_code 46 = .ok (.iconst 2, 1) := by decide +kernel
theorem d_method_2_47 : decode method_2_code 47 = .ok (.newarray .char, 2) := by decide +kernel
theorem d_method_2_49 : decode method_2_code 49 = .ok (.dup, 1) := by decide +kernel
theorem d_method_2_50 : decode method_2_code 50 = .ok (.iconst 0, 1) := by decide +kernel
theorem d_method_2_51 : decode method_2_code 51 = .ok (.aload_n 0, 1) := by decide +kernel
theorem d_method_2_52 : decode method_2_code 52 = .ok (.iconst 0, 1) := by decide +kernel
theorem d_method_2_53 : decode method_2_code 53 = .ok (.caload, 1) := by decide +kernel
theorem d_method_2_54 : decode method_2_code 54 = .ok (.castore, 1) := by decide +kernel
theorem d_method_2_55 : decode method_2_code 55 = .ok (.dup, 1) := by decide +kernel
theorem d_method_2_56 : decode method_2_code 56 = .ok (.iconst 1, 1) := by decide +kernel
theorem d_method_2_57 : decode method_2_code 57 = .ok (.aload_n 0, 1) := by decide +kernel
theorem d_method_2_58 : decode method_2_code 58 = .ok (.iconst 1, 1) := by decide +kernel
theorem d_method_2_59 : decode method_2_code 59 = .ok (.caload, 1) := by decide +kernel
theorem d_method_2_60 : decode method_2_code 60 = .ok (.castore, 1) := by decide +kernel
theorem d_method_2_61 : decode method_2_code 61 = .ok (.invokespecial 9, 3) := by decide +kernel
theorem d_method_2_64 : decode method_2_code 64 = .ok (.areturn, 1) := by decide +kernel
theorem d_method_2_65 : decode method_2_code 65 = .ok (.iload_n 1, 1) := by decide +kernel
theorem d_method_2_66 : decode method_2_code 66 = .ok (.iconst 3, 1) := by decide +kernel
theorem d_method_2_67 : decode method_2_code 67 = .ok (.if_icmp .ne 32, 3) := by decide +kernel
theorem d_method_2_70 : decode method_2_code 70 = .ok (.new 7, 3) := by decide +kernel
theorem d_method_2_73 : decode method_2_code 73 = .ok (.dup, 1) := by decide +kernel
theorem d_method_2_74 : decode method_2_code 74 = .ok (.iconst 3, 1) := by decide +kernel
theorem d_method_2_75 : decode method_2_code 75 = .ok (.newarray .char, 2) := by decide +kernel
theorem d_method_2_77 : decode method_2_code 77 = .ok (.dup, 1) := by decide +kernel
theorem d_method_2_78 : decode method_2_code 78 = .ok (.iconst 0, 1) := by decide +kernel
theorem d_method_2_79 : decode method_2_code 79 = .ok (.aload_n 0, 1) := by decide +kernel
theorem d_method_2_80 : decode method_2_code 80 = .ok (.iconst 0, 1) := by decide +kernel
theorem d_method_2_81 : decode method_2_code 81 = .ok (.caload, 1) := by decide +kernel
theorem d_method_2_82 : decode method_2_code 82 = .ok (.castore, 1) := by decide +kernel
theorem d_method_2_83 : decode method_2_code 83 = .ok (.dup, 1) := by decide +kernel
theorem d_method_2_84 : decode method_2_code 84 = .ok (.iconst 1, 1) := by decide +kernel
theorem d_method_2_85 : decode method_2_code 85 = .ok (.aload_n 0, 1) := by decide +kernel
theorem d_method_2_86 : decode method_2_code 86 = .ok (.iconst 1, 1) := by decide +kernel
theorem d_method_2_87 : decode method_2_code 87 = .ok (.caload, 1) := by decide +kernel
theorem d_method_2_88 : decode method_2_code 88 = .ok (.castore, 1) := by decide +kernel
theorem d_method_2_89 : decode method_2_code 89 = .ok (.dup, 1) := by decide +kernel
theorem d_method_2_90 : decode method_2_code 90 = .ok (.iconst 2, 1) := by decide +kernel
theorem d_method_2_91 : decode method_2_code 91 = .ok (.aload_n 0, 1) := by decide +kernel
theorem d_method_2_92 : decode method_2_code 92 = .ok (.iconst 2, 1) := by decide +kernel
theorem d_method_2_93 : decode method_2_code 93 = .ok (.caload, 1) := by decide +kernel
theorem d_method_2_94 : decode method_2_code 94 = .ok (.castore, 1) := by decide +kernel
theorem d_method_2_95 : decode method_2_code 95 = .ok (.invokespecial 9, 3) := by decide +kernel
theorem d_method_2_98 : decode method_2_code 98 = .ok (.areturn, 1) := by decide +kernel
theorem d_method_2_99 : decode method_2_code 99 = .ok (.iload_n 1, 1) := by decide +kernel
theorem d_method_2_100 : decode method_2_code 100 = .ok (.iconst 4, 1) := by decide +kernel
theorem d_method_2_101 : decode method_2_code 101 = .ok (.if_icmp .ne 38, 3) := by decide +kernel
theorem d_method_2_104 : decode method_2_code 104 = .ok (.new 7, 3) := by decide +kernel
theorem d_method_2_107 : decode method_2_code 107 = .ok (.dup, 1) := by decide +kernel
theorem d_method_2_108 : decode method_2_code 108 = .ok (.iconst 4, 1) := by decide +kernel
theorem d_method_2_109 : decode method_2_code 109 = .ok (.newarray .char, 2) := by decide +kernel
theorem d_method_2_111 : decode method_2_code 111 = .ok (.dup, 1) := by decide +kernel
theorem d_method_2_112 : decode method_2_code 112 = .ok (.iconst 0, 1) := by decide +kernel
theorem d_method_2_113 : decode method_2_code 113 = .ok (.aload_n 0, 1) := by decide +kernel
theorem d_method_2_114 : decode method_2_code 114 = .ok (.iconst 0, 1) := by decide +kernel
theorem d_method_2_115 : decode method_2_code 115 = .ok (.caload, 1) := by decide +kernel
theorem d_method_2_116 : decode method_2_code 116 = .ok (.castore, 1) := by decide +kernel
theorem d_method_2_117 : decode method_2_code 117 = .ok (.dup, 1) := by decide +kernel
theorem d_method_2_118 : decode method_2_code 118 = .ok (.iconst 1, 1) := by decide +kernel
theorem d_method_2_119 : decode method_2_code 119 = .ok (.aload_n 0, 1) := by decide +kernel
theorem d_method_2_120 : decode method_2_code 120 = .ok (.iconst 1, 1) := by decide +kernel
theorem d_method_2_121 : decode method_2_code 121 = .ok (.caload, 1) := by decide +kernel
theorem d_method_2_122 : decode method_2_code 122 = .ok (.castore, 1) := by decide +kernel
theorem d_method_2_123 : decode method_2_code 123 = .ok (.dup, 1) := by decide +kernel
theorem d_method_2_124 : decode method_2_code 124 = .ok (.iconst 2, 1) := by decide +kernel
theorem d_method_2_125 : decode method_2_code 125 = .ok (.aload_n 0, 1) := by decide +kernel
theorem d_method_2_126 : decode method_2_code 126 = .ok (.iconst 2, 1) := by decide +kernel
theorem d_method_2_127 : decode method_2_code 127 = .ok (.caload, 1) := by decide +kernel
theorem d_method_2_128 : decode method_2_code 128 = .ok (.castore, 1) := by decide +kernel
theorem d_method_2_129 : decode method_2_code 129 = .ok (.dup, 1) := by decide +kernel
theorem d_method_2_130 : decode method_2_code 130 = .ok (.iconst 3, 1) := by decide +kernel
theorem d_method_2_131 : decode method_2_code 131 = .ok (.aload_n 0, 1) := by decide +kernel
theorem d_method_2_132 : decode method_2_code 132 = .ok (.iconst 3, 1) := by decide +kernel
theorem d_method_2_133 : decode method_2_code 133 = .ok (.caload, 1) := by decide +kernel
theorem d_method_2_134 : decode method_2_code 134 = .ok (.castore, 1) := by decide +kernel
theorem d_method_2_135 : decode method_2_code 135 = .ok (.invokespecial 9, 3) := by decide +kernel
theorem d_method_2_138 : decode method_2_code 138 = .ok (.areturn, 1) := by decide +kernel
theorem d_method_2_139 : decode method_2_code 139 = .ok (.new 7, 3) := by decide +kernel
theorem d_method_2_142 : decode method_2_code 142 = .ok (.dup, 1) := by decide +kernel
theorem d_method_2_143 : decode method_2_code 143 = .ok (.iconst 5, 1) := by decide +kernel
theorem d_method_2_144 : decode method_2_code 144 = .ok (.newarray .char, 2) := by decide +kernel
theorem d_method_2_146 : decode method_2_code 146 = .ok (.dup, 1) := by decide +kernel
theorem d_method_2_147 : decode method_2_code 147 = .ok (.iconst 0, 1) := by decide +kernel
theorem d_method_2_148 : decode method_2_code 148 = .ok (.aload_n 0, 1) := by decide +kernel
theorem d_method_2_149 : decode method_2_code 149 = .ok (.iconst 0, 1) := by decide +kernel
theorem d_method_2_150 : decode method_2_code 150 = .ok (.caload, 1) := by decide +kernel
theorem d_method_2_151 : decode method_2_code 151 = .ok (.castore, 1) := by decide +kernel
theorem d_method_2_152 : decode method_2_code 152 = .ok (.dup, 1) := by decide +kernel
theorem d_method_2_153 : decode method_2_code 153 = .ok (.iconst 1, 1) := by decide +kernel
theorem d_method_2_154 : decode method_2_code 154 = .ok (.aload_n 0, 1) := by decide +kernel
theorem d_method_2_155 : decode method_2_code 155 = .ok (.iconst 1, 1) := by decide +kernel
theorem d_method_2_156 : decode method_2_code 156 = .ok (.caload, 1) := by decide +kernel
theorem d_method_2_157 : decode method_2_code 157 = .ok (.castore, 1) := by decide +kernel
theorem d_method_2_158 : decode method_2_code 158 = .ok (.dup, 1) := by decide +kernel
theorem d_method_2_159 : decode method_2_code 159 = .ok (.iconst 2, 1) := by decide +kernel
theorem d_method_2_160 : decode method_2_code 160 = .ok (.aload_n 0, 1) := by decide +kernel
theorem d_method_2_161 : decode method_2_code 161 = .ok (.iconst 2, 1) := by decide +kernel
theorem d_method_2_162 : decode method_2_code 162 = .ok (.caload, 1) := by decide +kernel
theorem d_method_2_163 : decode method_2_code 163 = .ok (.castore, 1) := by decide +kernel
theorem d_method_2_164 : decode method_2_code 164 = .ok (.dup, 1) := by decide +kernel
theorem d_method_2_165 : decode method_2_code 165 = .ok (.iconst 3, 1) := by decide +kernel
theorem d_method_2_166 : decode method_2_code 166 = .ok (.aload_n 0, 1) := by decide +kernel
theorem d_method_2_167 : decode method_2_code 167 = .ok (.iconst 3, 1) := by decide +kernel
theorem d_method_2_168 : decode method_2_code 168 = .ok (.caload, 1) := by decide +kernel
theorem d_method_2_169 : decode method_2_code 169 = .ok (.castore, 1) := by decide +kernel
theorem d_method_2_170 : decode method_2_code 170 = .ok (.dup, 1) := by decide +kernel
theorem d_method_2_171 : decode method_2_code 171 = .ok (.iconst 4, 1) := by decide +kernel
theorem d_method_2_172 : decode method_2_code 172 = .ok (.aload_n 0, 1) := by decide +kernel
theorem d_method_2_173 : decode method_2_code 173 = .ok (.iconst 4, 1) := by decide +kernel
theorem d_method_2_174 : decode method_2_code 174 = .ok (.caload, 1) := by decide +kernel
theorem d_method_2_175 : decode method_2_code 175 = .ok (.castore, 1) := by decide +kernel
theorem d_method_2_176 : decode method_2_code 176 = .ok (.invokespecial 9, 3) := by decide +kernel
theorem d_method_2_179 : decode method_2_code 179 = .ok (.areturn, 1) := by decide +kernel
theorem d_prog_90_method_7_0 : decode prog_90_method_7_code 0 = .ok (.ldc 50, 2) := by decide +kernel
theorem d_prog_90_method_7_2 : decode prog_90_method_7_code 2 = .ok (.aload_n 0, 1) := by decide +kernel
theorem d_prog_90_method_7_3 : decode prog_90_method_7_code 3 = .ok (.invokevirtual 52, 3) := by decide +kernel
theorem d_prog_90_method_7_6 : decode prog_90_method_7_code 6 = .ok (.ifCond .ne 12, 3) := by decide +kernel
theorem d_prog_90_method_7_18 : decode prog_90_method_7_code 18 = .ok (.getstatic 57, 3) := by decide +kernel
theorem d_prog_90_method_7_21 : decode prog_90_method_7_code 21 = .ok (.astore_n 1, 1) := by decide +kernel
theorem d_prog_90_method_7_22 : decode prog_90_method_7_code 22 = .ok (.goto 30, 3) := by decide +kernel
theorem d_prog_90_method_7_52 : decode prog_90_method_7_code 52 = .ok (.aload_n 1, 1) := by decide +kernel
theorem d_prog_90_method_7_53 : decode prog_90_method_7_code 53 = .ok (.areturn, 1) := by decide +kernel
theorem d_prog_90_method_7_9 : decode prog_90_method_7_code 9 = .ok (.ldc 55, 2) := by decide +kernel
theorem d_prog_90_method_7_11 : decode prog_90_method_7_code 11 = .ok (.aload_n 0, 1) := by decide +kernel
theorem d_prog_90_method_7_12 : decode prog_90_method_7_code 12 = .ok (.invokevirtual 52, 3) := by decide +kernel
theorem d_prog_90_method_7_15 : decode prog_90_method_7_code 15 = .ok (.ifCond .eq 10, 3) := by decide +kernel
theorem d_prog_90_method_7_25 : decode prog_90_method_7_code 25 = .ok (.ldc 63, 2) := by decide +kernel
theorem d_prog_90_method_7_27 : decode prog_90_method_7_code 27 = .ok (.aload_n 0, 1) := by decide +kernel
theorem d_prog_90_method_7_28 : decode prog_90_method_7_code 28 = .ok (.invokevirtual 52, 3) := by decide +kernel
theorem d_prog_90_method_7_31 : decode prog_90_method_7_code 31 = .ok (.ifCond .ne 12, 3) := by decide +kernel
theorem d_prog_90_method_7_43 : decode prog_90_method_7_code 43 = .ok (.getstatic 67, 3) := by decide +kernel
theorem d_prog_90_method_7_46 : decode prog_90_method_7_code 46 = .ok (.astore_n 1, 1) := by decide +kernel
theorem d_prog_90_method_7_47 : decode prog_90_method_7_code 47 = .ok (.goto 5, 3) := by decide +kernel
theorem d_prog_90_method_7_34 : decode prog_90_method_7_code 34 = .ok (.ldc 65, 2) := by decide +kernel
theorem d_prog_90_method_7_36 : decode prog_90_method_7_code 36 = .ok (.aload_n 0, 1) := by decide +kernel
theorem d_prog_90_method_7_37 : decode prog_90_method_7_code 37 = .ok (.invokevirtual 52, 3) := by decide +kernel
theorem d_prog_90_method_7_40 : decode prog_90_method_7_code 40 = .ok (.ifCond .eq 10, 3) := by decide +kernel
theorem d_prog_90_method_7_50 : decode prog_90_method_7_code 50 = .ok (.aconst_null, 1) := by decide +kernel
theorem d_prog_90_method_7_51 : decode prog_90_method_7_code 51 = .ok (.astore_n 1, 1) := by decide +kernel
theorem pd_0 : parseMethodDescriptor "()B" = some ⟨[], some .byte⟩ := by decide +kernel
theorem pd_1 : parseMethodDescriptor "(IILjava/util/function/BiFunction;)I" = some ⟨[.int, .int, (.object "java/util/function/BiFunction")], some .int⟩ := by decide +kernel
theorem pd_2 : parseMethodDescriptor "(II)V" = some ⟨[.int, .int], none⟩ := by decide +kernel
theorem pd_3 : parseMethodDescriptor "()Z" = some ⟨[], some .boolean⟩ := by decide +kernel
theorem pd_4 : parseMethodDescriptor "([BI)C" = some ⟨[(.array .byte), .int], some .char⟩ := by decide +kernel
theorem pd_5 : parseMethodDescriptor "([B[B)Z" = some ⟨[(.array .byte), (.array .byte)], some .boolean⟩ := by decide +kernel
theorem pd_6 : parseMethodDescriptor "([CI[BII)I" = some ⟨[(.array .char), .int, (.array .byte), .int, .int], some .int⟩ := by decide +kernel
theorem pd_7 : parseMethodDescriptor "([CII)[B" = some ⟨[(.array .char), .int, .int], some (.array .byte)⟩ := by decide +kernel
theorem pd_8 : parseMethodDescriptor "([BI)B" = some ⟨[(.array .byte), .int], some .byte⟩ := by decide +kernel
theorem pd_9 : parseMethodDescriptor "([CIILjava/lang/Void;)V" = some ⟨[(.array .char), .int, .int, (.object "java/lang/Void")], none⟩ := by decide +kernel
theorem pd_10 : parseMethodDescriptor "([C)V" = some ⟨[(.array .char)], none⟩ := by decide +kernel
theorem pd_11 : parseMethodDescriptor "(Ljava/lang/Object;)Z" = some ⟨[(.object "java/lang/Object")], some .boolean⟩ := by decide +kernel
theorem pd_12 : parseMethodDescriptor "(Ljava/lang/String;)Ljava/lang/Boolean;" = some ⟨[(.object "java/lang/String")], some (.object "java/lang/Boolean")⟩ := by decide +kernel
theorem pd_13 : parseMethodDescriptor "([CI)Ljava/lang/String;" = some ⟨[(.array .char), .int], some (.object "java/lang/String")⟩ := by decide +kernel
theorem pd_14 : parseMethodDescriptor "()I" = some ⟨[], some .int⟩ := by decide +kernel
theorem pd_15 : parseMethodDescriptor "(I)C" = some ⟨[.int], some .char⟩ := by decide +kernel
theorem five {xs : List Int32} (h : xs.length = 5) : ∃ x0 x1 x2 x3 x4, xs = [x0, x1, x2, x3, x4] := by
  match xs, h with
  | [a, b, c, d, e], _ => exact ⟨a, b, c, d, e, rfl⟩
theorem take_t {x0 x1 x2 x3 x4 : Int32} {ln : Nat} (hl : ln ≤ 5) (h : ([x0, x1, x2, x3, x4] : List Int32).take ln = [116, 114, 117, 101]) : ln = 4 ∧ x0 = 116 ∧ x1 = 114 ∧ x2 = 117 ∧ x3 = 101 := by
  obtain rfl | rfl | rfl | rfl | rfl | rfl : ln = 0 ∨ ln = 1 ∨ ln = 2 ∨ ln = 3 ∨ ln = 4 ∨ ln = 5 := by omega
  all_goals simp at h
  simpa using h
theorem take_y {x0 x1 x2 x3 x4 : Int32} {ln : Nat} (hl : ln ≤ 5) (h : ([x0, x1, x2, x3, x4] : List Int32).take ln = [121, 101, 115]) : ln = 3 ∧ x0 = 121 ∧ x1 = 101 ∧ x2 = 115 := by
  obtain rfl | rfl | rfl | rfl | rfl | rfl : ln = 0 ∨ ln = 1 ∨ ln = 2 ∨ ln = 3 ∨ ln = 4 ∨ ln = 5 := by omega
  all_goals simp at h
  simpa using h
theorem take_f {x0 x1 x2 x3 x4 : Int32} {ln : Nat} (hl : ln ≤ 5) (h : ([x0, x1, x2, x3, x4] : List Int32).take ln = [102, 97, 108, 115, 101]) : ln = 5 ∧ x0 = 102 ∧ x1 = 97 ∧ x2 = 108 ∧ x3 = 115 ∧ x4 = 101 := by
  obtain rfl | rfl | rfl | rfl | rfl | rfl : ln = 0 ∨ ln = 1 ∨ ln = 2 ∨ ln = 3 ∨ ln = 4 ∨ ln = 5 := by omega
  all_goals simp at h
  simpa using h
theorem take_n {x0 x1 x2 x3 x4 : Int32} {ln : Nat} (hl : ln ≤ 5) (h : ([x0, x1, x2, x3, x4] : List Int32).take ln = [110, 111]) : ln = 2 ∧ x0 = 110 ∧ x1 = 111 := by
  obtain rfl | rfl | rfl | rfl | rfl | rfl : ln = 0 ∨ ln = 1 ∨ ln = 2 ∨ ln = 3 ∨ ln = 4 ∨ ln = 5 := by omega
  all_goals simp at h
  simpa using h
theorem ln_eq {ln m : Nat} (hl : ln ≤ 5) (hm : m ≤ 5) (h : ln.toInt32 = m.toInt32) : ln = m := (i32_inj (by omega) (by omega)).mp h
set_option maxRecDepth 65536 in
set_option maxHeartbeats 4000000 in
theorem k_coder (l : Launch) (Z : State) (a0 : Array Value) (hE : Ev Z a0) (a : Addr) (cd : Int32) (h : Heap) (F : Fld Z h a ST "coder" "B" (.int cd)) (hc : b8 cd = cd) : Con l Z false (⟨"java/lang/String", "coder", "()B"⟩ : MethodName) jdk_42_method_152_code 1 (some .byte) ({ frames := 0, cells := 0, slots := 0, locals := 0 } : Room) [(.ref a)] h [] false (fun M v h' => v = some (.int cd) ∧ h' = h) := by
  have hw := hE.1
  refine Con.intro (L0 := #[.val (.ref a)]) (by decide +kernel) (fun m => ef_of rfl) ?_
  intro B M hwsM ok
  obtain ⟨g, hg, Fg⟩ := hE.compact
  refine W.getS ok (pc' := 3) (w34 hw) Via.refl Fg d_jdk_42_method_152_0 rfl ?_
  refine W.ifeq ok (pcY := 13) (pcN := 6) d_jdk_42_method_152_3 rfl (by decide) rfl (fun q => absurd q hg) (fun _ => ?_)
  refine W.aloadN ok (pc' := 7) d_jdk_42_method_152_6 rfl rfl rfl ?_
  refine W.getF ok (pc' := 10) (w35 hw) Via.refl F d_jdk_42_method_152_7 rfl ?_
  refine W.goto ok (pc' := 14) d_jdk_42_method_152_10 (by decide) rfl ?_
  exact W.retB ok d_jdk_42_method_152_14 hc (Nat.le_of_ble_eq_true rfl) (Nat.le_of_ble_eq_true rfl) (fun x (q : x ∈ M) => q) (fun kp => ⟨rfl, rfl⟩)
set_option maxRecDepth 65536 in
set_option maxHeartbeats 4000000 in
theorem k_length (l : Launch) (Z : State) (a0 : Array Value) (hE : Ev Z a0) (a : Addr) (cs : List Int32) (h : Heap) (S : Str Z h a cs) (hl : cs.length < 1000000) : Con l Z false (⟨"java/lang/String", "length", "()I"⟩ : MethodName) jdk_42_method_54_code 1 (some .int) ({ frames := 1, cells := 0, slots := 0, locals := 13 } : Room) [(.ref a)] h [] false (fun M v h' => v = some (.int cs.length.toInt32) ∧ h' = h) := by
  have hw := hE.1
  refine Con.intro (L0 := #[.val (.ref a)]) (by decide +kernel) (fun m => ef_of rfl) ?_
  intro B M hwsM ok
  obtain ⟨t, cd, bs, X, F1, F2, A, hc⟩ := S
  refine W.aloadN ok (pc' := 1) d_jdk_42_method_54_0 rfl rfl rfl ?_
  refine W.getF ok (pc' := 4) (w28 hw) Via.refl F1 d_jdk_42_method_54_1 rfl ?_
  refine W.lenI ok (pc' := 5) A bs.length.toInt32 rfl d_jdk_42_method_54_4 rfl ?_
  refine W.aloadN ok (pc' := 6) d_jdk_42_method_54_5 rfl rfl rfl ?_
  refine W.callV ok (rest := [(.int bs.length.toInt32)]) (cl' := (true, [])) (pc' := 9) (w29 hw) (w30 hw) (w32 hw) (w31 hw) (w7 hw) (w33 hw) (by decide) X pd_0 rfl (k_coder l Z a0 hE a cd h F2 hc.cd01) (fun _ q => (nomatch q)) (fun q => ⟨q, fun _ q => (nomatch q)⟩) rfl rfl (Nat.le_of_ble_eq_true rfl) (Nat.le_of_ble_eq_true rfl) (Nat.le_of_ble_eq_true rfl) (Nat.le_of_ble_eq_true rfl) d_jdk_42_method_54_6 rfl rfl (pureK ?_)
  show W B h 0 0 M (true, []) 9 #[.val (.ref a)] [(.int cd), (.int bs.length.toInt32)]
  refine W.ishr ok (pc' := 10) d_jdk_42_method_54_9 rfl ?_
  exact W.retI ok d_jdk_42_method_54_10 (Nat.le_of_ble_eq_true rfl) (Nat.le_of_ble_eq_true rfl) (fun x (q : x ∈ M) => q) (fun kp => ⟨by rw [hc.len hl], rfl⟩)
set_option maxRecDepth 65536 in
set_option maxHeartbeats 4000000 in
theorem k_isLatL (l : Launch) (Z : State) (a0 : Array Value) (hE : Ev Z a0) (a : Addr) (h : Heap) (F : Fld Z h a ST "coder" "B" (.int 0)) : Con l Z false (⟨"java/lang/String", "isLatin1", "()Z"⟩ : MethodName) jdk_42_method_154_code 1 (some .boolean) ({ frames := 0, cells := 0, slots := 0, locals := 0 } : Room) [(.ref a)] h [] false (fun M v h' => v = some (.int 1) ∧ h' = h) := by
  have hw := hE.1
  refine Con.intro (L0 := #[.val (.ref a)]) (by decide +kernel) (fun m => ef_of rfl) ?_
  intro B M hwsM ok
  obtain ⟨g, hg, Fg⟩ := hE.compact
  refine W.getS ok (pc' := 3) (w34 hw) Via.refl Fg d_jdk_42_method_154_0 rfl ?_
  refine W.ifeq ok (pcY := 17) (pcN := 6) d_jdk_42_method_154_3 rfl (by decide) rfl (fun q => absurd q hg) (fun _ => ?_)
  refine W.aloadN ok (pc' := 7) d_jdk_42_method_154_6 rfl rfl rfl ?_
  refine W.getF ok (pc' := 10) (w35 hw) Via.refl F d_jdk_42_method_154_7 rfl ?_
  refine W.ifne ok (pcY := 17) (pcN := 13) d_jdk_42_method_154_10 rfl (by decide) rfl (fun _ => ?_) (fun q => absurd rfl q)
  refine W.iconst ok (pc' := 14) (1 : Int32) d_jdk_42_method_154_13 rfl rfl ?_
  refine W.goto ok (pc' := 18) d_jdk_42_method_154_14 (by decide) rfl ?_
  exact W.retZ ok d_jdk_42_method_154_18 rfl (Nat.le_of_ble_eq_true rfl) (Nat.le_of_ble_eq_true rfl) (fun x (q : x ∈ M) => q) (fun kp => ⟨rfl, rfl⟩)
set_option maxRecDepth 65536 in
set_option maxHeartbeats 4000000 in
theorem k_isLatW (l : Launch) (Z : State) (a0 : Array Value) (hE : Ev Z a0) (a : Addr) (h : Heap) (F : Fld Z h a ST "coder" "B" (.int 1)) : Con l Z false (⟨"java/lang/String", "isLatin1", "()Z"⟩ : MethodName) jdk_42_method_154_code 1 (some .boolean) ({ frames := 0, cells := 0, slots := 0, locals := 0 } : Room) [(.ref a)] h [] false (fun M v h' => v = some (.int 0) ∧ h' = h) := by
  have hw := hE.1
  refine Con.intro (L0 := #[.val (.ref a)]) (by decide +kernel) (fun m => ef_of rfl) ?_
  intro B M hwsM ok
  obtain ⟨g, hg, Fg⟩ := hE.compact
  refine W.getS ok (pc' := 3) (w34 hw) Via.refl Fg d_jdk_42_method_154_0 rfl ?_
  refine W.ifeq ok (pcY := 17) (pcN := 6) d_jdk_42_method_154_3 rfl (by decide) rfl (fun q => absurd q hg) (fun _ => ?_)
  refine W.aloadN ok (pc' := 7) d_jdk_42_method_154_6 rfl rfl rfl ?_
  refine W.getF ok (pc' := 10) (w35 hw) Via.refl F d_jdk_42_method_154_7 rfl ?_
  refine W.ifne ok (pcY := 17) (pcN := 13) d_jdk_42_method_154_10 rfl (by decide) rfl (fun q => absurd q (by decide)) (fun _ => ?_)
  refine W.iconst ok (pc' := 18) (0 : Int32) d_jdk_42_method_154_17 rfl rfl ?_
  exact W.retZ ok d_jdk_42_method_154_18 rfl (Nat.le_of_ble_eq_true rfl) (Nat.le_of_ble_eq_true rfl) (fun x (q : x ∈ M) => q) (fun kp => ⟨rfl, rfl⟩)
set_option maxRecDepth 65536 in
set_option maxHeartbeats 4000000 in
theorem k_pCheck (l : Launch) (Z : State) (a0 : Array Value) (hE : Ev Z a0) (i n : Int32) (g : Value) (h : Heap) (hg : g.isRef = true) (h1 : ¬ i < 0) (h2 : i < n) : Con l Z false (⟨"jdk/internal/util/Preconditions", "checkIndex", "(IILjava/util/function/BiFunction;)I"⟩ : MethodName) jdk_41_method_11_code 3 (some .int) ({ frames := 0, cells := 0, slots := 0, locals := 0 } : Room) [(.int i), (.int n), g] h [] false (fun M v h' => v = some (.int i) ∧ h' = h) := by
  have hw := hE.1
  refine Con.intro (L0 := #[.val (.int i), .val (.int n), .val g]) (by decide +kernel) (fun m => ef_of (by rcases XT.refc hg with rfl | ⟨r, rfl⟩ <;> rfl)) ?_
  intro B M hwsM ok
  refine W.iloadN ok (pc' := 1) d_jdk_41_method_11_0 rfl rfl ?_
  refine W.iflt ok (pcY := 9) (pcN := 4) d_jdk_41_method_11_1 rfl (by decide) rfl (fun q => absurd q h1) (fun _ => ?_)
  refine W.iloadN ok (pc' := 5) d_jdk_41_method_11_4 rfl rfl ?_
  refine W.iloadN ok (pc' := 6) d_jdk_41_method_11_5 rfl rfl ?_
  refine W.icmplt ok (pcY := 16) (pcN := 9) d_jdk_41_method_11_6 rfl (by decide) rfl (fun _ => ?_) (fun q => absurd h2 q)
  refine W.iloadN ok (pc' := 17) d_jdk_41_method_11_16 rfl rfl ?_
  exact W.retI ok d_jdk_41_method_11_17 (Nat.le_of_ble_eq_true rfl) (Nat.le_of_ble_eq_true rfl) (fun x (q : x ∈ M) => q) (fun kp => ⟨rfl, rfl⟩)
set_option maxRecDepth 65536 in
set_option maxHeartbeats 4000000 in
theorem k_sCheck (l : Launch) (Z : State) (a0 : Array Value) (hE : Ev Z a0) (i n : Int32) (h : Heap) (h1 : ¬ i < 0) (h2 : i < n) : Con l Z false (⟨"java/lang/String", "checkIndex", "(II)V"⟩ : MethodName) jdk_42_method_155_code 2 none ({ frames := 1, cells := 0, slots := 0, locals := 14 } : Room) [(.int i), (.int n)] h [] false (fun M v h' => v = none ∧ h' = h) := by
  have hw := hE.1
  refine Con.intro (L0 := #[.val (.int i), .val (.int n)]) (by decide +kernel) (fun m => ef_of rfl) ?_
  intro B M hwsM ok
  obtain ⟨g, hg, Fg⟩ := hE.fmt
  refine W.iloadN ok (pc' := 1) d_jdk_42_method_155_0 rfl rfl ?_
  refine W.iloadN ok (pc' := 2) d_jdk_42_method_155_1 rfl rfl ?_
  refine W.getS ok (pc' := 5) (w53 hw) Via.refl Fg d_jdk_42_method_155_2 rfl ?_
  refine W.callS ok (rest := []) (cl' := (true, [])) (pc' := 8) (w55 hw) (w56 hw) (w54 hw) (w57 hw) (by decide) pd_1 rfl (k_pCheck l Z a0 hE i n g h hg h1 h2) (fun _ q => (nomatch q)) (fun q => ⟨q, fun _ q => (nomatch q)⟩) rfl rfl (Nat.le_of_ble_eq_true rfl) (Nat.le_of_ble_eq_true rfl) (Nat.le_of_ble_eq_true rfl) (Nat.le_of_ble_eq_true rfl) d_jdk_42_method_155_5 rfl rfl (pureK ?_)
  show W B h 0 0 M (true, []) 8 #[.val (.int i), .val (.int n)] [(.int i)]
  refine W.pop1 ok (pc' := 9) d_jdk_42_method_155_8 rfl rfl ?_
  exact W.retV ok d_jdk_42_method_155_9 (Nat.le_of_ble_eq_true rfl) (Nat.le_of_ble_eq_true rfl) (fun x (q : x ∈ M) => q) (fun kp => ⟨rfl, rfl⟩)
set_option maxRecDepth 65536 in
set_option maxHeartbeats 4000000 in
theorem k_chL (l : Launch) (Z : State) (a0 : Array Value) (hE : Ev Z a0) (t : Addr) (bs : List Int32) (iN : Nat) (u : Int32) (h : Heap) (A : ArI Z h t .byte bs) (hi : bs[iN]? = some u) (hl : bs.length < 2000000) : Con l Z false (⟨"java/lang/StringLatin1", "charAt", "([BI)C"⟩ : MethodName) jdk_43_method_2_code 2 (some .char) ({ frames := 2, cells := 0, slots := 0, locals := 27 } : Room) [(.ref t), (.int iN.toInt32)] h [] false (fun M v h' => v = some (.int (c16 (u &&& 255))) ∧ h' = h) := by
  have hw := hE.1
  refine Con.intro (L0 := #[.val (.ref t), .val (.int iN.toInt32)]) (by decide +kernel) (fun m => ef_of rfl) ?_
  intro B M hwsM ok
  have li := lt_of_at hi
  have m0 : ¬ iN.toInt32 < 0 := by rw [neg_iff, i32_len (by omega)]; omega
  have ni : (iN.toInt32).toNatClampNeg = iN := nat_i32 (by omega)
  have m1 : iN.toInt32 < bs.length.toInt32 := by rw [Int32.lt_iff_toInt_lt, i32_len (by omega), i32_len (by omega)]; omega
  refine W.iloadN ok (pc' := 1) d_jdk_43_method_2_0 rfl rfl ?_
  refine W.aloadN ok (pc' := 2) d_jdk_43_method_2_1 rfl rfl rfl ?_
  refine W.lenI ok (pc' := 3) A bs.length.toInt32 rfl d_jdk_43_method_2_2 rfl ?_
  refine W.callS ok (rest := []) (cl' := (true, [])) (pc' := 6) (w50 hw) (w51 hw) (w7 hw) (w52 hw) (by decide) pd_2 rfl (k_sCheck l Z a0 hE (iN.toInt32) (bs.length.toInt32) h m0 m1) (fun _ q => (nomatch q)) (fun q => ⟨q, fun _ q => (nomatch q)⟩) rfl rfl (Nat.le_of_ble_eq_true rfl) (Nat.le_of_ble_eq_true rfl) (Nat.le_of_ble_eq_true rfl) (Nat.le_of_ble_eq_true rfl) d_jdk_43_method_2_3 rfl rfl (pureK0 ?_)
  show W B h 0 0 M (true, []) 6 #[.val (.ref t), .val (.int iN.toInt32)] []
  refine W.aloadN ok (pc' := 7) d_jdk_43_method_2_6 rfl rfl rfl ?_
  refine W.iloadN ok (pc' := 8) d_jdk_43_method_2_7 rfl rfl ?_
  refine W.baload ok (pc' := 9) A u m0 (by rw [ni]; exact hi) d_jdk_43_method_2_8 rfl ?_
  refine W.sipush ok (pc' := 12) (255 : Int32) d_jdk_43_method_2_9 rfl rfl ?_
  refine W.iand ok (pc' := 13) d_jdk_43_method_2_12 rfl ?_
  refine W.i2c ok (pc' := 14) d_jdk_43_method_2_13 rfl ?_
  exact W.retC ok d_jdk_43_method_2_14 (c16_c16 _) (Nat.le_of_ble_eq_true rfl) (Nat.le_of_ble_eq_true rfl) (fun x (q : x ∈ M) => q) (fun kp => ⟨rfl, rfl⟩)
set_option maxRecDepth 65536 in
set_option maxHeartbeats 4000000 in
theorem k_charAt (l : Launch) (Z : State) (a0 : Array Value) (hE : Ev Z a0) (a : Addr) (cs : List Int32) (iN : Nat) (c : Int32) (h : Heap) (S : Str Z h a cs) (hi : cs[iN]? = some c) (hl : cs.length < 1000000) (hlat : ∀ x ∈ cs, x.toInt ≤ 255) : Con l Z false (⟨"java/lang/String", "charAt", "(I)C"⟩ : MethodName) jdk_42_method_56_code 2 (some .char) ({ frames := 3, cells := 0, slots := 0, locals := 40 } : Room) [(.ref a), (.int iN.toInt32)] h [] false (fun M v h' => v = some (.int c) ∧ h' = h) := by
  have hw := hE.1
  refine Con.intro (L0 := #[.val (.ref a), .val (.int iN.toInt32)]) (by decide +kernel) (fun m => ef_of rfl) ?_
  intro B M hwsM ok
  obtain ⟨t, cd, bs, X, F1, F2, A, hc⟩ := S
  have hr := hc.rng c (mem_of_at hi)
  have li := lt_of_at hi
  rcases hc with ⟨rfl, rfl, hc⟩ | ⟨rfl, rfl, hc, hx⟩
  · refine W.aloadN ok (pc' := 1) d_jdk_42_method_56_0 rfl rfl rfl ?_
    refine W.callV ok (rest := []) (cl' := (true, [])) (pc' := 4) (w41 hw) (w42 hw) (w44 hw) (w43 hw) (w7 hw) (w45 hw) (by decide) X pd_3 rfl (k_isLatL l Z a0 hE a h F2) (fun _ q => (nomatch q)) (fun q => ⟨q, fun _ q => (nomatch q)⟩) rfl rfl (Nat.le_of_ble_eq_true rfl) (Nat.le_of_ble_eq_true rfl) (Nat.le_of_ble_eq_true rfl) (Nat.le_of_ble_eq_true rfl) d_jdk_42_method_56_1 rfl rfl (pureK ?_)
    show W B h 0 0 M (true, []) 4 #[.val (.ref a), .val (.int iN.toInt32)] [(.int 1)]
    refine W.ifeq ok (pcY := 16) (pcN := 7) d_jdk_42_method_56_4 rfl (by decide) rfl (fun q => absurd q (by decide)) (fun _ => ?_)
    refine W.aloadN ok (pc' := 8) d_jdk_42_method_56_7 rfl rfl rfl ?_
    refine W.getF ok (pc' := 11) (w28 hw) Via.refl F1 d_jdk_42_method_56_8 rfl ?_
    refine W.iloadN ok (pc' := 12) d_jdk_42_method_56_11 rfl rfl ?_
    have e1 : c16 (b8 c &&& 255) = c := by rw [b8_and (hc c (mem_of_at hi)), c16_of hr]
    refine W.callS ok (rest := []) (cl' := (true, [])) (pc' := 15) (w46 hw) (w47 hw) (w48 hw) (w49 hw) (by decide) pd_4 rfl (k_chL l Z a0 hE t (cs.map b8) iN (b8 c) h A (by simp [hi]) (by rw [List.length_map]; omega)) (fun _ q => (nomatch q)) (fun q => ⟨q, fun _ q => (nomatch q)⟩) rfl rfl (Nat.le_of_ble_eq_true rfl) (Nat.le_of_ble_eq_true rfl) (Nat.le_of_ble_eq_true rfl) (Nat.le_of_ble_eq_true rfl) d_jdk_42_method_56_12 rfl rfl (pureK ?_)
    show W B h 0 0 M (true, []) 15 #[.val (.ref a), .val (.int iN.toInt32)] [(.int (c16 (b8 c &&& 255)))]
    rw [e1]
    exact W.retC ok d_jdk_42_method_56_15 (c16_of hr) (Nat.le_of_ble_eq_true rfl) (Nat.le_of_ble_eq_true rfl) (fun x (q : x ∈ M) => q) (fun kp => ⟨rfl, rfl⟩)
  · exact absurd hlat (by obtain ⟨x, hx, h2⟩ := hx; exact fun q => by have := q x hx; omega)
set_option maxRecDepth 65536 in
set_option maxHeartbeats 4000000 in
theorem k_eqB (l : Launch) (Z : State) (a0 : Array Value) (hE : Ev Z a0) (t u : Addr) (bs es : List Int32) (h : Heap) (A : ArI Z h t .byte bs) (E : ArI Z h u .byte es) (h1 : bs.length < 2000000) (h2 : es.length < 2000000) : Con l Z false (⟨"java/lang/StringLatin1", "equals", "([B[B)Z"⟩ : MethodName) jdk_43_method_13_code 3 (some .boolean) ({ frames := 0, cells := 0, slots := 0, locals := 0 } : Room) [(.ref t), (.ref u)] h [] false (fun M v h' => v = some (.int (if bs = es then 1 else 0)) ∧ h' = h) := by
  have hw := hE.1
  refine Con.intro (L0 := #[.val (.ref t), .val (.ref u), .unset]) (by decide +kernel) (fun m => ef_of rfl) ?_
  intro B M hwsM ok
  refine W.aloadN ok (pc' := 1) d_jdk_43_method_13_0 rfl rfl rfl ?_
  refine W.lenI ok (pc' := 2) A bs.length.toInt32 rfl d_jdk_43_method_13_1 rfl ?_
  refine W.aloadN ok (pc' := 3) d_jdk_43_method_13_2 rfl rfl rfl ?_
  refine W.lenI ok (pc' := 4) E es.length.toInt32 rfl d_jdk_43_method_13_3 rfl ?_
  refine W.icmpne ok (pcY := 34) (pcN := 7) d_jdk_43_method_13_4 rfl (by decide) rfl (fun c0 => ?_) (fun c0 => ?_)
  · have hl : bs.length = es.length := (i32_inj (by omega) (by omega)).mp c0
    refine W.iconst ok (pc' := 8) (0 : Int32) d_jdk_43_method_13_7 rfl rfl ?_
    refine W.istoreN ok (pc' := 9) (L' := #[.val (.ref t), .val (.ref u), .val (.int (0 : Int32))]) d_jdk_43_method_13_8 rfl rfl ?_
    have loop : ∀ (m i : Nat), i + m = bs.length → bs.take i = es.take i → W B h 0 0 M (true, []) 9 #[.val (.ref t), .val (.ref u), .val (.int i.toInt32)] [] := by
      intro m
      induction m with
      | zero =>
        intro i hi he
        refine W.iloadN ok (pc' := 10) d_jdk_43_method_13_9 rfl rfl ?_
        refine W.aloadN ok (pc' := 11) d_jdk_43_method_13_10 rfl rfl rfl ?_
        refine W.lenI ok (pc' := 12) A bs.length.toInt32 rfl d_jdk_43_method_13_11 rfl ?_
        refine W.icmpge ok (pcY := 32) (pcN := 15) d_jdk_43_method_13_12 rfl (by decide) rfl (fun q => absurd q (by rw [i32_lt (by omega) (by omega)]; omega)) (fun _ => ?_)
        refine W.iconst ok (pc' := 33) (1 : Int32) d_jdk_43_method_13_32 rfl rfl ?_
        exact W.retZ ok d_jdk_43_method_13_33 rfl (Nat.le_of_ble_eq_true rfl) (Nat.le_of_ble_eq_true rfl) (fun x (q : x ∈ M) => q) (fun kp => ⟨by rw [if_pos (by rw [List.take_of_length_le (by omega), List.take_of_length_le (by omega)] at he; exact he)], rfl⟩)
      | succ m ih =>
        intro i hi he
        obtain ⟨x, hx⟩ := at_lt (cs := bs) (i := i) (by omega)
        obtain ⟨y, hy⟩ := at_lt (cs := es) (i := i) (by omega)
        refine W.iloadN ok (pc' := 10) d_jdk_43_method_13_9 rfl rfl ?_
        refine W.aloadN ok (pc' := 11) d_jdk_43_method_13_10 rfl rfl rfl ?_
        refine W.lenI ok (pc' := 12) A bs.length.toInt32 rfl d_jdk_43_method_13_11 rfl ?_
        refine W.icmpge ok (pcY := 32) (pcN := 15) d_jdk_43_method_13_12 rfl (by decide) rfl (fun _ => ?_) (fun q => absurd ((i32_lt (by omega) (by omega)).mpr (by omega)) q)
        refine W.aloadN ok (pc' := 16) d_jdk_43_method_13_15 rfl rfl rfl ?_
        refine W.iloadN ok (pc' := 17) d_jdk_43_method_13_16 rfl rfl ?_
        refine W.baload ok (pc' := 18) A x (i32_nn (by omega)) (by rw [nat_i32 (by omega)]; exact hx) d_jdk_43_method_13_17 rfl ?_
        refine W.aloadN ok (pc' := 19) d_jdk_43_method_13_18 rfl rfl rfl ?_
        refine W.iloadN ok (pc' := 20) d_jdk_43_method_13_19 rfl rfl ?_
        refine W.baload ok (pc' := 21) E y (i32_nn (by omega)) (by rw [nat_i32 (by omega)]; exact hy) d_jdk_43_method_13_20 rfl ?_
        refine W.icmpeq ok (pcY := 26) (pcN := 24) d_jdk_43_method_13_21 rfl (by decide) rfl (fun c1 => ?_) (fun c1 => ?_)
        · subst c1
          refine W.iinc ok (pc' := 29) (L' := #[.val (.ref t), .val (.ref u), .val (.int (i.toInt32 + (1 : Int32)))]) (1 : Int32) d_jdk_43_method_13_26 rfl rfl rfl rfl ?_
          refine W.goto ok (pc' := 9) d_jdk_43_method_13_29 (by decide) rfl ?_
          rw [i32_succ]
          exact ih (i + 1) (by omega) (take_succ_eq he hx hy)
        · refine W.iconst ok (pc' := 25) (0 : Int32) d_jdk_43_method_13_24 rfl rfl ?_
          exact W.retZ ok d_jdk_43_method_13_25 rfl (Nat.le_of_ble_eq_true rfl) (Nat.le_of_ble_eq_true rfl) (fun x (q : x ∈ M) => q) (fun kp => ⟨by rw [if_neg (fun e => c1 (by rw [e] at hx; exact Option.some.inj (hx.symm.trans hy)))], rfl⟩)
    exact loop bs.length 0 (by omega) rfl
  · refine W.iconst ok (pc' := 35) (0 : Int32) d_jdk_43_method_13_34 rfl rfl ?_
    exact W.retZ ok d_jdk_43_method_13_35 rfl (Nat.le_of_ble_eq_true rfl) (Nat.le_of_ble_eq_true rfl) (fun x (q : x ∈ M) => q) (fun kp => ⟨by rw [if_neg (fun e => c0 (by rw [e]))], rfl⟩)
set_option maxRecDepth 65536 in
set_option maxHeartbeats 4000000 in
theorem k_eqS (l : Launch) (Z : State) (a0 : Array Value) (hE : Ev Z a0) (a b : Addr) (cs ds : List Int32) (h : Heap) (S : Str Z h a cs) (S2 : Str Z h b ds) (l1 : cs.length < 1000000) (l2 : ds.length < 1000000) : Con l Z false (⟨"java/lang/String", "equals", "(Ljava/lang/Object;)Z"⟩ : MethodName) jdk_42_method_66_code 3 (some .boolean) ({ frames := 1, cells := 0, slots := 0, locals := 14 } : Room) [(.ref a), (.ref b)] h [] false (fun M v h' => v = some (.int (if cs = ds then 1 else 0)) ∧ h' = h) := by
  have hw := hE.1
  refine Con.intro (L0 := #[.val (.ref a), .val (.ref b), .unset]) (by decide +kernel) (fun m => ef_of rfl) ?_
  intro B M hwsM ok
  refine W.aloadN ok (pc' := 1) d_jdk_42_method_66_0 rfl rfl rfl ?_
  refine W.aloadN ok (pc' := 2) d_jdk_42_method_66_1 rfl rfl rfl ?_
  refine W.acmpne ok (pcY := 7) (pcN := 5) d_jdk_42_method_66_2 rfl rfl rfl (by decide) rfl (fun c0 => ?_) (fun c0 => ?_)
  · have e0 : a = b := by injection c0
    subst e0
    refine W.iconst ok (pc' := 6) (1 : Int32) d_jdk_42_method_66_5 rfl rfl ?_
    exact W.retZ ok d_jdk_42_method_66_6 rfl (Nat.le_of_ble_eq_true rfl) (Nat.le_of_ble_eq_true rfl) (fun x (q : x ∈ M) => q) (fun kp => ⟨by rw [if_pos (S.inj S2)], rfl⟩)
  · obtain ⟨t, cd, bs, X, F1, F2, A, hc⟩ := S
    obtain ⟨u, ce, es, X2, G1, G2, A2, hd⟩ := S2
    have l1 : bs.length < 2000000 := by rcases hc with ⟨-, rfl, -⟩ | ⟨-, rfl, -⟩ <;> simp [wide_length] <;> omega
    have l2 : es.length < 2000000 := by rcases hd with ⟨-, rfl, -⟩ | ⟨-, rfl, -⟩ <;> simp [wide_length] <;> omega
    refine W.aloadN ok (pc' := 8) d_jdk_42_method_66_7 rfl rfl rfl ?_
    refine W.instY ok (pc' := 11) (w83 hw) (Ins.self X2) d_jdk_42_method_66_8 rfl ?_
    refine W.ifeq ok (pcY := 54) (pcN := 14) d_jdk_42_method_66_11 rfl (by decide) rfl (fun q => absurd q (by decide)) (fun _ => ?_)
    refine W.aloadN ok (pc' := 15) d_jdk_42_method_66_14 rfl rfl rfl ?_
    refine W.cast ok (pc' := 18) (w83 hw) (Ins.self X2) d_jdk_42_method_66_15 rfl ?_
    refine W.astoreN ok (pc' := 19) (L' := #[.val (.ref a), .val (.ref b), .val (.ref b)]) d_jdk_42_method_66_18 rfl rfl rfl ?_
    obtain ⟨g, hg, Fg⟩ := hE.compact
    refine W.getS ok (pc' := 22) (w34 hw) Via.refl Fg d_jdk_42_method_66_19 rfl ?_
    refine W.ifeq ok (pcY := 36) (pcN := 25) d_jdk_42_method_66_22 rfl (by decide) rfl (fun q => absurd q hg) (fun _ => ?_)
    refine W.aloadN ok (pc' := 26) d_jdk_42_method_66_25 rfl rfl rfl ?_
    refine W.getF ok (pc' := 29) (w35 hw) Via.refl F2 d_jdk_42_method_66_26 rfl ?_
    refine W.aloadN ok (pc' := 30) d_jdk_42_method_66_29 rfl rfl rfl ?_
    refine W.getF ok (pc' := 33) (w35 hw) Via.refl G2 d_jdk_42_method_66_30 rfl ?_
    refine W.icmpne ok (pcY := 54) (pcN := 36) d_jdk_42_method_66_33 rfl (by decide) rfl (fun c1 => ?_) (fun c1 => ?_)
    · subst c1
      refine W.aloadN ok (pc' := 37) d_jdk_42_method_66_36 rfl rfl rfl ?_
      refine W.getF ok (pc' := 40) (w28 hw) Via.refl F1 d_jdk_42_method_66_37 rfl ?_
      refine W.aloadN ok (pc' := 41) d_jdk_42_method_66_40 rfl rfl rfl ?_
      refine W.getF ok (pc' := 44) (w28 hw) Via.refl G1 d_jdk_42_method_66_41 rfl ?_
      refine W.callS ok (rest := []) (cl' := (true, [])) (pc' := 47) (w84 hw) (w85 hw) (w48 hw) (w86 hw) (by decide) pd_5 rfl (k_eqB l Z a0 hE t u bs es h A A2 l1 l2) (fun _ q => (nomatch q)) (fun q => ⟨q, fun _ q => (nomatch q)⟩) rfl rfl (Nat.le_of_ble_eq_true rfl) (Nat.le_of_ble_eq_true rfl) (Nat.le_of_ble_eq_true rfl) (Nat.le_of_ble_eq_true rfl) d_jdk_42_method_66_44 rfl rfl (pureK ?_)
      show W B h 0 0 M (true, []) 47 #[.val (.ref a), .val (.ref b), .val (.ref b)] [(.int (if bs = es then 1 else 0))]
      by_cases q : bs = es
      · rw [if_pos q]
        refine W.ifeq ok (pcY := 54) (pcN := 50) d_jdk_42_method_66_47 rfl (by decide) rfl (fun q => absurd q (by decide)) (fun _ => ?_)
        refine W.iconst ok (pc' := 51) (1 : Int32) d_jdk_42_method_66_50 rfl rfl ?_
        refine W.goto ok (pc' := 55) d_jdk_42_method_66_51 (by decide) rfl ?_
        exact W.retZ ok d_jdk_42_method_66_55 rfl (Nat.le_of_ble_eq_true rfl) (Nat.le_of_ble_eq_true rfl) (fun x (q : x ∈ M) => q) (fun kp => ⟨by rw [if_pos ((hc.inj hd).mp q)], rfl⟩)
      · rw [if_neg q]
        refine W.ifeq ok (pcY := 54) (pcN := 50) d_jdk_42_method_66_47 rfl (by decide) rfl (fun _ => ?_) (fun q => absurd rfl q)
        refine W.iconst ok (pc' := 55) (0 : Int32) d_jdk_42_method_66_54 rfl rfl ?_
        exact W.retZ ok d_jdk_42_method_66_55 rfl (Nat.le_of_ble_eq_true rfl) (Nat.le_of_ble_eq_true rfl) (fun x (q : x ∈ M) => q) (fun kp => ⟨by rw [if_neg (fun e => q ((hc.inj hd).mpr e))], rfl⟩)
    · refine W.iconst ok (pc' := 55) (0 : Int32) d_jdk_42_method_66_54 rfl rfl ?_
      exact W.retZ ok d_jdk_42_method_66_55 rfl (Nat.le_of_ble_eq_true rfl) (Nat.le_of_ble_eq_true rfl) (fun x (q : x ∈ M) => q) (fun kp => ⟨by rw [if_neg (hc.apart hd c1)], rfl⟩)
set_option maxRecDepth 65536 in
set_option maxHeartbeats 4000000 in
theorem k_eqN (l : Launch) (Z : State) (a0 : Array Value) (hE : Ev Z a0) (a : Addr) (h : Heap)  : Con l Z false (⟨"java/lang/String", "equals", "(Ljava/lang/Object;)Z"⟩ : MethodName) jdk_42_method_66_code 3 (some .boolean) ({ frames := 0, cells := 0, slots := 0, locals := 0 } : Room) [(.ref a), .null] h [] false (fun M v h' => v = some (.int 0) ∧ h' = h) := by
  have hw := hE.1
  refine Con.intro (L0 := #[.val (.ref a), .val .null, .unset]) (by decide +kernel) (fun m => ef_of rfl) ?_
  intro B M hwsM ok
  refine W.aloadN ok (pc' := 1) d_jdk_42_method_66_0 rfl rfl rfl ?_
  refine W.aloadN ok (pc' := 2) d_jdk_42_method_66_1 rfl rfl rfl ?_
  refine W.acmpne ok (pcY := 7) (pcN := 5) d_jdk_42_method_66_2 rfl rfl rfl (by decide) rfl (fun q => absurd q (fun e => by cases e)) (fun _ => ?_)
  refine W.aloadN ok (pc' := 8) d_jdk_42_method_66_7 rfl rfl rfl ?_
  refine W.instNull ok (pc' := 11) d_jdk_42_method_66_8 rfl ?_
  refine W.ifeq ok (pcY := 54) (pcN := 14) d_jdk_42_method_66_11 rfl (by decide) rfl (fun _ => ?_) (fun q => absurd rfl q)
  refine W.iconst ok (pc' := 55) (0 : Int32) d_jdk_42_method_66_54 rfl rfl ?_
  exact W.retZ ok d_jdk_42_method_66_55 rfl (Nat.le_of_ble_eq_true rfl) (Nat.le_of_ble_eq_true rfl) (fun x (q : x ∈ M) => q) (fun kp => ⟨rfl, rfl⟩)
set_option maxRecDepth 65536 in
set_option maxHeartbeats 4000000 in
theorem k_cmpL (l : Launch) (Z : State) (a0 : Array Value) (hE : Ev Z a0) (b d : Addr) (cs : List Int32) (h : Heap) (Ab : ArI Z h b .char cs) (Ad : ArI Z h d .byte (List.replicate cs.length 0)) (hbd : b ≠ d) (hl : cs.length < 1000000) (hlat : ∀ c ∈ cs, c.toInt ≤ 255) : Con l Z false (⟨"java/lang/StringUTF16", "compress", "([CI[BII)I"⟩ : MethodName) jdk_52_method_21_code 7 (some .int) ({ frames := 0, cells := 0, slots := 0, locals := 0 } : Room) [(.ref b), (.int (0 : Int32)), (.ref d), (.int (0 : Int32)), (.int cs.length.toInt32)] h [d] false (fun M v h' => v = some (.int cs.length.toInt32) ∧ ArI Z h' d .byte (cs.map b8)) := by
  have hw := hE.1
  refine Con.intro (L0 := #[.val (.ref b), .val (.int (0 : Int32)), .val (.ref d), .val (.int (0 : Int32)), .val (.int cs.length.toInt32), .unset, .unset]) (by decide +kernel) (fun m => ef_of rfl) ?_
  intro B M hwsM ok
  refine W.iconst ok (pc' := 1) (0 : Int32) d_jdk_52_method_21_0 rfl rfl ?_
  refine W.istore ok (pc' := 3) (L' := #[.val (.ref b), .val (.int (0 : Int32)), .val (.ref d), .val (.int (0 : Int32)), .val (.int cs.length.toInt32), .val (.int (0 : Int32)), .unset]) d_jdk_52_method_21_1 rfl rfl ?_
  have loop : ∀ (m i : Nat) (hh : Heap) (cl : Cl) (s6 : Slot), i + m = cs.length → One s6 → ArI Z hh b .char cs → ArI Z hh d .byte ((cs.take i).map b8 ++ List.replicate m 0) → W B hh 0 0 M cl 3 #[.val (.ref b), .val (.int i.toInt32), .val (.ref d), .val (.int i.toInt32), .val (.int cs.length.toInt32), .val (.int i.toInt32), s6] [] := by
    intro m
    induction m with
    | zero =>
      intro i hh cl s6 hi h6 Ab Ad
      refine W.iload ok (pc' := 5) d_jdk_52_method_21_3 rfl rfl ?_
      refine W.iload ok (pc' := 7) d_jdk_52_method_21_5 rfl rfl ?_
      refine W.icmpge ok (pcY := 44) (pcN := 10) d_jdk_52_method_21_7 rfl (by decide) rfl (fun q => absurd q (by rw [i32_lt (by omega) (by omega)]; omega)) (fun _ => ?_)
      refine W.iload ok (pc' := 46) d_jdk_52_method_21_44 rfl rfl ?_
      exact W.retI ok d_jdk_52_method_21_46 (Nat.le_of_ble_eq_true rfl) (Nat.le_of_ble_eq_true rfl) (fun x (q : x ∈ M) => q) (fun kp => ⟨rfl, Ad.cast (take_all cs i (by omega))⟩)
    | succ m ih =>
      intro i hh cl s6 hi h6 Ab Ad
      have li : i < cs.length := by omega
      obtain ⟨c, hc⟩ := at_lt li
      have c255 : c.toInt ≤ 255 := hlat c (mem_of_at hc)
      refine W.iload ok (pc' := 5) d_jdk_52_method_21_3 rfl rfl ?_
      refine W.iload ok (pc' := 7) d_jdk_52_method_21_5 rfl rfl ?_
      refine W.icmpge ok (pcY := 44) (pcN := 10) d_jdk_52_method_21_7 rfl (by decide) rfl (fun _ => ?_) (fun q => absurd ((i32_lt (by omega) (by omega)).mpr (by omega)) q)
      refine W.aloadN ok (pc' := 11) d_jdk_52_method_21_10 rfl rfl rfl ?_
      refine W.iloadN ok (pc' := 12) d_jdk_52_method_21_11 rfl rfl ?_
      refine W.caload ok (pc' := 13) Ab c (i32_nn (by omega)) (by rw [nat_i32 (by omega)]; exact hc) d_jdk_52_method_21_12 rfl ?_
      refine W.istoreS ok (pc' := 15) (L' := #[.val (.ref b), .val (.int i.toInt32), .val (.ref d), .val (.int i.toInt32), .val (.int cs.length.toInt32), .val (.int i.toInt32), .val (.int c)]) d_jdk_52_method_21_13 rfl rfl h6 rfl ?_
      refine W.iload ok (pc' := 17) d_jdk_52_method_21_15 rfl rfl ?_
      refine W.sipush ok (pc' := 20) (255 : Int32) d_jdk_52_method_21_17 rfl rfl ?_
      refine W.icmple ok (pcY := 26) (pcN := 23) d_jdk_52_method_21_20 rfl (by decide) rfl (fun q => absurd q (le255 c255)) (fun _ => ?_)
      refine W.aloadN ok (pc' := 27) d_jdk_52_method_21_26 rfl rfl rfl ?_
      refine W.iloadN ok (pc' := 28) d_jdk_52_method_21_27 rfl rfl ?_
      refine W.iload ok (pc' := 30) d_jdk_52_method_21_28 rfl rfl ?_
      refine W.i2b ok (pc' := 31) d_jdk_52_method_21_30 rfl ?_
      refine W.bastore ok (pc' := 32) (cl' := (false, cl.2)) Ad (i32_nn (by omega)) (by rw [nat_i32 (by omega)]; simp; omega) (hwsM _ (List.mem_of_getElem? (i := 0) rfl)) (Or.inl (List.mem_of_getElem? (i := 0) rfl)) (fun q => by cases q) rfl d_jdk_52_method_21_31 rfl (fun h1 Wr2 A3 => ?_)
      refine W.iinc ok (pc' := 35) (L' := #[.val (.ref b), .val (.int (i.toInt32 + (1 : Int32))), .val (.ref d), .val (.int i.toInt32), .val (.int cs.length.toInt32), .val (.int i.toInt32), .val (.int c)]) (1 : Int32) d_jdk_52_method_21_32 rfl rfl rfl rfl ?_
      refine W.iinc ok (pc' := 38) (L' := #[.val (.ref b), .val (.int (i.toInt32 + (1 : Int32))), .val (.ref d), .val (.int (i.toInt32 + (1 : Int32))), .val (.int cs.length.toInt32), .val (.int i.toInt32), .val (.int c)]) (1 : Int32) d_jdk_52_method_21_35 rfl rfl rfl rfl ?_
      refine W.iinc ok (pc' := 41) (L' := #[.val (.ref b), .val (.int (i.toInt32 + (1 : Int32))), .val (.ref d), .val (.int (i.toInt32 + (1 : Int32))), .val (.int cs.length.toInt32), .val (.int (i.toInt32 + (1 : Int32))), .val (.int c)]) (1 : Int32) d_jdk_52_method_21_38 rfl rfl rfl rfl ?_
      refine W.goto ok (pc' := 3) d_jdk_52_method_21_41 (by decide) rfl ?_
      rw [i32_succ]
      exact ih (i + 1) _ _ _ (by omega) (One.val rfl) (Ab.other Wr2 hbd) (A3.cast (by rw [nat_i32 (by omega), b8_b8, fill_step hc]))
  exact loop cs.length 0 h _ .unset (by omega) One.u Ab (Ad.cast (by simp))
set_option maxRecDepth 65536 in
set_option maxHeartbeats 4000000 in
theorem k_cmp3L (l : Launch) (Z : State) (a0 : Array Value) (hE : Ev Z a0) (b : Addr) (cs : List Int32) (h : Heap) (Ab : ArI Z h b .char cs) (hcap : cs.length ≤ 5) (hlat : ∀ c ∈ cs, c.toInt ≤ 255) : Con l Z false (⟨"java/lang/StringUTF16", "compress", "([CII)[B"⟩ : MethodName) jdk_52_method_16_code 6 (some (.array .byte)) ({ frames := 1, cells := 1, slots := 5, locals := 18 } : Room) [(.ref b), (.int (0 : Int32)), (.int cs.length.toInt32)] h [] false (fun M v h' => ∃ t, v = some (.ref t) ∧ h.size ≤ t ∧ ArI Z h' t .byte (cs.map b8)) := by
  have hw := hE.1
  refine Con.intro (L0 := #[.val (.ref b), .val (.int (0 : Int32)), .val (.int cs.length.toInt32), .unset, .unset, .unset]) (by decide +kernel) (fun m => ef_of rfl) ?_
  intro B M hwsM ok
  have ltb := Ab.gt
  refine W.iloadN ok (pc' := 1) d_jdk_52_method_16_0 rfl rfl ?_
  refine W.newB ok (pc' := 3) (cap := 5) (w9 hw) (i32_nn (by omega)) (by rw [nat_i32 (by omega)]; omega) (by decide) d_jdk_52_method_16_1 rfl (Nat.le_of_ble_eq_true rfl) (Nat.le_of_ble_eq_true rfl) (fun a1 h2 z3 ea4 E5 A6 => ?_)
  replace A6 := A6.cast (cs' := List.replicate cs.length 0) (by rw [nat_i32 (by omega)])
  refine W.astoreN ok (pc' := 4) (L' := #[.val (.ref b), .val (.int (0 : Int32)), .val (.int cs.length.toInt32), .val (.ref a1), .unset, .unset]) d_jdk_52_method_16_3 rfl rfl rfl ?_
  refine W.aloadN ok (pc' := 5) d_jdk_52_method_16_4 rfl rfl rfl ?_
  refine W.iloadN ok (pc' := 6) d_jdk_52_method_16_5 rfl rfl ?_
  refine W.aloadN ok (pc' := 7) d_jdk_52_method_16_6 rfl rfl rfl ?_
  refine W.iconst ok (pc' := 8) (0 : Int32) d_jdk_52_method_16_7 rfl rfl ?_
  refine W.iloadN ok (pc' := 9) d_jdk_52_method_16_8 rfl rfl ?_
  refine W.callS ok (rest := []) (cl' := (true, [])) (pc' := 12) (w77 hw) (w78 hw) (w75 hw) (w79 hw) (by decide) pd_6 rfl (k_cmpL l Z a0 hE b a1 cs h2 (Ab.ext E5) A6 (ane (by omega)) (by omega) hlat) (fun w q => by simp only [List.mem_cons, List.not_mem_nil, or_false] at q; subst q; exact ⟨(List.mem_cons_self ..), (Or.inr z3)⟩) (fun q => ⟨q, fun w q => by simp only [List.mem_cons, List.not_mem_nil, or_false] at q; subst q; exact z3⟩) rfl rfl (Nat.le_of_ble_eq_true rfl) (Nat.le_of_ble_eq_true rfl) (Nat.le_of_ble_eq_true rfl) (Nat.le_of_ble_eq_true rfl) d_jdk_52_method_16_9 rfl rfl (fun v h7 hq K8 => ?_)
  obtain ⟨rfl, A2⟩ := hq
  show W B h7 1 5 (a1 :: M) (true, []) 12 #[.val (.ref b), .val (.int (0 : Int32)), .val (.int cs.length.toInt32), .val (.ref a1), .unset, .unset] [(.int cs.length.toInt32)]
  refine W.istore ok (pc' := 14) (L' := #[.val (.ref b), .val (.int (0 : Int32)), .val (.int cs.length.toInt32), .val (.ref a1), .val (.int cs.length.toInt32), .unset]) d_jdk_52_method_16_12 rfl rfl ?_
  refine W.iload ok (pc' := 16) d_jdk_52_method_16_14 rfl rfl ?_
  refine W.iloadN ok (pc' := 17) d_jdk_52_method_16_16 rfl rfl ?_
  refine W.icmpeq ok (pcY := 57) (pcN := 20) d_jdk_52_method_16_17 rfl (by decide) rfl (fun _ => ?_) (fun q => absurd rfl q)
  refine W.aloadN ok (pc' := 58) d_jdk_52_method_16_57 rfl rfl rfl ?_
  exact W.retA ok d_jdk_52_method_16_58 rfl rfl (Nat.le_of_ble_eq_true rfl) (Nat.le_of_ble_eq_true rfl) (fun x (q : x ∈ M) => (List.mem_cons_of_mem _ q)) (fun kp => ⟨a1, rfl, Nat.le_of_eq ea4, A2⟩)
set_option maxRecDepth 65536 in
set_option maxHeartbeats 4000000 in
theorem k_cLen (l : Launch) (Z : State) (a0 : Array Value) (hE : Ev Z a0) (t : Addr) (bs : List Int32) (n : Int32) (h : Heap) (A : ArI Z h t .byte bs) : Con l Z false (⟨"java/lang/StringUTF16", "coderFromArrayLen", "([BI)B"⟩ : MethodName) jdk_52_method_15_code 2 (some .byte) ({ frames := 0, cells := 0, slots := 0, locals := 0 } : Room) [(.ref t), (.int n)] h [] false (fun M v h' => v = some (.int (b8 (XT.ushr (n - bs.length.toInt32) (31 : Int32)))) ∧ h' = h) := by
  have hw := hE.1
  refine Con.intro (L0 := #[.val (.ref t), .val (.int n)]) (by decide +kernel) (fun m => ef_of rfl) ?_
  intro B M hwsM ok
  refine W.iloadN ok (pc' := 1) d_jdk_52_method_15_0 rfl rfl ?_
  refine W.aloadN ok (pc' := 2) d_jdk_52_method_15_1 rfl rfl rfl ?_
  refine W.lenI ok (pc' := 3) A bs.length.toInt32 rfl d_jdk_52_method_15_2 rfl ?_
  refine W.isub ok (pc' := 4) d_jdk_52_method_15_3 rfl ?_
  refine W.bipush ok (pc' := 6) (31 : Int32) d_jdk_52_method_15_4 rfl rfl ?_
  refine W.iushr ok (pc' := 7) d_jdk_52_method_15_6 rfl ?_
  refine W.i2b ok (pc' := 8) d_jdk_52_method_15_7 rfl ?_
  exact W.retB ok d_jdk_52_method_15_8 (b8_b8 _) (Nat.le_of_ble_eq_true rfl) (Nat.le_of_ble_eq_true rfl) (fun x (q : x ∈ M) => q) (fun kp => ⟨rfl, rfl⟩)
set_option maxRecDepth 65536 in
set_option maxHeartbeats 4000000 in
theorem k_init4 (l : Launch) (Z : State) (a0 : Array Value) (hE : Ev Z a0) (a b : Addr) (cs : List Int32) (h : Heap) (X : Exa Z h a ST) (F1 : Fld Z h a ST "value" "[B" .null) (F2 : Fld Z h a ST "coder" "B" (.int 0)) (Ab : ArI Z h b .char cs) (hcap : cs.length ≤ 5) (hlat : ∀ c ∈ cs, c.toInt ≤ 255) : Con l Z false (⟨"java/lang/String", "<init>", "([CIILjava/lang/Void;)V"⟩ : MethodName) jdk_42_method_149_code 6 none ({ frames := 2, cells := 4, slots := 8, locals := 35 } : Room) [(.ref a), (.ref b), (.int (0 : Int32)), (.int cs.length.toInt32), .null] h [a] false (fun M v h' => v = none ∧ ∃ t cd bs, t ∉ M ∧ Fld Z h' a ST "value" "[B" (.ref t) ∧ Fld Z h' a ST "coder" "B" (.int cd) ∧ ArI Z h' t .byte bs ∧ Cod cd cs bs) := by
  have hw := hE.1
  refine Con.intro (L0 := #[.val (.ref a), .val (.ref b), .val (.int (0 : Int32)), .val (.int cs.length.toInt32), .val .null, .unset]) (by decide +kernel) (fun m => ef_of rfl) ?_
  intro B M hwsM ok
  refine W.lt fun hM => ?_
  have lta := gtE X
  have ltb := Ab.gt
  have haM : a ∈ M := hwsM _ (List.mem_cons_self ..)
  have ne1 := Exa.neArI X (w8 hw) Ab
  have rc : ∀ c ∈ cs, 0 ≤ c.toInt ∧ c.toInt ≤ 65535 := fun c hc => fits_char_rng (Ab.fit c hc)
  refine W.aloadN ok (pc' := 1) d_jdk_42_method_149_0 rfl rfl rfl ?_
  refine W.initO ok (pc' := 4) (w70 hw) (w71 hw) (w72 hw) rfl (Nat.le_of_ble_eq_true rfl) (Nat.le_of_ble_eq_true rfl) d_jdk_42_method_149_1 rfl ?_
  refine W.iloadN ok (pc' := 5) d_jdk_42_method_149_4 rfl rfl ?_
  refine W.ifne ok (pcY := 27) (pcN := 8) d_jdk_42_method_149_5 rfl (by decide) rfl (fun c0 => ?_) (fun c0 => ?_)
  · have e0 : cs = [] := List.length_eq_zero_iff.mp (by have := (i32_inj (a := cs.length) (b := 0) (by omega) (by omega)).mp c0; exact this)
    subst e0
    refine W.aloadN ok (pc' := 9) d_jdk_42_method_149_8 rfl rfl rfl ?_
    refine W.ldcS ok (pc' := 11) rfl (text := "") (sz := 0) (w97 hw) (fun d hd => hw d ((by decide +kernel : ∀ d ∈ Bundle.stringAtoms, d ∈ tables_1) d hd)) (hE.held _ (List.mem_of_getElem? (i := 8) rfl)) hE.cw (by decide) (Or.inl rfl) (by decide) (by decide) d_jdk_42_method_149_9 rfl (Nat.le_of_ble_eq_true rfl) (Nat.le_of_ble_eq_true rfl) (fun a1 h2 E3 S1 => ?_)
    have S1' := S1
    obtain ⟨t1, cd1, bs1, n1, n2, n3, n4, n5, n6, n7⟩ := S1'
    refine W.getF ok (pc' := 14) (w28 hw) Via.refl n4 d_jdk_42_method_149_11 rfl ?_
    have hat : t1 ≠ a := fun e => n2 (e ▸ haM)
    refine W.putF ok (pc' := 17) (cl' := (false, ("java/lang/String", 7) :: [])) (w28 hw) Via.refl (F1.ext E3) (X.ext E3) (Or.inr ⟨(w10 hw), rfl, rfl⟩) (w8 hw) (ty := (.array .byte)) (by decide) rfl rfl (hwsM _ (List.mem_of_getElem? (i := 0) rfl)) (Or.inl (List.mem_of_getElem? (i := 0) rfl)) (fun q => by cases q) rfl d_jdk_42_method_149_14 rfl (fun h4 W5 => ?_)
    refine W.aloadN ok (pc' := 18) d_jdk_42_method_149_17 rfl rfl rfl ?_
    refine W.ldcS ok (pc' := 20) rfl (text := "") (sz := 0) (w97 hw) (fun d hd => hw d ((by decide +kernel : ∀ d ∈ Bundle.stringAtoms, d ∈ tables_1) d hd)) (hE.held _ (List.mem_of_getElem? (i := 8) rfl)) hE.cw (by decide) (Or.inr (by simp)) (by decide) (by decide) d_jdk_42_method_149_18 rfl (Nat.le_of_ble_eq_true rfl) (Nat.le_of_ble_eq_true rfl) (fun a6 h7 E8 S2 => ?_)
    obtain ⟨t2, cd2, bs2, m1, m2, m3, m4, m5, m6, m7⟩ := S2
    have e7 : cd2 = 0 := by rcases m7 with ⟨q, -⟩ | ⟨-, -, -, q⟩; · exact q
                            · simp [chs] at q
    subst e7
    refine W.getF ok (pc' := 23) (w35 hw) Via.refl m5 d_jdk_42_method_149_20 rfl ?_
    refine W.putF ok (pc' := 26) (cl' := (false, ("java/lang/String", 7) :: ("java/lang/String", 7) :: [])) (w35 hw) Via.refl ((F2.ext E3).other W5 (Or.inr (slot_ne (Or.inr (w11 hw)) (Or.inr (w10 hw)) (by decide) (t := .byte) (by decide) (t' := (.array .byte)) (by decide))) |>.ext E8) (((X.ext E3).wr W5).ext E8) (Or.inr ⟨(w11 hw), rfl, rfl⟩) (w8 hw) (ty := .byte) (by decide) (by first | rfl | assumption) (by first | rfl | assumption) (hwsM _ (List.mem_of_getElem? (i := 0) rfl)) (Or.inl (List.mem_of_getElem? (i := 0) rfl)) (fun q => by cases q) rfl d_jdk_42_method_149_23 rfl (fun h9 W10 => ?_)
    have e8 : cd1 = 0 := by rcases n7 with ⟨q, -⟩ | ⟨-, -, -, q⟩; · exact q
                            · simp [chs] at q
    subst e8
    exact W.retV ok d_jdk_42_method_149_26 (Nat.le_of_ble_eq_true rfl) (Nat.le_of_ble_eq_true rfl) (fun x (q : x ∈ M) => q) (fun kp => ⟨rfl, t1, 0, bs1, n2, ((((F1.ext E3).same W5).ext E8).other W10 (Or.inr (slot_ne (Or.inr (w10 hw)) (Or.inr (w11 hw)) (by decide) (t := (.array .byte)) (by decide) (t' := .byte) (by decide)))), (((F2.ext E3).other W5 (Or.inr (slot_ne (Or.inr (w11 hw)) (Or.inr (w10 hw)) (by decide) (t := .byte) (by decide) (t' := (.array .byte)) (by decide)))).ext E8).same W10, (((n6.other W5 hat).ext E8).other W10 hat), n7⟩)
  · have hne : cs ≠ [] := fun e => c0 (by rw [e]; rfl)
    have hpos : 0 < cs.length := List.length_pos_iff.mpr hne
    obtain ⟨g, hg, Fg⟩ := hE.compact
    refine W.getS ok (pc' := 30) (w34 hw) Via.refl Fg d_jdk_42_method_149_27 rfl ?_
    refine W.ifeq ok (pcY := 58) (pcN := 33) d_jdk_42_method_149_30 rfl (by decide) rfl (fun q => absurd q hg) (fun _ => ?_)
    refine W.aloadN ok (pc' := 34) d_jdk_42_method_149_33 rfl rfl rfl ?_
    refine W.iloadN ok (pc' := 35) d_jdk_42_method_149_34 rfl rfl ?_
    refine W.iloadN ok (pc' := 36) d_jdk_42_method_149_35 rfl rfl ?_
    refine W.callS ok (rest := []) (cl' := (true, [])) (pc' := 39) (w73 hw) (w74 hw) (w75 hw) (w76 hw) (by decide) pd_7 rfl (k_cmp3L l Z a0 hE b cs h Ab hcap hlat) (fun _ q => (nomatch q)) (fun q => ⟨q, fun _ q => (nomatch q)⟩) rfl rfl (Nat.le_of_ble_eq_true rfl) (Nat.le_of_ble_eq_true rfl) (Nat.le_of_ble_eq_true rfl) (Nat.le_of_ble_eq_true rfl) d_jdk_42_method_149_36 rfl rfl (fun v h11 hq K12 => ?_)
    obtain ⟨t, rfl, ht, At⟩ := hq
    show W B h11 1 5 M (true, []) 39 #[.val (.ref a), .val (.ref b), .val (.int (0 : Int32)), .val (.int cs.length.toInt32), .val .null, .unset] [(.ref t)]
    refine W.astore ok (pc' := 41) (L' := #[.val (.ref a), .val (.ref b), .val (.int (0 : Int32)), .val (.int cs.length.toInt32), .val .null, .val (.ref t)]) d_jdk_42_method_149_39 rfl rfl rfl ?_
    refine W.aloadN ok (pc' := 42) d_jdk_42_method_149_41 rfl rfl rfl ?_
    refine W.aload ok (pc' := 44) d_jdk_42_method_149_42 rfl rfl rfl ?_
    refine W.iloadN ok (pc' := 45) d_jdk_42_method_149_44 rfl rfl ?_
    refine W.callS ok (rest := [(.ref a)]) (cl' := (true, [])) (pc' := 48) (w80 hw) (w81 hw) (w75 hw) (w82 hw) (by decide) pd_8 rfl (k_cLen l Z a0 hE t (cs.map b8) cs.length.toInt32 h11 At) (fun _ q => (nomatch q)) (fun q => ⟨q, fun _ q => (nomatch q)⟩) rfl rfl (Nat.le_of_ble_eq_true rfl) (Nat.le_of_ble_eq_true rfl) (Nat.le_of_ble_eq_true rfl) (Nat.le_of_ble_eq_true rfl) d_jdk_42_method_149_45 rfl rfl (pureK ?_)
    show W B h11 1 5 M (true, []) 48 #[.val (.ref a), .val (.ref b), .val (.int (0 : Int32)), .val (.int cs.length.toInt32), .val .null, .val (.ref t)] [(.int (b8 (XT.ushr (cs.length.toInt32 - (cs.map b8).length.toInt32) (31 : Int32)))), (.ref a)]
    rw [show b8 (XT.ushr (cs.length.toInt32 - (cs.map b8).length.toInt32) (31 : Int32)) = 0 by rw [List.length_map, Int32.sub_self]; exact ushr31_zero]
    have ltt := At.gt
    refine W.putF ok (pc' := 51) (cl' := (false, [])) (w35 hw) Via.refl (F2.ext (ext_keep K12)) (X.ext (ext_keep K12)) (Or.inr ⟨(w11 hw), rfl, rfl⟩) (w8 hw) (ty := .byte) (by decide) (by first | rfl | assumption) (by first | rfl | assumption) (hwsM _ (List.mem_of_getElem? (i := 0) rfl)) (Or.inl (List.mem_of_getElem? (i := 0) rfl)) (fun q => by cases q) rfl d_jdk_42_method_149_48 rfl (fun h13 W14 => ?_)
    refine W.aloadN ok (pc' := 52) d_jdk_42_method_149_51 rfl rfl rfl ?_
    refine W.aload ok (pc' := 54) d_jdk_42_method_149_52 rfl rfl rfl ?_
    refine W.putF ok (pc' := 57) (cl' := (false, [])) (w28 hw) Via.refl ((F1.ext (ext_keep K12)).other W14 (Or.inr (slot_ne (Or.inr (w10 hw)) (Or.inr (w11 hw)) (by decide) (t := (.array .byte)) (by decide) (t' := .byte) (by decide)))) ((X.ext (ext_keep K12)).wr W14) (Or.inr ⟨(w10 hw), rfl, rfl⟩) (w8 hw) (ty := (.array .byte)) (by decide) rfl rfl (hwsM _ (List.mem_of_getElem? (i := 0) rfl)) (Or.inl (List.mem_of_getElem? (i := 0) rfl)) (fun q => by cases q) rfl d_jdk_42_method_149_54 rfl (fun h15 W16 => ?_)
    exact W.retV ok d_jdk_42_method_149_57 (Nat.le_of_ble_eq_true rfl) (Nat.le_of_ble_eq_true rfl) (fun x (q : x ∈ M) => q) (fun kp => ⟨rfl, t, (0 : Int32), _, fun q => absurd (hM _ q) (by omega), ((F1.ext (ext_keep K12)).other W14 (Or.inr (slot_ne (Or.inr (w10 hw)) (Or.inr (w11 hw)) (by decide) (t := (.array .byte)) (by decide) (t' := .byte) (by decide)))).same W16, ((F2.ext (ext_keep K12)).same W14).other W16 (Or.inr (slot_ne (Or.inr (w11 hw)) (Or.inr (w10 hw)) (by decide) (t := .byte) (by decide) (t' := (.array .byte)) (by decide))), (At.other W14 (ane (by omega))).other W16 (ane (by omega)), Or.inl ⟨rfl, rfl, fun c hc => ⟨(rc c hc).1, hlat c hc⟩⟩⟩)
set_option maxRecDepth 65536 in
set_option maxHeartbeats 4000000 in
theorem k_initC (l : Launch) (Z : State) (a0 : Array Value) (hE : Ev Z a0) (a b : Addr) (cs : List Int32) (h : Heap) (X : Exa Z h a ST) (F1 : Fld Z h a ST "value" "[B" .null) (F2 : Fld Z h a ST "coder" "B" (.int 0)) (Ab : ArI Z h b .char cs) (hcap : cs.length ≤ 5) (hlat : ∀ c ∈ cs, c.toInt ≤ 255) : Con l Z false (⟨"java/lang/String", "<init>", "([C)V"⟩ : MethodName) jdk_42_method_3_code 2 none ({ frames := 3, cells := 4, slots := 8, locals := 52 } : Room) [(.ref a), (.ref b)] h [a] false (fun M v h' => v = none ∧ ∃ t cd bs, t ∉ M ∧ Fld Z h' a ST "value" "[B" (.ref t) ∧ Fld Z h' a ST "coder" "B" (.int cd) ∧ ArI Z h' t .byte bs ∧ Cod cd cs bs) := by
  have hw := hE.1
  refine Con.intro (L0 := #[.val (.ref a), .val (.ref b)]) (by decide +kernel) (fun m => ef_of rfl) ?_
  intro B M hwsM ok
  refine W.aloadN ok (pc' := 1) d_jdk_42_method_3_0 rfl rfl rfl ?_
  refine W.aloadN ok (pc' := 2) d_jdk_42_method_3_1 rfl rfl rfl ?_
  refine W.iconst ok (pc' := 3) (0 : Int32) d_jdk_42_method_3_2 rfl rfl ?_
  refine W.aloadN ok (pc' := 4) d_jdk_42_method_3_3 rfl rfl rfl ?_
  refine W.lenI ok (pc' := 5) Ab cs.length.toInt32 rfl d_jdk_42_method_3_4 rfl ?_
  refine W.aconstNull ok (pc' := 6) d_jdk_42_method_3_5 rfl ?_
  refine W.callI ok (rest := []) (cl' := (false, [])) (pc' := 9) rfl (w66 hw) (w67 hw) (w7 hw) (w69 hw) (by decide) pd_9 rfl (k_init4 l Z a0 hE a b cs h X F1 F2 Ab hcap hlat) (fun w q => by simp only [List.mem_cons, List.not_mem_nil, or_false] at q; subst q; exact ⟨(hwsM _ (List.mem_of_getElem? (i := 0) rfl)), (Or.inl (List.mem_of_getElem? (i := 0) rfl))⟩) (fun q => by cases q) rfl rfl (Nat.le_of_ble_eq_true rfl) (Nat.le_of_ble_eq_true rfl) (Nat.le_of_ble_eq_true rfl) (Nat.le_of_ble_eq_true rfl) d_jdk_42_method_3_6 rfl rfl (fun v h1 hq K2 => ?_)
  obtain ⟨rfl, hq⟩ := hq
  show W B h1 4 8 M (false, []) 9 #[.val (.ref a), .val (.ref b)] []
  exact W.retV ok d_jdk_42_method_3_9 (Nat.le_of_ble_eq_true rfl) (Nat.le_of_ble_eq_true rfl) (fun x (q : x ∈ M) => q) (fun kp => ⟨rfl, hq⟩)
set_option maxRecDepth 65536 in
set_option maxHeartbeats 4000000 in
theorem k_bv (l : Launch) (Z : State) (a0 : Array Value) (hE : Ev Z a0) (a : Addr) (z : Int32) (h : Heap) (F : Fld Z h a "java/lang/Boolean" "value" "Z" (.int z)) (hz : z &&& 1 = z) : Con l Z false (⟨"java/lang/Boolean", "booleanValue", "()Z"⟩ : MethodName) jdk_2055_method_4_code 1 (some .boolean) ({ frames := 0, cells := 0, slots := 0, locals := 0 } : Room) [(.ref a)] h [] false (fun M v h' => v = some (.int z) ∧ h' = h) := by
  have hw := hE.1
  refine Con.intro (L0 := #[.val (.ref a)]) (by decide +kernel) (fun m => ef_of rfl) ?_
  intro B M hwsM ok
  refine W.aloadN ok (pc' := 1) d_jdk_2055_method_4_0 rfl rfl rfl ?_
  refine W.getF ok (pc' := 4) (w95 hw) Via.refl F d_jdk_2055_method_4_1 rfl ?_
  exact W.retZ ok d_jdk_2055_method_4_4 hz (Nat.le_of_ble_eq_true rfl) (Nat.le_of_ble_eq_true rfl) (fun x (q : x ∈ M) => q) (fun kp => ⟨rfl, rfl⟩)
set_option maxRecDepth 65536 in
set_option maxHeartbeats 4000000 in
theorem k_make (l : Launch) (Z : State) (a0 : Array Value) (hE : Ev Z a0) (ch : Addr) (x0 x1 x2 x3 x4 : Int32) (ln : Nat) (h : Heap) (A : ArI Z h ch .char [x0, x1, x2, x3, x4]) (hr : ∀ x ∈ ([x0, x1, x2, x3, x4] : List Int32), 0 ≤ x.toInt ∧ x.toInt ≤ 255) (hl : ln ≤ 5) : Con l Z false (⟨"com/example/purlin/purlin/util/TextValuesBoolPinLaw", "make", "([CI)Ljava/lang/String;"⟩ : MethodName) method_2_code 2 (some (.object "java/lang/String")) ({ frames := 4, cells := 6, slots := 17, locals := 66 } : Room) [(.ref ch), (.int ln.toInt32)] h [] false (fun M v h' => ∃ r, v = some (.ref r) ∧ h.size ≤ r ∧ StrM Z h' M r (([x0, x1, x2, x3, x4] : List Int32).take ln)) := by
  have hw := hE.1
  refine Con.intro (L0 := #[.val (.ref ch), .val (.int ln.toInt32)]) (by decide +kernel) (fun m => ef_of rfl) ?_
  intro B M hwsM ok
  have ltc := A.gt
  obtain rfl | rfl | rfl | rfl | rfl | rfl : ln = 0 ∨ ln = 1 ∨ ln = 2 ∨ ln = 3 ∨ ln = 4 ∨ ln = 5 := by omega
  · refine W.iloadN ok (pc' := 1) d_method_2_0 rfl rfl ?_
    refine W.ifne ok (pcY := 15) (pcN := 4) d_method_2_1 rfl (by decide) rfl (fun _ => ?_) (fun q => absurd rfl q)
    refine W.lt fun hM1 => ?_
    refine W.new ok (pc' := 7) (w62 hw) (w8 hw) (w7 hw) d_method_2_4 rfl (Nat.le_of_ble_eq_true rfl) (Nat.le_of_ble_eq_true rfl) (fun a2 h3 z4 ea5 E6 X7 D8 U9 => ?_)
    refine W.dup ok (pc' := 8) d_method_2_7 rfl rfl ?_
    refine W.iconst ok (pc' := 9) (0 : Int32) d_method_2_8 rfl rfl ?_
    refine W.newC ok (pc' := 11) (cap := 0) (w0 hw) (by decide) (by decide) (by decide) d_method_2_9 rfl (Nat.le_of_ble_eq_true rfl) (Nat.le_of_ble_eq_true rfl) (fun a10 h11 z12 ea13 E14 A15 => ?_)
    replace A15 := A15.cast (cs' := []) rfl
    have l16 := gtE X7
    have l17 := E6.1
    have l18 := E14.1
    refine W.callI ok (rest := [(.ref a2)]) (cl' := (true, [])) (pc' := 14) rfl (w63 hw) (w64 hw) (w7 hw) (w65 hw) (by decide) pd_10 rfl (k_initC l Z a0 hE a2 a10 [] h11 (X7.ext E14) ((D8 (Or.inr (w10 hw)) (ty := (.array .byte)) (by decide)).ext E14) ((D8 (Or.inr (w11 hw)) (ty := .byte) (by decide)).ext E14) A15 (by simp) (by simp)) (fun w q => by simp only [List.mem_cons, List.not_mem_nil, or_false] at q; subst q; exact ⟨(List.mem_cons_of_mem _ (List.mem_cons_self ..)), (Or.inr z4)⟩) (fun q => ⟨q, fun w q => by simp only [List.mem_cons, List.not_mem_nil, or_false] at q; subst q; exact z4⟩) rfl rfl (Nat.le_of_ble_eq_true rfl) (Nat.le_of_ble_eq_true rfl) (Nat.le_of_ble_eq_true rfl) (Nat.le_of_ble_eq_true rfl) d_method_2_11 rfl rfl (fun v h27 hq K28 => ?_)
    obtain ⟨rfl, t19, cd20, bs21, q22, q23, q24, q25, q26⟩ := hq
    show W B h27 6 12 (a10 :: a2 :: M) (true, []) 14 #[.val (.ref ch), .val (.int ((0 : Nat).toInt32))] [(.ref a2)]
    have E29 := ExtK (ExtT E6 E14) K28 (by simp; omega)
    have S1 : StrM Z h27 M a2 [] := ⟨t19, cd20, bs21, fun z => absurd (hM1 _ z) (by omega), fun z => q22 (List.mem_cons_of_mem _ (List.mem_cons_of_mem _ z)), ((X7.ext E14).keep K28), q23, q24, q25, q26⟩
    refine W.drop (M' := M) (fun x z => (List.mem_cons_of_mem _ (List.mem_cons_of_mem _ z))) ?_
    exact W.retA ok d_method_2_14 rfl rfl (Nat.le_of_ble_eq_true rfl) (Nat.le_of_ble_eq_true rfl) (fun x (q : x ∈ M) => q) (fun kp => ⟨a2, rfl, Nat.le_of_eq ea5, S1⟩)
  · refine W.iloadN ok (pc' := 1) d_method_2_0 rfl rfl ?_
    refine W.ifne ok (pcY := 15) (pcN := 4) d_method_2_1 rfl (by decide) rfl (fun q => absurd q (by decide)) (fun _ => ?_)
    refine W.iloadN ok (pc' := 16) d_method_2_15 rfl rfl ?_
    refine W.iconst ok (pc' := 17) (1 : Int32) d_method_2_16 rfl rfl ?_
    refine W.icmpne ok (pcY := 37) (pcN := 20) d_method_2_17 rfl (by decide) rfl (fun _ => ?_) (fun q => absurd (by decide) q)
    refine W.lt fun hM30 => ?_
    refine W.new ok (pc' := 23) (w62 hw) (w8 hw) (w7 hw) d_method_2_20 rfl (Nat.le_of_ble_eq_true rfl) (Nat.le_of_ble_eq_true rfl) (fun a31 h32 z33 ea34 E35 X36 D37 U38 => ?_)
    refine W.dup ok (pc' := 24) d_method_2_23 rfl rfl ?_
    refine W.iconst ok (pc' := 25) (1 : Int32) d_method_2_24 rfl rfl ?_
    refine W.newC ok (pc' := 27) (cap := 1) (w0 hw) (by decide) (by decide) (by decide) d_method_2_25 rfl (Nat.le_of_ble_eq_true rfl) (Nat.le_of_ble_eq_true rfl) (fun a39 h40 z41 ea42 E43 A44 => ?_)
    replace A44 := A44.cast (cs' := [0]) rfl
    have l45 := gtE X36
    have l46 := E35.1
    have l47 := E43.1
    refine W.dup ok (pc' := 28) d_method_2_27 rfl rfl ?_
    refine W.iconst ok (pc' := 29) (0 : Int32) d_method_2_28 rfl rfl ?_
    refine W.aloadN ok (pc' := 30) d_method_2_29 rfl rfl rfl ?_
    refine W.iconst ok (pc' := 31) (0 : Int32) d_method_2_30 rfl rfl ?_
    refine W.caload ok (pc' := 32) ((A.ext E35).ext E43) x0 (by decide) rfl d_method_2_31 rfl ?_
    refine W.castore ok (pc' := 33) (cl' := (true, [])) A44 (by decide) (Nat.le_of_ble_eq_true rfl) (List.mem_cons_self ..) (Or.inr z41) (fun q => ⟨q, z41⟩) rfl d_method_2_32 rfl (fun h48 Wr49 A50 => ?_)
    replace A50 := A50.cast (cs' := [x0]) (by rw [c16_of ⟨(hr x0 (by simp)).1, by have := (hr x0 (by simp)).2; omega⟩]; rfl)
    refine W.callI ok (rest := [(.ref a31)]) (cl' := (true, [])) (pc' := 36) rfl (w63 hw) (w64 hw) (w7 hw) (w65 hw) (by decide) pd_10 rfl (k_initC l Z a0 hE a31 a39 [x0] h48 ((X36.ext E43).wr Wr49) (((D37 (Or.inr (w10 hw)) (ty := (.array .byte)) (by decide)).ext E43).other Wr49 (Or.inl (ane (by omega)))) (((D37 (Or.inr (w11 hw)) (ty := .byte) (by decide)).ext E43).other Wr49 (Or.inl (ane (by omega)))) A50 (by simp) (by simp only [List.mem_cons, List.not_mem_nil, or_false]; exact fun c hc => (hr c (by rcases hc with rfl <;> simp)).2)) (fun w q => by simp only [List.mem_cons, List.not_mem_nil, or_false] at q; subst q; exact ⟨(List.mem_cons_of_mem _ (List.mem_cons_self ..)), (Or.inr z33)⟩) (fun q => ⟨q, fun w q => by simp only [List.mem_cons, List.not_mem_nil, or_false] at q; subst q; exact z33⟩) rfl rfl (Nat.le_of_ble_eq_true rfl) (Nat.le_of_ble_eq_true rfl) (Nat.le_of_ble_eq_true rfl) (Nat.le_of_ble_eq_true rfl) d_method_2_33 rfl rfl (fun v h59 hq K60 => ?_)
    obtain ⟨rfl, t51, cd52, bs53, q54, q55, q56, q57, q58⟩ := hq
    show W B h59 6 13 (a39 :: a31 :: M) (true, []) 36 #[.val (.ref ch), .val (.int ((1 : Nat).toInt32))] [(.ref a31)]
    have E61 := ExtK (ExtW (ExtT E35 E43) Wr49 (by omega)) K60 (by simp; omega)
    have S1 : StrM Z h59 M a31 [x0] := ⟨t51, cd52, bs53, fun z => absurd (hM30 _ z) (by omega), fun z => q54 (List.mem_cons_of_mem _ (List.mem_cons_of_mem _ z)), (((X36.ext E43).wr Wr49).keep K60), q55, q56, q57, q58⟩
    refine W.drop (M' := M) (fun x z => (List.mem_cons_of_mem _ (List.mem_cons_of_mem _ z))) ?_
    exact W.retA ok d_method_2_36 rfl rfl (Nat.le_of_ble_eq_true rfl) (Nat.le_of_ble_eq_true rfl) (fun x (q : x ∈ M) => q) (fun kp => ⟨a31, rfl, Nat.le_of_eq ea34, S1⟩)
  · refine W.iloadN ok (pc' := 1) d_method_2_0 rfl rfl ?_
    refine W.ifne ok (pcY := 15) (pcN := 4) d_method_2_1 rfl (by decide) rfl (fun q => absurd q (by decide)) (fun _ => ?_)
    refine W.iloadN ok (pc' := 16) d_method_2_15 rfl rfl ?_
    refine W.iconst ok (pc' := 17) (1 : Int32) d_method_2_16 rfl rfl ?_
    refine W.icmpne ok (pcY := 37) (pcN := 20) d_method_2_17 rfl (by decide) rfl (fun q => absurd q (by decide)) (fun _ => ?_)
    refine W.iloadN ok (pc' := 38) d_method_2_37 rfl rfl ?_
    refine W.iconst ok (pc' := 39) (2 : Int32) d_method_2_38 rfl rfl ?_
    refine W.icmpne ok (pcY := 65) (pcN := 42) d_method_2_39 rfl (by decide) rfl (fun _ => ?_) (fun q => absurd (by decide) q)
    refine W.lt fun hM62 => ?_
    refine W.new ok (pc' := 45) (w62 hw) (w8 hw) (w7 hw) d_method_2_42 rfl (Nat.le_of_ble_eq_true rfl) (Nat.le_of_ble_eq_true rfl) (fun a63 h64 z65 ea66 E67 X68 D69 U70 => ?_)
    refine W.dup ok (pc' := 46) d_method_2_45 rfl rfl ?_
    refine W.iconst ok (pc' := 47) (2 : Int32) d_method_2_46 rfl rfl ?_
    refine W.newC ok (pc' := 49) (cap := 2) (w0 hw) (by decide) (by decide) (by decide) d_method_2_47 rfl (Nat.le_of_ble_eq_true rfl) (Nat.le_of_ble_eq_true rfl) (fun a71 h72 z73 ea74 E75 A76 => ?_)
    replace A76 := A76.cast (cs' := [0, 0]) rfl
    have l77 := gtE X68
    have l78 := E67.1
    have l79 := E75.1
    refine W.dup ok (pc' := 50) d_method_2_49 rfl rfl ?_
    refine W.iconst ok (pc' := 51) (0 : Int32) d_method_2_50 rfl rfl ?_
    refine W.aloadN ok (pc' := 52) d_method_2_51 rfl rfl rfl ?_
    refine W.iconst ok (pc' := 53) (0 : Int32) d_method_2_52 rfl rfl ?_
    refine W.caload ok (pc' := 54) ((A.ext E67).ext E75) x0 (by decide) rfl d_method_2_53 rfl ?_
    refine W.castore ok (pc' := 55) (cl' := (true, [])) A76 (by decide) (Nat.le_of_ble_eq_true rfl) (List.mem_cons_self ..) (Or.inr z73) (fun q => ⟨q, z73⟩) rfl d_method_2_54 rfl (fun h80 Wr81 A82 => ?_)
    replace A82 := A82.cast (cs' := [x0, 0]) (by rw [c16_of ⟨(hr x0 (by simp)).1, by have := (hr x0 (by simp)).2; omega⟩]; rfl)
    refine W.dup ok (pc' := 56) d_method_2_55 rfl rfl ?_
    refine W.iconst ok (pc' := 57) (1 : Int32) d_method_2_56 rfl rfl ?_
    refine W.aloadN ok (pc' := 58) d_method_2_57 rfl rfl rfl ?_
    refine W.iconst ok (pc' := 59) (1 : Int32) d_method_2_58 rfl rfl ?_
    refine W.caload ok (pc' := 60) (((A.ext E67).ext E75).other Wr81 (ane (by omega))) x1 (by decide) rfl d_method_2_59 rfl ?_
    refine W.castore ok (pc' := 61) (cl' := (true, [])) A82 (by decide) (Nat.le_of_ble_eq_true rfl) (List.mem_cons_self ..) (Or.inr z73) (fun q => ⟨q, z73⟩) rfl d_method_2_60 rfl (fun h83 Wr84 A85 => ?_)
    replace A85 := A85.cast (cs' := [x0, x1]) (by rw [c16_of ⟨(hr x1 (by simp)).1, by have := (hr x1 (by simp)).2; omega⟩]; rfl)
    refine W.callI ok (rest := [(.ref a63)]) (cl' := (true, [])) (pc' := 64) rfl (w63 hw) (w64 hw) (w7 hw) (w65 hw) (by decide) pd_10 rfl (k_initC l Z a0 hE a63 a71 [x0, x1] h83 (((X68.ext E75).wr Wr81).wr Wr84) ((((D69 (Or.inr (w10 hw)) (ty := (.array .byte)) (by decide)).ext E75).other Wr81 (Or.inl (ane (by omega)))).other Wr84 (Or.inl (ane (by omega)))) ((((D69 (Or.inr (w11 hw)) (ty := .byte) (by decide)).ext E75).other Wr81 (Or.inl (ane (by omega)))).other Wr84 (Or.inl (ane (by omega)))) A85 (by simp) (by simp only [List.mem_cons, List.not_mem_nil, or_false]; exact fun c hc => (hr c (by rcases hc with rfl | rfl <;> simp)).2)) (fun w q => by simp only [List.mem_cons, List.not_mem_nil, or_false] at q; subst q; exact ⟨(List.mem_cons_of_mem _ (List.mem_cons_self ..)), (Or.inr z65)⟩) (fun q => ⟨q, fun w q => by simp only [List.mem_cons, List.not_mem_nil, or_false] at q; subst q; exact z65⟩) rfl rfl (Nat.le_of_ble_eq_true rfl) (Nat.le_of_ble_eq_true rfl) (Nat.le_of_ble_eq_true rfl) (Nat.le_of_ble_eq_true rfl) d_method_2_61 rfl rfl (fun v h94 hq K95 => ?_)
    obtain ⟨rfl, t86, cd87, bs88, q89, q90, q91, q92, q93⟩ := hq
    show W B h94 6 14 (a71 :: a63 :: M) (true, []) 64 #[.val (.ref ch), .val (.int ((2 : Nat).toInt32))] [(.ref a63)]
    have E96 := ExtK (ExtW (ExtW (ExtT E67 E75) Wr81 (by omega)) Wr84 (by omega)) K95 (by simp; omega)
    have S1 : StrM Z h94 M a63 [x0, x1] := ⟨t86, cd87, bs88, fun z => absurd (hM62 _ z) (by omega), fun z => q89 (List.mem_cons_of_mem _ (List.mem_cons_of_mem _ z)), ((((X68.ext E75).wr Wr81).wr Wr84).keep K95), q90, q91, q92, q93⟩
    refine W.drop (M' := M) (fun x z => (List.mem_cons_of_mem _ (List.mem_cons_of_mem _ z))) ?_
    exact W.retA ok d_method_2_64 rfl rfl (Nat.le_of_ble_eq_true rfl) (Nat.le_of_ble_eq_true rfl) (fun x (q : x ∈ M) => q) (fun kp => ⟨a63, rfl, Nat.le_of_eq ea66, S1⟩)
  · refine W.iloadN ok (pc' := 1) d_method_2_0 rfl rfl ?_
    refine W.ifne ok (pcY := 15) (pcN := 4) d_method_2_1 rfl (by decide) rfl (fun q => absurd q (by decide)) (fun _ => ?_)
    refine W.iloadN ok (pc' := 16) d_method_2_15 rfl rfl ?_
    refine W.iconst ok (pc' := 17) (1 : Int32) d_method_2_16 rfl rfl ?_
    refine W.icmpne ok (pcY := 37) (pcN := 20) d_method_2_17 rfl (by decide) rfl (fun q => absurd q (by decide)) (fun _ => ?_)
    refine W.iloadN ok (pc' := 38) d_method_2_37 rfl rfl ?_
    refine W.iconst ok (pc' := 39) (2 : Int32) d_method_2_38 rfl rfl ?_
    refine W.icmpne ok (pcY := 65) (pcN := 42) d_method_2_39 rfl (by decide) rfl (fun q => absurd q (by decide)) (fun _ => ?_)
    refine W.iloadN ok (pc' := 66) d_method_2_65 rfl rfl ?_
    refine W.iconst ok (pc' := 67) (3 : Int32) d_method_2_66 rfl rfl ?_
    refine W.icmpne ok (pcY := 99) (pcN := 70) d_method_2_67 rfl (by decide) rfl (fun _ => ?_) (fun q => absurd (by decide) q)
    refine W.lt fun hM97 => ?_
    refine W.new ok (pc' := 73) (w62 hw) (w8 hw) (w7 hw) d_method_2_70 rfl (Nat.le_of_ble_eq_true rfl) (Nat.le_of_ble_eq_true rfl) (fun a98 h99 z100 ea101 E102 X103 D104 U105 => ?_)
    refine W.dup ok (pc' := 74) d_method_2_73 rfl rfl ?_
    refine W.iconst ok (pc' := 75) (3 : Int32) d_method_2_74 rfl rfl ?_
    refine W.newC ok (pc' := 77) (cap := 3) (w0 hw) (by decide) (by decide) (by decide) d_method_2_75 rfl (Nat.le_of_ble_eq_true rfl) (Nat.le_of_ble_eq_true rfl) (fun a106 h107 z108 ea109 E110 A111 => ?_)
    replace A111 := A111.cast (cs' := [0, 0, 0]) rfl
    have l112 := gtE X103
    have l113 := E102.1
    have l114 := E110.1
    refine W.dup ok (pc' := 78) d_method_2_77 rfl rfl ?_
    refine W.iconst ok (pc' := 79) (0 : Int32) d_method_2_78 rfl rfl ?_
    refine W.aloadN ok (pc' := 80) d_method_2_79 rfl rfl rfl ?_
    refine W.iconst ok (pc' := 81) (0 : Int32) d_method_2_80 rfl rfl ?_
    refine W.caload ok (pc' := 82) ((A.ext E102).ext E110) x0 (by decide) rfl d_method_2_81 rfl ?_
    refine W.castore ok (pc' := 83) (cl' := (true, [])) A111 (by decide) (Nat.le_of_ble_eq_true rfl) (List.mem_cons_self ..) (Or.inr z108) (fun q => ⟨q, z108⟩) rfl d_method_2_82 rfl (fun h115 Wr116 A117 => ?_)
    replace A117 := A117.cast (cs' := [x0, 0, 0]) (by rw [c16_of ⟨(hr x0 (by simp)).1, by have := (hr x0 (by simp)).2; omega⟩]; rfl)
    refine W.dup ok (pc' := 84) d_method_2_83 rfl rfl ?_
    refine W.iconst ok (pc' := 85) (1 : Int32) d_method_2_84 rfl rfl ?_
    refine W.aloadN ok (pc' := 86) d_method_2_85 rfl rfl rfl ?_
    refine W.iconst ok (pc' := 87) (1 : Int32) d_method_2_86 rfl rfl ?_
    refine W.caload ok (pc' := 88) (((A.ext E102).ext E110).other Wr116 (ane (by omega))) x1 (by decide) rfl d_method_2_87 rfl ?_
    refine W.castore ok (pc' := 89) (cl' := (true, [])) A117 (by decide) (Nat.le_of_ble_eq_true rfl) (List.mem_cons_self ..) (Or.inr z108) (fun q => ⟨q, z108⟩) rfl d_method_2_88 rfl (fun h118 Wr119 A120 => ?_)
    replace A120 := A120.cast (cs' := [x0, x1, 0]) (by rw [c16_of ⟨(hr x1 (by simp)).1, by have := (hr x1 (by simp)).2; omega⟩]; rfl)
    refine W.dup ok (pc' := 90) d_method_2_89 rfl rfl ?_
    refine W.iconst ok (pc' := 91) (2 : Int32) d_method_2_90 rfl rfl ?_
    refine W.aloadN ok (pc' := 92) d_method_2_91 rfl rfl rfl ?_
    refine W.iconst ok (pc' := 93) (2 : Int32) d_method_2_92 rfl rfl ?_
    refine W.caload ok (pc' := 94) ((((A.ext E102).ext E110).other Wr116 (ane (by omega))).other Wr119 (ane (by omega))) x2 (by decide) rfl d_method_2_93 rfl ?_
    refine W.castore ok (pc' := 95) (cl' := (true, [])) A120 (by decide) (Nat.le_of_ble_eq_true rfl) (List.mem_cons_self ..) (Or.inr z108) (fun q => ⟨q, z108⟩) rfl d_method_2_94 rfl (fun h121 Wr122 A123 => ?_)
    replace A123 := A123.cast (cs' := [x0, x1, x2]) (by rw [c16_of ⟨(hr x2 (by simp)).1, by have := (hr x2 (by simp)).2; omega⟩]; rfl)
    refine W.callI ok (rest := [(.ref a98)]) (cl' := (true, [])) (pc' := 98) rfl (w63 hw) (w64 hw) (w7 hw) (w65 hw) (by decide) pd_10 rfl (k_initC l Z a0 hE a98 a106 [x0, x1, x2] h121 ((((X103.ext E110).wr Wr116).wr Wr119).wr Wr122) (((((D104 (Or.inr (w10 hw)) (ty := (.array .byte)) (by decide)).ext E110).other Wr116 (Or.inl (ane (by omega)))).other Wr119 (Or.inl (ane (by omega)))).other Wr122 (Or.inl (ane (by omega)))) (((((D104 (Or.inr (w11 hw)) (ty := .byte) (by decide)).ext E110).other Wr116 (Or.inl (ane (by omega)))).other Wr119 (Or.inl (ane (by omega)))).other Wr122 (Or.inl (ane (by omega)))) A123 (by simp) (by simp only [List.mem_cons, List.not_mem_nil, or_false]; exact fun c hc => (hr c (by rcases hc with rfl | rfl | rfl <;> simp)).2)) (fun w q => by simp only [List.mem_cons, List.not_mem_nil, or_false] at q; subst q; exact ⟨(List.mem_cons_of_mem _ (List.mem_cons_self ..)), (Or.inr z100)⟩) (fun q => ⟨q, fun w q => by simp only [List.mem_cons, List.not_mem_nil, or_false] at q; subst q; exact z100⟩) rfl rfl (Nat.le_of_ble_eq_true rfl) (Nat.le_of_ble_eq_true rfl) (Nat.le_of_ble_eq_true rfl) (Nat.le_of_ble_eq_true rfl) d_method_2_95 rfl rfl (fun v h132 hq K133 => ?_)
    obtain ⟨rfl, t124, cd125, bs126, q127, q128, q129, q130, q131⟩ := hq
    show W B h132 6 15 (a106 :: a98 :: M) (true, []) 98 #[.val (.ref ch), .val (.int ((3 : Nat).toInt32))] [(.ref a98)]
    have E134 := ExtK (ExtW (ExtW (ExtW (ExtT E102 E110) Wr116 (by omega)) Wr119 (by omega)) Wr122 (by omega)) K133 (by simp; omega)
    have S1 : StrM Z h132 M a98 [x0, x1, x2] := ⟨t124, cd125, bs126, fun z => absurd (hM97 _ z) (by omega), fun z => q127 (List.mem_cons_of_mem _ (List.mem_cons_of_mem _ z)), (((((X103.ext E110).wr Wr116).wr Wr119).wr Wr122).keep K133), q128, q129, q130, q131⟩
    refine W.drop (M' := M) (fun x z => (List.mem_cons_of_mem _ (List.mem_cons_of_mem _ z))) ?_
    exact W.retA ok d_method_2_98 rfl rfl (Nat.le_of_ble_eq_true rfl) (Nat.le_of_ble_eq_true rfl) (fun x (q : x ∈ M) => q) (fun kp => ⟨a98, rfl, Nat.le_of_eq ea101, S1⟩)
  · refine W.iloadN ok (pc' := 1) d_method_2_0 rfl rfl ?_
    refine W.ifne ok (pcY := 15) (pcN := 4) d_method_2_1 rfl (by decide) rfl (fun q => absurd q (by decide)) (fun _ => ?_)
    refine W.iloadN ok (pc' := 16) d_method_2_15 rfl rfl ?_
    refine W.iconst ok (pc' := 17) (1 : Int32) d_method_2_16 rfl rfl ?_
    refine W.icmpne ok (pcY := 37) (pcN := 20) d_method_2_17 rfl (by decide) rfl (fun q => absurd q (by decide)) (fun _ => ?_)
    refine W.iloadN ok (pc' := 38) d_method_2_37 rfl rfl ?_
    refine W.iconst ok (pc' := 39) (2 : Int32) d_method_2_38 rfl rfl ?_
    refine W.icmpne ok (pcY := 65) (pcN := 42) d_method_2_39 rfl (by decide) rfl (fun q => absurd q (by decide)) (fun _ => ?_)
    refine W.iloadN ok (pc' := 66) d_method_2_65 rfl rfl ?_
    refine W.iconst ok (pc' := 67) (3 : Int32) d_method_2_66 rfl rfl ?_
    refine W.icmpne ok (pcY := 99) (pcN := 70) d_method_2_67 rfl (by decide) rfl (fun q => absurd q (by decide)) (fun _ => ?_)
    refine W.iloadN ok (pc' := 100) d_method_2_99 rfl rfl ?_
    refine W.iconst ok (pc' := 101) (4 : Int32) d_method_2_100 rfl rfl ?_
    refine W.icmpne ok (pcY := 139) (pcN := 104) d_method_2_101 rfl (by decide) rfl (fun _ => ?_) (fun q => absurd (by decide) q)
    refine W.lt fun hM135 => ?_
    refine W.new ok (pc' := 107) (w62 hw) (w8 hw) (w7 hw) d_method_2_104 rfl (Nat.le_of_ble_eq_true rfl) (Nat.le_of_ble_eq_true rfl) (fun a136 h137 z138 ea139 E140 X141 D142 U143 => ?_)
    refine W.dup ok (pc' := 108) d_method_2_107 rfl rfl ?_
    refine W.iconst ok (pc' := 109) (4 : Int32) d_method_2_108 rfl rfl ?_
    refine W.newC ok (pc' := 111) (cap := 4) (w0 hw) (by decide) (by decide) (by decide) d_method_2_109 rfl (Nat.le_of_ble_eq_true rfl) (Nat.le_of_ble_eq_true rfl) (fun a144 h145 z146 ea147 E148 A149 => ?_)
    replace A149 := A149.cast (cs' := [0, 0, 0, 0]) rfl
    have l150 := gtE X141
    have l151 := E140.1
    have l152 := E148.1
    refine W.dup ok (pc' := 112) d_method_2_111 rfl rfl ?_
    refine W.iconst ok (pc' := 113) (0 : Int32) d_method_2_112 rfl rfl ?_
    refine W.aloadN ok (pc' := 114) d_method_2_113 rfl rfl rfl ?_
    refine W.iconst ok (pc' := 115) (0 : Int32) d_method_2_114 rfl rfl ?_
    refine W.caload ok (pc' := 116) ((A.ext E140).ext E148) x0 (by decide) rfl d_method_2_115 rfl ?_
    refine W.castore ok (pc' := 117) (cl' := (true, [])) A149 (by decide) (Nat.le_of_ble_eq_true rfl) (List.mem_cons_self ..) (Or.inr z146) (fun q => ⟨q, z146⟩) rfl d_method_2_116 rfl (fun h153 Wr154 A155 => ?_)
    replace A155 := A155.cast (cs' := [x0, 0, 0, 0]) (by rw [c16_of ⟨(hr x0 (by simp)).1, by have := (hr x0 (by simp)).2; omega⟩]; rfl)
    refine W.dup ok (pc' := 118) d_method_2_117 rfl rfl ?_
    refine W.iconst ok (pc' := 119) (1 : Int32) d_method_2_118 rfl rfl ?_
    refine W.aloadN ok (pc' := 120) d_method_2_119 rfl rfl rfl ?_
    refine W.iconst ok (pc' := 121) (1 : Int32) d_method_2_120 rfl rfl ?_
    refine W.caload ok (pc' := 122) (((A.ext E140).ext E148).other Wr154 (ane (by omega))) x1 (by decide) rfl d_method_2_121 rfl ?_
    refine W.castore ok (pc' := 123) (cl' := (true, [])) A155 (by decide) (Nat.le_of_ble_eq_true rfl) (List.mem_cons_self ..) (Or.inr z146) (fun q => ⟨q, z146⟩) rfl d_method_2_122 rfl (fun h156 Wr157 A158 => ?_)
    replace A158 := A158.cast (cs' := [x0, x1, 0, 0]) (by rw [c16_of ⟨(hr x1 (by simp)).1, by have := (hr x1 (by simp)).2; omega⟩]; rfl)
    refine W.dup ok (pc' := 124) d_method_2_123 rfl rfl ?_
    refine W.iconst ok (pc' := 125) (2 : Int32) d_method_2_124 rfl rfl ?_
    refine W.aloadN ok (pc' := 126) d_method_2_125 rfl rfl rfl ?_
    refine W.iconst ok (pc' := 127) (2 : Int32) d_method_2_126 rfl rfl ?_
    refine W.caload ok (pc' := 128) ((((A.ext E140).ext E148).other Wr154 (ane (by omega))).other Wr157 (ane (by omega))) x2 (by decide) rfl d_method_2_127 rfl ?_
    refine W.castore ok (pc' := 129) (cl' := (true, [])) A158 (by decide) (Nat.le_of_ble_eq_true rfl) (List.mem_cons_self ..) (Or.inr z146) (fun q => ⟨q, z146⟩) rfl d_method_2_128 rfl (fun h159 Wr160 A161 => ?_)
    replace A161 := A161.cast (cs' := [x0, x1, x2, 0]) (by rw [c16_of ⟨(hr x2 (by simp)).1, by have := (hr x2 (by simp)).2; omega⟩]; rfl)
    refine W.dup ok (pc' := 130) d_method_2_129 rfl rfl ?_
    refine W.iconst ok (pc' := 131) (3 : Int32) d_method_2_130 rfl rfl ?_
    refine W.aloadN ok (pc' := 132) d_method_2_131 rfl rfl rfl ?_
    refine W.iconst ok (pc' := 133) (3 : Int32) d_method_2_132 rfl rfl ?_
    refine W.caload ok (pc' := 134) (((((A.ext E140).ext E148).other Wr154 (ane (by omega))).other Wr157 (ane (by omega))).other Wr160 (ane (by omega))) x3 (by decide) rfl d_method_2_133 rfl ?_
    refine W.castore ok (pc' := 135) (cl' := (true, [])) A161 (by decide) (Nat.le_of_ble_eq_true rfl) (List.mem_cons_self ..) (Or.inr z146) (fun q => ⟨q, z146⟩) rfl d_method_2_134 rfl (fun h162 Wr163 A164 => ?_)
    replace A164 := A164.cast (cs' := [x0, x1, x2, x3]) (by rw [c16_of ⟨(hr x3 (by simp)).1, by have := (hr x3 (by simp)).2; omega⟩]; rfl)
    refine W.callI ok (rest := [(.ref a136)]) (cl' := (true, [])) (pc' := 138) rfl (w63 hw) (w64 hw) (w7 hw) (w65 hw) (by decide) pd_10 rfl (k_initC l Z a0 hE a136 a144 [x0, x1, x2, x3] h162 (((((X141.ext E148).wr Wr154).wr Wr157).wr Wr160).wr Wr163) ((((((D142 (Or.inr (w10 hw)) (ty := (.array .byte)) (by decide)).ext E148).other Wr154 (Or.inl (ane (by omega)))).other Wr157 (Or.inl (ane (by omega)))).other Wr160 (Or.inl (ane (by omega)))).other Wr163 (Or.inl (ane (by omega)))) ((((((D142 (Or.inr (w11 hw)) (ty := .byte) (by decide)).ext E148).other Wr154 (Or.inl (ane (by omega)))).other Wr157 (Or.inl (ane (by omega)))).other Wr160 (Or.inl (ane (by omega)))).other Wr163 (Or.inl (ane (by omega)))) A164 (by simp) (by simp only [List.mem_cons, List.not_mem_nil, or_false]; exact fun c hc => (hr c (by rcases hc with rfl | rfl | rfl | rfl <;> simp)).2)) (fun w q => by simp only [List.mem_cons, List.not_mem_nil, or_false] at q; subst q; exact ⟨(List.mem_cons_of_mem _ (List.mem_cons_self ..)), (Or.inr z138)⟩) (fun q => ⟨q, fun w q => by simp only [List.mem_cons, List.not_mem_nil, or_false] at q; subst q; exact z138⟩) rfl rfl (Nat.le_of_ble_eq_true rfl) (Nat.le_of_ble_eq_true rfl) (Nat.le_of_ble_eq_true rfl) (Nat.le_of_ble_eq_true rfl) d_method_2_135 rfl rfl (fun v h173 hq K174 => ?_)
    obtain ⟨rfl, t165, cd166, bs167, q168, q169, q170, q171, q172⟩ := hq
    show W B h173 6 16 (a144 :: a136 :: M) (true, []) 138 #[.val (.ref ch), .val (.int ((4 : Nat).toInt32))] [(.ref a136)]
    have E175 := ExtK (ExtW (ExtW (ExtW (ExtW (ExtT E140 E148) Wr154 (by omega)) Wr157 (by omega)) Wr160 (by omega)) Wr163 (by omega)) K174 (by simp; omega)
    have S1 : StrM Z h173 M a136 [x0, x1, x2, x3] := ⟨t165, cd166, bs167, fun z => absurd (hM135 _ z) (by omega), fun z => q168 (List.mem_cons_of_mem _ (List.mem_cons_of_mem _ z)), ((((((X141.ext E148).wr Wr154).wr Wr157).wr Wr160).wr Wr163).keep K174), q169, q170, q171, q172⟩
    refine W.drop (M' := M) (fun x z => (List.mem_cons_of_mem _ (List.mem_cons_of_mem _ z))) ?_
    exact W.retA ok d_method_2_138 rfl rfl (Nat.le_of_ble_eq_true rfl) (Nat.le_of_ble_eq_true rfl) (fun x (q : x ∈ M) => q) (fun kp => ⟨a136, rfl, Nat.le_of_eq ea139, S1⟩)
  · refine W.iloadN ok (pc' := 1) d_method_2_0 rfl rfl ?_
    refine W.ifne ok (pcY := 15) (pcN := 4) d_method_2_1 rfl (by decide) rfl (fun q => absurd q (by decide)) (fun _ => ?_)
    refine W.iloadN ok (pc' := 16) d_method_2_15 rfl rfl ?_
    refine W.iconst ok (pc' := 17) (1 : Int32) d_method_2_16 rfl rfl ?_
    refine W.icmpne ok (pcY := 37) (pcN := 20) d_method_2_17 rfl (by decide) rfl (fun q => absurd q (by decide)) (fun _ => ?_)
    refine W.iloadN ok (pc' := 38) d_method_2_37 rfl rfl ?_
    refine W.iconst ok (pc' := 39) (2 : Int32) d_method_2_38 rfl rfl ?_
    refine W.icmpne ok (pcY := 65) (pcN := 42) d_method_2_39 rfl (by decide) rfl (fun q => absurd q (by decide)) (fun _ => ?_)
    refine W.iloadN ok (pc' := 66) d_method_2_65 rfl rfl ?_
    refine W.iconst ok (pc' := 67) (3 : Int32) d_method_2_66 rfl rfl ?_
    refine W.icmpne ok (pcY := 99) (pcN := 70) d_method_2_67 rfl (by decide) rfl (fun q => absurd q (by decide)) (fun _ => ?_)
    refine W.iloadN ok (pc' := 100) d_method_2_99 rfl rfl ?_
    refine W.iconst ok (pc' := 101) (4 : Int32) d_method_2_100 rfl rfl ?_
    refine W.icmpne ok (pcY := 139) (pcN := 104) d_method_2_101 rfl (by decide) rfl (fun q => absurd q (by decide)) (fun _ => ?_)
    refine W.lt fun hM176 => ?_
    refine W.new ok (pc' := 142) (w62 hw) (w8 hw) (w7 hw) d_method_2_139 rfl (Nat.le_of_ble_eq_true rfl) (Nat.le_of_ble_eq_true rfl) (fun a177 h178 z179 ea180 E181 X182 D183 U184 => ?_)
    refine W.dup ok (pc' := 143) d_method_2_142 rfl rfl ?_
    refine W.iconst ok (pc' := 144) (5 : Int32) d_method_2_143 rfl rfl ?_
    refine W.newC ok (pc' := 146) (cap := 5) (w0 hw) (by decide) (by decide) (by decide) d_method_2_144 rfl (Nat.le_of_ble_eq_true rfl) (Nat.le_of_ble_eq_true rfl) (fun a185 h186 z187 ea188 E189 A190 => ?_)
    replace A190 := A190.cast (cs' := [0, 0, 0, 0, 0]) rfl
    have l191 := gtE X182
    have l192 := E181.1
    have l193 := E189.1
    refine W.dup ok (pc' := 147) d_method_2_146 rfl rfl ?_
    refine W.iconst ok (pc' := 148) (0 : Int32) d_method_2_147 rfl rfl ?_
    refine W.aloadN ok (pc' := 149) d_method_2_148 rfl rfl rfl ?_
    refine W.iconst ok (pc' := 150) (0 : Int32) d_method_2_149 rfl rfl ?_
    refine W.caload ok (pc' := 151) ((A.ext E181).ext E189) x0 (by decide) rfl d_method_2_150 rfl ?_
    refine W.castore ok (pc' := 152) (cl' := (true, [])) A190 (by decide) (Nat.le_of_ble_eq_true rfl) (List.mem_cons_self ..) (Or.inr z187) (fun q => ⟨q, z187⟩) rfl d_method_2_151 rfl (fun h194 Wr195 A196 => ?_)
    replace A196 := A196.cast (cs' := [x0, 0, 0, 0, 0]) (by rw [c16_of ⟨(hr x0 (by simp)).1, by have := (hr x0 (by simp)).2; omega⟩]; rfl)
    refine W.dup ok (pc' := 153) d_method_2_152 rfl rfl ?_
    refine W.iconst ok (pc' := 154) (1 : Int32) d_method_2_153 rfl rfl ?_
    refine W.aloadN ok (pc' := 155) d_method_2_154 rfl rfl rfl ?_
    refine W.iconst ok (pc' := 156) (1 : Int32) d_method_2_155 rfl rfl ?_
    refine W.caload ok (pc' := 157) (((A.ext E181).ext E189).other Wr195 (ane (by omega))) x1 (by decide) rfl d_method_2_156 rfl ?_
    refine W.castore ok (pc' := 158) (cl' := (true, [])) A196 (by decide) (Nat.le_of_ble_eq_true rfl) (List.mem_cons_self ..) (Or.inr z187) (fun q => ⟨q, z187⟩) rfl d_method_2_157 rfl (fun h197 Wr198 A199 => ?_)
    replace A199 := A199.cast (cs' := [x0, x1, 0, 0, 0]) (by rw [c16_of ⟨(hr x1 (by simp)).1, by have := (hr x1 (by simp)).2; omega⟩]; rfl)
    refine W.dup ok (pc' := 159) d_method_2_158 rfl rfl ?_
    refine W.iconst ok (pc' := 160) (2 : Int32) d_method_2_159 rfl rfl ?_
    refine W.aloadN ok (pc' := 161) d_method_2_160 rfl rfl rfl ?_
    refine W.iconst ok (pc' := 162) (2 : Int32) d_method_2_161 rfl rfl ?_
    refine W.caload ok (pc' := 163) ((((A.ext E181).ext E189).other Wr195 (ane (by omega))).other Wr198 (ane (by omega))) x2 (by decide) rfl d_method_2_162 rfl ?_
    refine W.castore ok (pc' := 164) (cl' := (true, [])) A199 (by decide) (Nat.le_of_ble_eq_true rfl) (List.mem_cons_self ..) (Or.inr z187) (fun q => ⟨q, z187⟩) rfl d_method_2_163 rfl (fun h200 Wr201 A202 => ?_)
    replace A202 := A202.cast (cs' := [x0, x1, x2, 0, 0]) (by rw [c16_of ⟨(hr x2 (by simp)).1, by have := (hr x2 (by simp)).2; omega⟩]; rfl)
    refine W.dup ok (pc' := 165) d_method_2_164 rfl rfl ?_
    refine W.iconst ok (pc' := 166) (3 : Int32) d_method_2_165 rfl rfl ?_
    refine W.aloadN ok (pc' := 167) d_method_2_166 rfl rfl rfl ?_
    refine W.iconst ok (pc' := 168) (3 : Int32) d_method_2_167 rfl rfl ?_
    refine W.caload ok (pc' := 169) (((((A.ext E181).ext E189).other Wr195 (ane (by omega))).other Wr198 (ane (by omega))).other Wr201 (ane (by omega))) x3 (by decide) rfl d_method_2_168 rfl ?_
    refine W.castore ok (pc' := 170) (cl' := (true, [])) A202 (by decide) (Nat.le_of_ble_eq_true rfl) (List.mem_cons_self ..) (Or.inr z187) (fun q => ⟨q, z187⟩) rfl d_method_2_169 rfl (fun h203 Wr204 A205 => ?_)
    replace A205 := A205.cast (cs' := [x0, x1, x2, x3, 0]) (by rw [c16_of ⟨(hr x3 (by simp)).1, by have := (hr x3 (by simp)).2; omega⟩]; rfl)
    refine W.dup ok (pc' := 171) d_method_2_170 rfl rfl ?_
    refine W.iconst ok (pc' := 172) (4 : Int32) d_method_2_171 rfl rfl ?_
    refine W.aloadN ok (pc' := 173) d_method_2_172 rfl rfl rfl ?_
    refine W.iconst ok (pc' := 174) (4 : Int32) d_method_2_173 rfl rfl ?_
    refine W.caload ok (pc' := 175) ((((((A.ext E181).ext E189).other Wr195 (ane (by omega))).other Wr198 (ane (by omega))).other Wr201 (ane (by omega))).other Wr204 (ane (by omega))) x4 (by decide) rfl d_method_2_174 rfl ?_
    refine W.castore ok (pc' := 176) (cl' := (true, [])) A205 (by decide) (Nat.le_of_ble_eq_true rfl) (List.mem_cons_self ..) (Or.inr z187) (fun q => ⟨q, z187⟩) rfl d_method_2_175 rfl (fun h206 Wr207 A208 => ?_)
    replace A208 := A208.cast (cs' := [x0, x1, x2, x3, x4]) (by rw [c16_of ⟨(hr x4 (by simp)).1, by have := (hr x4 (by simp)).2; omega⟩]; rfl)
    refine W.callI ok (rest := [(.ref a177)]) (cl' := (true, [])) (pc' := 179) rfl (w63 hw) (w64 hw) (w7 hw) (w65 hw) (by decide) pd_10 rfl (k_initC l Z a0 hE a177 a185 [x0, x1, x2, x3, x4] h206 ((((((X182.ext E189).wr Wr195).wr Wr198).wr Wr201).wr Wr204).wr Wr207) (((((((D183 (Or.inr (w10 hw)) (ty := (.array .byte)) (by decide)).ext E189).other Wr195 (Or.inl (ane (by omega)))).other Wr198 (Or.inl (ane (by omega)))).other Wr201 (Or.inl (ane (by omega)))).other Wr204 (Or.inl (ane (by omega)))).other Wr207 (Or.inl (ane (by omega)))) (((((((D183 (Or.inr (w11 hw)) (ty := .byte) (by decide)).ext E189).other Wr195 (Or.inl (ane (by omega)))).other Wr198 (Or.inl (ane (by omega)))).other Wr201 (Or.inl (ane (by omega)))).other Wr204 (Or.inl (ane (by omega)))).other Wr207 (Or.inl (ane (by omega)))) A208 (by simp) (by simp only [List.mem_cons, List.not_mem_nil, or_false]; exact fun c hc => (hr c (by rcases hc with rfl | rfl | rfl | rfl | rfl <;> simp)).2)) (fun w q => by simp only [List.mem_cons, List.not_mem_nil, or_false] at q; subst q; exact ⟨(List.mem_cons_of_mem _ (List.mem_cons_self ..)), (Or.inr z179)⟩) (fun q => ⟨q, fun w q => by simp only [List.mem_cons, List.not_mem_nil, or_false] at q; subst q; exact z179⟩) rfl rfl (Nat.le_of_ble_eq_true rfl) (Nat.le_of_ble_eq_true rfl) (Nat.le_of_ble_eq_true rfl) (Nat.le_of_ble_eq_true rfl) d_method_2_176 rfl rfl (fun v h217 hq K218 => ?_)
    obtain ⟨rfl, t209, cd210, bs211, q212, q213, q214, q215, q216⟩ := hq
    show W B h217 6 17 (a185 :: a177 :: M) (true, []) 179 #[.val (.ref ch), .val (.int ((5 : Nat).toInt32))] [(.ref a177)]
    have E219 := ExtK (ExtW (ExtW (ExtW (ExtW (ExtW (ExtT E181 E189) Wr195 (by omega)) Wr198 (by omega)) Wr201 (by omega)) Wr204 (by omega)) Wr207 (by omega)) K218 (by simp; omega)
    have S1 : StrM Z h217 M a177 [x0, x1, x2, x3, x4] := ⟨t209, cd210, bs211, fun z => absurd (hM176 _ z) (by omega), fun z => q212 (List.mem_cons_of_mem _ (List.mem_cons_of_mem _ z)), (((((((X182.ext E189).wr Wr195).wr Wr198).wr Wr201).wr Wr204).wr Wr207).keep K218), q213, q214, q215, q216⟩
    refine W.drop (M' := M) (fun x z => (List.mem_cons_of_mem _ (List.mem_cons_of_mem _ z))) ?_
    exact W.retA ok d_method_2_179 rfl rfl (Nat.le_of_ble_eq_true rfl) (Nat.le_of_ble_eq_true rfl) (fun x (q : x ∈ M) => q) (fun kp => ⟨a177, rfl, Nat.le_of_eq ea180, S1⟩)
set_option maxRecDepth 65536 in
set_option maxHeartbeats 4000000 in
theorem k_boolS (l : Launch) (Z : State) (a0 : Array Value) (hE : Ev Z a0) (a : Addr) (cs : List Int32) (h : Heap) (S : Str Z h a cs) (hl : cs.length ≤ 5) : Con l Z false (⟨"com/example/purlin/purlin/util/TextValues", "bool", "(Ljava/lang/String;)Ljava/lang/Boolean;"⟩ : MethodName) prog_90_method_7_code 2 (some (.object "java/lang/Boolean")) ({ frames := 2, cells := 8, slots := 72, locals := 28 } : Room) [(.ref a)] h [] false (fun M v h' => ((cs = [116, 114, 117, 101] ∨ cs = [121, 101, 115]) ∧ ∃ b, v = some (.ref b) ∧ Exa Z h' b "java/lang/Boolean" ∧ Fld Z h' b "java/lang/Boolean" "value" "Z" (.int 1)) ∨ ((cs = [102, 97, 108, 115, 101] ∨ cs = [110, 111]) ∧ ∃ b, v = some (.ref b) ∧ Exa Z h' b "java/lang/Boolean" ∧ Fld Z h' b "java/lang/Boolean" "value" "Z" (.int 0)) ∨ ((¬ cs = [116, 114, 117, 101] ∧ ¬ cs = [121, 101, 115] ∧ ¬ cs = [102, 97, 108, 115, 101] ∧ ¬ cs = [110, 111]) ∧ v = some .null)) := by
  have hw := hE.1
  refine Con.intro (L0 := #[.val (.ref a), .unset]) (by decide +kernel) (fun m => ef_of rfl) ?_
  intro B M hwsM ok
  obtain ⟨bt, St, Xt, Ft⟩ := hE.btrue
  obtain ⟨bf, Sf, Xf, Ff⟩ := hE.bfalse
  refine W.ldcS ok (pc' := 2) rfl (text := "true") (sz := 16) (w6 hw) (fun d hd => hw d ((by decide +kernel : ∀ d ∈ Bundle.stringAtoms, d ∈ tables_1) d hd)) (hE.held _ (List.mem_of_getElem? (i := 0) rfl)) hE.cw (by decide) (Or.inl rfl) (by decide) (by decide) d_prog_90_method_7_0 rfl (Nat.le_of_ble_eq_true rfl) (Nat.le_of_ble_eq_true rfl) (fun a1 h2 E3 Tq1 => ?_)
  refine W.aloadN ok (pc' := 3) d_prog_90_method_7_2 rfl rfl rfl ?_
  refine W.callV ok (rest := []) (cl' := (true, ("com/example/purlin/purlin/util/TextValues", 50) :: [])) (pc' := 6) (w14 hw) (w15 hw) (w17 hw) (w16 hw) (w7 hw) (w18 hw) (by decide) Tq1.exa pd_11 rfl (k_eqS l Z a0 hE a1 a [116, 114, 117, 101] cs h2 (Tq1.str.cast (by decide)) (S.ext E3) (by simp) (by omega)) (fun _ q => (nomatch q)) (fun q => ⟨q, fun _ q => (nomatch q)⟩) rfl rfl (Nat.le_of_ble_eq_true rfl) (Nat.le_of_ble_eq_true rfl) (Nat.le_of_ble_eq_true rfl) (Nat.le_of_ble_eq_true rfl) d_prog_90_method_7_3 rfl rfl (pureK ?_)
  show W B h2 2 20 M (true, ("com/example/purlin/purlin/util/TextValues", 50) :: []) 6 #[.val (.ref a), .unset] [(.int (if [116, 114, 117, 101] = cs then 1 else 0))]
  by_cases q1 : cs = [116, 114, 117, 101]
  · rw [if_pos q1.symm]
    refine W.ifne ok (pcY := 18) (pcN := 9) d_prog_90_method_7_6 rfl (by decide) rfl (fun q => absurd q (by decide)) (fun _ => ?_)
    refine W.old ok fun oE _ => ?_
    refine W.getS ok (pc' := 21) (w88 hw) Via.refl St d_prog_90_method_7_18 rfl ?_
    refine W.astoreN ok (pc' := 22) (L' := #[.val (.ref a), .val (.ref bt)]) d_prog_90_method_7_21 rfl rfl rfl ?_
    refine W.goto ok (pc' := 52) d_prog_90_method_7_22 (by decide) rfl ?_
    refine W.aloadN ok (pc' := 53) d_prog_90_method_7_52 rfl rfl rfl ?_
    exact W.retA ok d_prog_90_method_7_53 rfl rfl (Nat.le_of_ble_eq_true rfl) (Nat.le_of_ble_eq_true rfl) (fun x (q : x ∈ M) => q) (fun kp => Or.inl ⟨Or.inl q1, bt, rfl, Xt.ext oE, Ft.ext oE⟩)
  · rw [if_neg (fun e => q1 e.symm)]
    refine W.ifne ok (pcY := 18) (pcN := 9) d_prog_90_method_7_6 rfl (by decide) rfl (fun _ => ?_) (fun q => absurd rfl q)
    refine W.ldcS ok (pc' := 11) rfl (text := "yes") (sz := 12) (w19 hw) (fun d hd => hw d ((by decide +kernel : ∀ d ∈ Bundle.stringAtoms, d ∈ tables_1) d hd)) (hE.held _ (List.mem_of_getElem? (i := 1) rfl)) hE.cw (by decide) (Or.inl rfl) (by decide) (by decide) d_prog_90_method_7_9 rfl (Nat.le_of_ble_eq_true rfl) (Nat.le_of_ble_eq_true rfl) (fun a4 h5 E6 Tq2 => ?_)
    refine W.aloadN ok (pc' := 12) d_prog_90_method_7_11 rfl rfl rfl ?_
    refine W.callV ok (rest := []) (cl' := (true, ("com/example/purlin/purlin/util/TextValues", 55) :: ("com/example/purlin/purlin/util/TextValues", 50) :: [])) (pc' := 15) (w14 hw) (w15 hw) (w17 hw) (w16 hw) (w7 hw) (w18 hw) (by decide) Tq2.exa pd_11 rfl (k_eqS l Z a0 hE a4 a [121, 101, 115] cs h5 (Tq2.str.cast (by decide)) ((S.ext E3).ext E6) (by simp) (by omega)) (fun _ q => (nomatch q)) (fun q => ⟨q, fun _ q => (nomatch q)⟩) rfl rfl (Nat.le_of_ble_eq_true rfl) (Nat.le_of_ble_eq_true rfl) (Nat.le_of_ble_eq_true rfl) (Nat.le_of_ble_eq_true rfl) d_prog_90_method_7_12 rfl rfl (pureK ?_)
    show W B h5 4 36 M (true, ("com/example/purlin/purlin/util/TextValues", 55) :: ("com/example/purlin/purlin/util/TextValues", 50) :: []) 15 #[.val (.ref a), .unset] [(.int (if [121, 101, 115] = cs then 1 else 0))]
    by_cases q2 : cs = [121, 101, 115]
    · rw [if_pos q2.symm]
      refine W.ifeq ok (pcY := 25) (pcN := 18) d_prog_90_method_7_15 rfl (by decide) rfl (fun q => absurd q (by decide)) (fun _ => ?_)
      refine W.old ok fun oE _ => ?_
      refine W.getS ok (pc' := 21) (w88 hw) Via.refl St d_prog_90_method_7_18 rfl ?_
      refine W.astoreN ok (pc' := 22) (L' := #[.val (.ref a), .val (.ref bt)]) d_prog_90_method_7_21 rfl rfl rfl ?_
      refine W.goto ok (pc' := 52) d_prog_90_method_7_22 (by decide) rfl ?_
      refine W.aloadN ok (pc' := 53) d_prog_90_method_7_52 rfl rfl rfl ?_
      exact W.retA ok d_prog_90_method_7_53 rfl rfl (Nat.le_of_ble_eq_true rfl) (Nat.le_of_ble_eq_true rfl) (fun x (q : x ∈ M) => q) (fun kp => Or.inl ⟨Or.inr q2, bt, rfl, Xt.ext oE, Ft.ext oE⟩)
    · rw [if_neg (fun e => q2 e.symm)]
      refine W.ifeq ok (pcY := 25) (pcN := 18) d_prog_90_method_7_15 rfl (by decide) rfl (fun _ => ?_) (fun q => absurd rfl q)
      refine W.ldcS ok (pc' := 27) rfl (text := "false") (sz := 20) (w20 hw) (fun d hd => hw d ((by decide +kernel : ∀ d ∈ Bundle.stringAtoms, d ∈ tables_1) d hd)) (hE.held _ (List.mem_of_getElem? (i := 2) rfl)) hE.cw (by decide) (Or.inl rfl) (by decide) (by decide) d_prog_90_method_7_25 rfl (Nat.le_of_ble_eq_true rfl) (Nat.le_of_ble_eq_true rfl) (fun a7 h8 E9 Tq3 => ?_)
      refine W.aloadN ok (pc' := 28) d_prog_90_method_7_27 rfl rfl rfl ?_
      refine W.callV ok (rest := []) (cl' := (true, ("com/example/purlin/purlin/util/TextValues", 63) :: ("com/example/purlin/purlin/util/TextValues", 55) :: ("com/example/purlin/purlin/util/TextValues", 50) :: [])) (pc' := 31) (w14 hw) (w15 hw) (w17 hw) (w16 hw) (w7 hw) (w18 hw) (by decide) Tq3.exa pd_11 rfl (k_eqS l Z a0 hE a7 a [102, 97, 108, 115, 101] cs h8 (Tq3.str.cast (by decide)) (((S.ext E3).ext E6).ext E9) (by simp) (by omega)) (fun _ q => (nomatch q)) (fun q => ⟨q, fun _ q => (nomatch q)⟩) rfl rfl (Nat.le_of_ble_eq_true rfl) (Nat.le_of_ble_eq_true rfl) (Nat.le_of_ble_eq_true rfl) (Nat.le_of_ble_eq_true rfl) d_prog_90_method_7_28 rfl rfl (pureK ?_)
      show W B h8 6 60 M (true, ("com/example/purlin/purlin/util/TextValues", 63) :: ("com/example/purlin/purlin/util/TextValues", 55) :: ("com/example/purlin/purlin/util/TextValues", 50) :: []) 31 #[.val (.ref a), .unset] [(.int (if [102, 97, 108, 115, 101] = cs then 1 else 0))]
      by_cases q3 : cs = [102, 97, 108, 115, 101]
      · rw [if_pos q3.symm]
        refine W.ifne ok (pcY := 43) (pcN := 34) d_prog_90_method_7_31 rfl (by decide) rfl (fun q => absurd q (by decide)) (fun _ => ?_)
        refine W.old ok fun oE _ => ?_
        refine W.getS ok (pc' := 46) (w100 hw) Via.refl Sf d_prog_90_method_7_43 rfl ?_
        refine W.astoreN ok (pc' := 47) (L' := #[.val (.ref a), .val (.ref bf)]) d_prog_90_method_7_46 rfl rfl rfl ?_
        refine W.goto ok (pc' := 52) d_prog_90_method_7_47 (by decide) rfl ?_
        refine W.aloadN ok (pc' := 53) d_prog_90_method_7_52 rfl rfl rfl ?_
        exact W.retA ok d_prog_90_method_7_53 rfl rfl (Nat.le_of_ble_eq_true rfl) (Nat.le_of_ble_eq_true rfl) (fun x (q : x ∈ M) => q) (fun kp => Or.inr (Or.inl ⟨Or.inl q3, bf, rfl, Xf.ext oE, Ff.ext oE⟩))
      · rw [if_neg (fun e => q3 e.symm)]
        refine W.ifne ok (pcY := 43) (pcN := 34) d_prog_90_method_7_31 rfl (by decide) rfl (fun _ => ?_) (fun q => absurd rfl q)
        refine W.ldcS ok (pc' := 36) rfl (text := "no") (sz := 8) (w21 hw) (fun d hd => hw d ((by decide +kernel : ∀ d ∈ Bundle.stringAtoms, d ∈ tables_1) d hd)) (hE.held _ (List.mem_of_getElem? (i := 3) rfl)) hE.cw (by decide) (Or.inl rfl) (by decide) (by decide) d_prog_90_method_7_34 rfl (Nat.le_of_ble_eq_true rfl) (Nat.le_of_ble_eq_true rfl) (fun a10 h11 E12 Tq4 => ?_)
        refine W.aloadN ok (pc' := 37) d_prog_90_method_7_36 rfl rfl rfl ?_
        refine W.callV ok (rest := []) (cl' := (true, ("com/example/purlin/purlin/util/TextValues", 65) :: ("com/example/purlin/purlin/util/TextValues", 63) :: ("com/example/purlin/purlin/util/TextValues", 55) :: ("com/example/purlin/purlin/util/TextValues", 50) :: [])) (pc' := 40) (w14 hw) (w15 hw) (w17 hw) (w16 hw) (w7 hw) (w18 hw) (by decide) Tq4.exa pd_11 rfl (k_eqS l Z a0 hE a10 a [110, 111] cs h11 (Tq4.str.cast (by decide)) ((((S.ext E3).ext E6).ext E9).ext E12) (by simp) (by omega)) (fun _ q => (nomatch q)) (fun q => ⟨q, fun _ q => (nomatch q)⟩) rfl rfl (Nat.le_of_ble_eq_true rfl) (Nat.le_of_ble_eq_true rfl) (Nat.le_of_ble_eq_true rfl) (Nat.le_of_ble_eq_true rfl) d_prog_90_method_7_37 rfl rfl (pureK ?_)
        show W B h11 8 72 M (true, ("com/example/purlin/purlin/util/TextValues", 65) :: ("com/example/purlin/purlin/util/TextValues", 63) :: ("com/example/purlin/purlin/util/TextValues", 55) :: ("com/example/purlin/purlin/util/TextValues", 50) :: []) 40 #[.val (.ref a), .unset] [(.int (if [110, 111] = cs then 1 else 0))]
        by_cases q4 : cs = [110, 111]
        · rw [if_pos q4.symm]
          refine W.ifeq ok (pcY := 50) (pcN := 43) d_prog_90_method_7_40 rfl (by decide) rfl (fun q => absurd q (by decide)) (fun _ => ?_)
          refine W.old ok fun oE _ => ?_
          refine W.getS ok (pc' := 46) (w100 hw) Via.refl Sf d_prog_90_method_7_43 rfl ?_
          refine W.astoreN ok (pc' := 47) (L' := #[.val (.ref a), .val (.ref bf)]) d_prog_90_method_7_46 rfl rfl rfl ?_
          refine W.goto ok (pc' := 52) d_prog_90_method_7_47 (by decide) rfl ?_
          refine W.aloadN ok (pc' := 53) d_prog_90_method_7_52 rfl rfl rfl ?_
          exact W.retA ok d_prog_90_method_7_53 rfl rfl (Nat.le_of_ble_eq_true rfl) (Nat.le_of_ble_eq_true rfl) (fun x (q : x ∈ M) => q) (fun kp => Or.inr (Or.inl ⟨Or.inr q4, bf, rfl, Xf.ext oE, Ff.ext oE⟩))
        · rw [if_neg (fun e => q4 e.symm)]
          refine W.ifeq ok (pcY := 50) (pcN := 43) d_prog_90_method_7_40 rfl (by decide) rfl (fun _ => ?_) (fun q => absurd rfl q)
          refine W.old ok fun oE _ => ?_
          refine W.aconstNull ok (pc' := 51) d_prog_90_method_7_50 rfl ?_
          refine W.astoreN ok (pc' := 52) (L' := #[.val (.ref a), .val .null]) d_prog_90_method_7_51 rfl rfl rfl ?_
          refine W.aloadN ok (pc' := 53) d_prog_90_method_7_52 rfl rfl rfl ?_
          exact W.retA ok d_prog_90_method_7_53 rfl rfl (Nat.le_of_ble_eq_true rfl) (Nat.le_of_ble_eq_true rfl) (fun x (q : x ∈ M) => q) (fun kp => Or.inr (Or.inr ⟨⟨q1, q2, q3, q4⟩, rfl⟩))
set_option maxRecDepth 65536 in
set_option maxHeartbeats 4000000 in
theorem k_boolN (l : Launch) (Z : State) (a0 : Array Value) (hE : Ev Z a0)  (h : Heap)  : Con l Z false (⟨"com/example/purlin/purlin/util/TextValues", "bool", "(Ljava/lang/String;)Ljava/lang/Boolean;"⟩ : MethodName) prog_90_method_7_code 2 (some (.object "java/lang/Boolean")) ({ frames := 1, cells := 8, slots := 72, locals := 14 } : Room) [.null] h [] false (fun M v h' => v = some .null) := by
  have hw := hE.1
  refine Con.intro (L0 := #[.val .null, .unset]) (by decide +kernel) (fun m => ef_of rfl) ?_
  intro B M hwsM ok
  refine W.ldcS ok (pc' := 2) rfl (text := "true") (sz := 16) (w6 hw) (fun d hd => hw d ((by decide +kernel : ∀ d ∈ Bundle.stringAtoms, d ∈ tables_1) d hd)) (hE.held _ (List.mem_of_getElem? (i := 0) rfl)) hE.cw (by decide) (Or.inl rfl) (by decide) (by decide) d_prog_90_method_7_0 rfl (Nat.le_of_ble_eq_true rfl) (Nat.le_of_ble_eq_true rfl) (fun a1 h2 E3 T0 => ?_)
  refine W.aloadN ok (pc' := 3) d_prog_90_method_7_2 rfl rfl rfl ?_
  refine W.callV ok (rest := []) (cl' := (true, ("com/example/purlin/purlin/util/TextValues", 50) :: [])) (pc' := 6) (w14 hw) (w15 hw) (w17 hw) (w16 hw) (w7 hw) (w18 hw) (by decide) T0.exa pd_11 rfl (k_eqN l Z a0 hE a1 h2) (fun _ q => (nomatch q)) (fun q => ⟨q, fun _ q => (nomatch q)⟩) rfl rfl (Nat.le_of_ble_eq_true rfl) (Nat.le_of_ble_eq_true rfl) (Nat.le_of_ble_eq_true rfl) (Nat.le_of_ble_eq_true rfl) d_prog_90_method_7_3 rfl rfl (pureK ?_)
  show W B h2 2 20 M (true, ("com/example/purlin/purlin/util/TextValues", 50) :: []) 6 #[.val .null, .unset] [(.int (0 : Int32))]
  refine W.ifne ok (pcY := 18) (pcN := 9) d_prog_90_method_7_6 rfl (by decide) rfl (fun _ => ?_) (fun q => absurd rfl q)
  refine W.ldcS ok (pc' := 11) rfl (text := "yes") (sz := 12) (w19 hw) (fun d hd => hw d ((by decide +kernel : ∀ d ∈ Bundle.stringAtoms, d ∈ tables_1) d hd)) (hE.held _ (List.mem_of_getElem? (i := 1) rfl)) hE.cw (by decide) (Or.inl rfl) (by decide) (by decide) d_prog_90_method_7_9 rfl (Nat.le_of_ble_eq_true rfl) (Nat.le_of_ble_eq_true rfl) (fun a4 h5 E6 T1 => ?_)
  refine W.aloadN ok (pc' := 12) d_prog_90_method_7_11 rfl rfl rfl ?_
  refine W.callV ok (rest := []) (cl' := (true, ("com/example/purlin/purlin/util/TextValues", 55) :: ("com/example/purlin/purlin/util/TextValues", 50) :: [])) (pc' := 15) (w14 hw) (w15 hw) (w17 hw) (w16 hw) (w7 hw) (w18 hw) (by decide) T1.exa pd_11 rfl (k_eqN l Z a0 hE a4 h5) (fun _ q => (nomatch q)) (fun q => ⟨q, fun _ q => (nomatch q)⟩) rfl rfl (Nat.le_of_ble_eq_true rfl) (Nat.le_of_ble_eq_true rfl) (Nat.le_of_ble_eq_true rfl) (Nat.le_of_ble_eq_true rfl) d_prog_90_method_7_12 rfl rfl (pureK ?_)
  show W B h5 4 36 M (true, ("com/example/purlin/purlin/util/TextValues", 55) :: ("com/example/purlin/purlin/util/TextValues", 50) :: []) 15 #[.val .null, .unset] [(.int (0 : Int32))]
  refine W.ifeq ok (pcY := 25) (pcN := 18) d_prog_90_method_7_15 rfl (by decide) rfl (fun _ => ?_) (fun q => absurd rfl q)
  refine W.ldcS ok (pc' := 27) rfl (text := "false") (sz := 20) (w20 hw) (fun d hd => hw d ((by decide +kernel : ∀ d ∈ Bundle.stringAtoms, d ∈ tables_1) d hd)) (hE.held _ (List.mem_of_getElem? (i := 2) rfl)) hE.cw (by decide) (Or.inl rfl) (by decide) (by decide) d_prog_90_method_7_25 rfl (Nat.le_of_ble_eq_true rfl) (Nat.le_of_ble_eq_true rfl) (fun a7 h8 E9 T2 => ?_)
  refine W.aloadN ok (pc' := 28) d_prog_90_method_7_27 rfl rfl rfl ?_
  refine W.callV ok (rest := []) (cl' := (true, ("com/example/purlin/purlin/util/TextValues", 63) :: ("com/example/purlin/purlin/util/TextValues", 55) :: ("com/example/purlin/purlin/util/TextValues", 50) :: [])) (pc' := 31) (w14 hw) (w15 hw) (w17 hw) (w16 hw) (w7 hw) (w18 hw) (by decide) T2.exa pd_11 rfl (k_eqN l Z a0 hE a7 h8) (fun _ q => (nomatch q)) (fun q => ⟨q, fun _ q => (nomatch q)⟩) rfl rfl (Nat.le_of_ble_eq_true rfl) (Nat.le_of_ble_eq_true rfl) (Nat.le_of_ble_eq_true rfl) (Nat.le_of_ble_eq_true rfl) d_prog_90_method_7_28 rfl rfl (pureK ?_)
  show W B h8 6 60 M (true, ("com/example/purlin/purlin/util/TextValues", 63) :: ("com/example/purlin/purlin/util/TextValues", 55) :: ("com/example/purlin/purlin/util/TextValues", 50) :: []) 31 #[.val .null, .unset] [(.int (0 : Int32))]
  refine W.ifne ok (pcY := 43) (pcN := 34) d_prog_90_method_7_31 rfl (by decide) rfl (fun _ => ?_) (fun q => absurd rfl q)
  refine W.ldcS ok (pc' := 36) rfl (text := "no") (sz := 8) (w21 hw) (fun d hd => hw d ((by decide +kernel : ∀ d ∈ Bundle.stringAtoms, d ∈ tables_1) d hd)) (hE.held _ (List.mem_of_getElem? (i := 3) rfl)) hE.cw (by decide) (Or.inl rfl) (by decide) (by decide) d_prog_90_method_7_34 rfl (Nat.le_of_ble_eq_true rfl) (Nat.le_of_ble_eq_true rfl) (fun a10 h11 E12 T3 => ?_)
  refine W.aloadN ok (pc' := 37) d_prog_90_method_7_36 rfl rfl rfl ?_
  refine W.callV ok (rest := []) (cl' := (true, ("com/example/purlin/purlin/util/TextValues", 65) :: ("com/example/purlin/purlin/util/TextValues", 63) :: ("com/example/purlin/purlin/util/TextValues", 55) :: ("com/example/purlin/purlin/util/TextValues", 50) :: [])) (pc' := 40) (w14 hw) (w15 hw) (w17 hw) (w16 hw) (w7 hw) (w18 hw) (by decide) T3.exa pd_11 rfl (k_eqN l Z a0 hE a10 h11) (fun _ q => (nomatch q)) (fun q => ⟨q, fun _ q => (nomatch q)⟩) rfl rfl (Nat.le_of_ble_eq_true rfl) (Nat.le_of_ble_eq_true rfl) (Nat.le_of_ble_eq_true rfl) (Nat.le_of_ble_eq_true rfl) d_prog_90_method_7_37 rfl rfl (pureK ?_)
  show W B h11 8 72 M (true, ("com/example/purlin/purlin/util/TextValues", 65) :: ("com/example/purlin/purlin/util/TextValues", 63) :: ("com/example/purlin/purlin/util/TextValues", 55) :: ("com/example/purlin/purlin/util/TextValues", 50) :: []) 40 #[.val .null, .unset] [(.int (0 : Int32))]
  refine W.ifeq ok (pcY := 50) (pcN := 43) d_prog_90_method_7_40 rfl (by decide) rfl (fun _ => ?_) (fun q => absurd rfl q)
  refine W.aconstNull ok (pc' := 51) d_prog_90_method_7_50 rfl ?_
  refine W.astoreN ok (pc' := 52) (L' := #[.val .null, .val .null]) d_prog_90_method_7_51 rfl rfl rfl ?_
  refine W.aloadN ok (pc' := 53) d_prog_90_method_7_52 rfl rfl rfl ?_
  exact W.retA ok d_prog_90_method_7_53 rfl rfl (Nat.le_of_ble_eq_true rfl) (Nat.le_of_ble_eq_true rfl) (fun x (q : x ∈ M) => q) (fun kp => rfl)
set_option maxRecDepth 65536 in
set_option maxHeartbeats 4000000 in
theorem k_law (l : Launch) (Z : State) (a0 : Array Value) (hE : Ev Z a0) (p0 p1 p2 : Int32) (p3 : Int64) (h : Heap)  : Con l Z false (⟨"com/example/purlin/purlin/util/TextValuesBoolPinLaw", "law", "(IIIJ)Z"⟩ : MethodName) code 19 (some .boolean) ({ frames := 8, cells := 40, slots := 9408, locals := 192 } : Room) [(.int p0), (.int p1), (.int p2), (.long p3)] h [] false (fun M v h' => v = some (.int 1)) := by
  have hw := hE.1
  refine Con.intro (L0 := #[.val (.int p0), .val (.int p1), .val (.int p2), .val (.long p3), .second, .unset, .unset, .unset, .unset, .unset, .unset, .unset, .unset, .unset, .unset, .unset, .unset, .unset, .unset]) (by decide +kernel) (fun m => ef_of rfl) ?_
  intro B M hwsM ok
  refine W.iconst ok (pc' := 1) (5 : Int32) at_0 rfl rfl ?_
  refine W.newC ok (pc' := 3) (cap := 5) (w0 hw) (by decide) (by decide) (by decide) at_1 rfl (Nat.le_of_ble_eq_true rfl) (Nat.le_of_ble_eq_true rfl) (fun a1 h2 z3 ea4 E5 A6 => ?_)
  replace A6 := A6.cast (cs' := [0, 0, 0, 0, 0]) rfl
  refine W.astore ok (pc' := 5) (L' := #[.val (.int p0), .val (.int p1), .val (.int p2), .val (.long p3), .second, .val (.ref a1), .unset, .unset, .unset, .unset, .unset, .unset, .unset, .unset, .unset, .unset, .unset, .unset, .unset]) at_3 rfl rfl rfl ?_
  refine W.aload ok (pc' := 7) at_5 rfl rfl rfl ?_
  refine W.iconst ok (pc' := 8) (0 : Int32) at_7 rfl rfl ?_
  refine W.lloadN ok (pc' := 9) at_8 rfl rfl ?_
  refine W.ldc2J ok (pc' := 12) (w1 hw) at_9 rfl ?_
  refine W.land ok (pc' := 13) at_12 rfl ?_
  refine W.l2i ok (pc' := 14) at_13 rfl ?_
  refine W.i2c ok (pc' := 15) at_14 rfl ?_
  generalize hx0 : (c16 ((p3 &&& (255 : Int64)).toInt32)) = x0
  have r0 : 0 ≤ x0.toInt ∧ x0.toInt ≤ 255 := by rw [← hx0]; exact lowL _
  refine W.castore ok (pc' := 16) (cl' := (true, [])) A6 (by decide) (Nat.le_of_ble_eq_true rfl) (List.mem_cons_self ..) (Or.inr z3) (fun q => ⟨q, z3⟩) rfl at_15 rfl (fun h7 Wr8 A9 => ?_)
  replace A9 := A9.cast (cs' := [x0, 0, 0, 0, 0]) (by rw [c16_of ⟨r0.1, by omega⟩]; rfl)
  refine W.aload ok (pc' := 18) at_16 rfl rfl rfl ?_
  refine W.iconst ok (pc' := 19) (1 : Int32) at_18 rfl rfl ?_
  refine W.lloadN ok (pc' := 20) at_19 rfl rfl ?_
  refine W.bipush ok (pc' := 22) (8 : Int32) at_20 rfl rfl ?_
  refine W.lushr ok (pc' := 23) at_22 rfl ?_
  refine W.ldc2J ok (pc' := 26) (w1 hw) at_23 rfl ?_
  refine W.land ok (pc' := 27) at_26 rfl ?_
  refine W.l2i ok (pc' := 28) at_27 rfl ?_
  refine W.i2c ok (pc' := 29) at_28 rfl ?_
  generalize hx1 : (c16 (((XT.ushrL p3 (8 : Int32)) &&& (255 : Int64)).toInt32)) = x1
  have r1 : 0 ≤ x1.toInt ∧ x1.toInt ≤ 255 := by rw [← hx1]; exact lowL _
  refine W.castore ok (pc' := 30) (cl' := (true, [])) A9 (by decide) (Nat.le_of_ble_eq_true rfl) (List.mem_cons_self ..) (Or.inr z3) (fun q => ⟨q, z3⟩) rfl at_29 rfl (fun h10 Wr11 A12 => ?_)
  replace A12 := A12.cast (cs' := [x0, x1, 0, 0, 0]) (by rw [c16_of ⟨r1.1, by omega⟩]; rfl)
  refine W.aload ok (pc' := 32) at_30 rfl rfl rfl ?_
  refine W.iconst ok (pc' := 33) (2 : Int32) at_32 rfl rfl ?_
  refine W.lloadN ok (pc' := 34) at_33 rfl rfl ?_
  refine W.bipush ok (pc' := 36) (16 : Int32) at_34 rfl rfl ?_
  refine W.lushr ok (pc' := 37) at_36 rfl ?_
  refine W.ldc2J ok (pc' := 40) (w1 hw) at_37 rfl ?_
  refine W.land ok (pc' := 41) at_40 rfl ?_
  refine W.l2i ok (pc' := 42) at_41 rfl ?_
  refine W.i2c ok (pc' := 43) at_42 rfl ?_
  generalize hx2 : (c16 (((XT.ushrL p3 (16 : Int32)) &&& (255 : Int64)).toInt32)) = x2
  have r2 : 0 ≤ x2.toInt ∧ x2.toInt ≤ 255 := by rw [← hx2]; exact lowL _
  refine W.castore ok (pc' := 44) (cl' := (true, [])) A12 (by decide) (Nat.le_of_ble_eq_true rfl) (List.mem_cons_self ..) (Or.inr z3) (fun q => ⟨q, z3⟩) rfl at_43 rfl (fun h13 Wr14 A15 => ?_)
  replace A15 := A15.cast (cs' := [x0, x1, x2, 0, 0]) (by rw [c16_of ⟨r2.1, by omega⟩]; rfl)
  refine W.aload ok (pc' := 46) at_44 rfl rfl rfl ?_
  refine W.iconst ok (pc' := 47) (3 : Int32) at_46 rfl rfl ?_
  refine W.lloadN ok (pc' := 48) at_47 rfl rfl ?_
  refine W.bipush ok (pc' := 50) (24 : Int32) at_48 rfl rfl ?_
  refine W.lushr ok (pc' := 51) at_50 rfl ?_
  refine W.ldc2J ok (pc' := 54) (w1 hw) at_51 rfl ?_
  refine W.land ok (pc' := 55) at_54 rfl ?_
  refine W.l2i ok (pc' := 56) at_55 rfl ?_
  refine W.i2c ok (pc' := 57) at_56 rfl ?_
  generalize hx3 : (c16 (((XT.ushrL p3 (24 : Int32)) &&& (255 : Int64)).toInt32)) = x3
  have r3 : 0 ≤ x3.toInt ∧ x3.toInt ≤ 255 := by rw [← hx3]; exact lowL _
  refine W.castore ok (pc' := 58) (cl' := (true, [])) A15 (by decide) (Nat.le_of_ble_eq_true rfl) (List.mem_cons_self ..) (Or.inr z3) (fun q => ⟨q, z3⟩) rfl at_57 rfl (fun h16 Wr17 A18 => ?_)
  replace A18 := A18.cast (cs' := [x0, x1, x2, x3, 0]) (by rw [c16_of ⟨r3.1, by omega⟩]; rfl)
  refine W.aload ok (pc' := 60) at_58 rfl rfl rfl ?_
  refine W.iconst ok (pc' := 61) (4 : Int32) at_60 rfl rfl ?_
  refine W.lloadN ok (pc' := 62) at_61 rfl rfl ?_
  refine W.bipush ok (pc' := 64) (32 : Int32) at_62 rfl rfl ?_
  refine W.lushr ok (pc' := 65) at_64 rfl ?_
  refine W.ldc2J ok (pc' := 68) (w1 hw) at_65 rfl ?_
  refine W.land ok (pc' := 69) at_68 rfl ?_
  refine W.l2i ok (pc' := 70) at_69 rfl ?_
  refine W.i2c ok (pc' := 71) at_70 rfl ?_
  generalize hx4 : (c16 (((XT.ushrL p3 (32 : Int32)) &&& (255 : Int64)).toInt32)) = x4
  have r4 : 0 ≤ x4.toInt ∧ x4.toInt ≤ 255 := by rw [← hx4]; exact lowL _
  refine W.castore ok (pc' := 72) (cl' := (true, [])) A18 (by decide) (Nat.le_of_ble_eq_true rfl) (List.mem_cons_self ..) (Or.inr z3) (fun q => ⟨q, z3⟩) rfl at_71 rfl (fun h19 Wr20 A21 => ?_)
  replace A21 := A21.cast (cs' := [x0, x1, x2, x3, x4]) (by rw [c16_of ⟨r4.1, by omega⟩]; rfl)
  refine W.iloadN ok (pc' := 73) at_72 rfl rfl ?_
  refine W.bipush ok (pc' := 75) (7 : Int32) at_73 rfl rfl ?_
  refine W.iand ok (pc' := 76) at_75 rfl ?_
  refine W.bipush ok (pc' := 78) (6 : Int32) at_76 rfl rfl ?_
  refine W.irem ok (pc' := 79) at_78 rfl (by decide) ?_
  generalize hlz : ((p1 &&& (7 : Int32)) % (6 : Int32)) = lz
  obtain ⟨ln, eln, hln⟩ : ∃ n : Nat, lz = n.toInt32 ∧ n ≤ 5 := by
    have m1 := maskI p1 7 3 (by decide) (by decide)
    have m2 := rem_rng (x := p1 &&& 7) (y := 6) (d := 6) rfl (by decide) m1.1
    rw [hlz] at m2
    obtain ⟨n, e1, e2⟩ := i32_of m2.1
    exact ⟨n, e1, by omega⟩
  subst eln
  refine W.istore ok (pc' := 81) (L' := #[.val (.int p0), .val (.int p1), .val (.int p2), .val (.long p3), .second, .val (.ref a1), .val (.int ln.toInt32), .unset, .unset, .unset, .unset, .unset, .unset, .unset, .unset, .unset, .unset, .unset, .unset]) at_79 rfl rfl ?_
  have seg303 : ∀ (hh : Heap) (xs : List Int32) (ln : Nat) (s7 s8 s9 s10 s11 : Slot), ArI Z hh a1 .char xs → xs.length = 5 → (∀ x ∈ xs, 0 ≤ x.toInt ∧ x.toInt ≤ 255) → ln ≤ 5 → One s7 → One s8 → One s9 → One s10 → One s11 → W B hh 3 40 (a1 :: M) (true, []) 303 #[.val (.int p0), .val (.int p1), .val (.int p2), .val (.long p3), .second, .val (.ref a1), .val (.int ln.toInt32), s7, s8, s9, s10, s11, .unset, .unset, .unset, .unset, .unset, .unset, .unset] [] := by
    intro hh xs ln s7 s8 s9 s10 s11 A hx hr hl h7 h8 h9 h10 h11
    obtain ⟨x0, x1, x2, x3, x4, rfl⟩ := five hx
    refine W.iloadN ok (pc' := 304) at_303 rfl rfl ?_
    refine W.bipush ok (pc' := 306) (8 : Int32) at_304 rfl rfl ?_
    refine W.iushr ok (pc' := 307) at_306 rfl ?_
    refine W.bipush ok (pc' := 309) (15 : Int32) at_307 rfl rfl ?_
    refine W.iand ok (pc' := 310) at_309 rfl ?_
    refine W.ifne ok (pcY := 317) (pcN := 313) at_310 rfl (by decide) rfl (fun c1 => ?_) (fun c1 => ?_)
    · refine W.iconst ok (pc' := 314) (1 : Int32) at_313 rfl rfl ?_
      refine W.goto ok (pc' := 318) at_314 (by decide) rfl ?_
      refine W.istoreS ok (pc' := 320) (L' := #[.val (.int p0), .val (.int p1), .val (.int p2), .val (.long p3), .second, .val (.ref a1), .val (.int ln.toInt32), s7, s8, .val (.int (1 : Int32)), s10, s11, .unset, .unset, .unset, .unset, .unset, .unset, .unset]) at_318 rfl rfl h9 rfl ?_
      refine W.iload ok (pc' := 322) at_320 rfl rfl ?_
      refine W.ifeq ok (pcY := 329) (pcN := 325) at_322 rfl (by decide) rfl (fun q => absurd q (by decide)) (fun _ => ?_)
      refine W.aconstNull ok (pc' := 326) at_325 rfl ?_
      refine W.goto ok (pc' := 336) at_326 (by decide) rfl ?_
      refine W.astoreS ok (pc' := 338) (L' := #[.val (.int p0), .val (.int p1), .val (.int p2), .val (.long p3), .second, .val (.ref a1), .val (.int ln.toInt32), s7, s8, .val (.int (1 : Int32)), .val .null, s11, .unset, .unset, .unset, .unset, .unset, .unset, .unset]) at_336 rfl rfl rfl h10 rfl ?_
      refine W.aload ok (pc' := 340) at_338 rfl rfl rfl ?_
      refine W.callS ok (rest := []) (cl' := (true, [])) (pc' := 343) (w2 hw) (w3 hw) (w4 hw) (w5 hw) (by decide) pd_12 rfl (k_boolN l Z a0 hE hh) (fun _ q => (nomatch q)) (fun q => ⟨q, fun _ q => (nomatch q)⟩) rfl rfl (Nat.le_of_ble_eq_true rfl) (Nat.le_of_ble_eq_true rfl) (Nat.le_of_ble_eq_true rfl) (Nat.le_of_ble_eq_true rfl) at_340 rfl rfl (fun v h22 hq K23 => ?_)
      obtain rfl := hq
      show W B h22 11 112 (a1 :: M) (true, []) 343 #[.val (.int p0), .val (.int p1), .val (.int p2), .val (.long p3), .second, .val (.ref a1), .val (.int ln.toInt32), s7, s8, .val (.int (1 : Int32)), .val .null, s11, .unset, .unset, .unset, .unset, .unset, .unset, .unset] [.null]
      refine W.astoreS ok (pc' := 345) (L' := #[.val (.int p0), .val (.int p1), .val (.int p2), .val (.long p3), .second, .val (.ref a1), .val (.int ln.toInt32), s7, s8, .val (.int (1 : Int32)), .val .null, .val .null, .unset, .unset, .unset, .unset, .unset, .unset, .unset]) at_343 rfl rfl rfl h11 rfl ?_
      refine W.iload ok (pc' := 347) at_345 rfl rfl ?_
      refine W.ifeq ok (pcY := 361) (pcN := 350) at_347 rfl (by decide) rfl (fun q => absurd q (by decide)) (fun _ => ?_)
      refine W.aload ok (pc' := 352) at_350 rfl rfl rfl ?_
      refine W.ifnonnull ok (pcY := 359) (pcN := 355) at_352 rfl rfl (by decide) rfl (fun _ => ?_) (fun q => absurd rfl q)
      refine W.iconst ok (pc' := 356) (1 : Int32) at_355 rfl rfl ?_
      refine W.goto ok (pc' := 360) at_356 (by decide) rfl ?_
      exact W.retZ ok at_360 rfl (Nat.le_of_ble_eq_true rfl) (Nat.le_of_ble_eq_true rfl) (fun x (q : x ∈ M) => (List.mem_cons_of_mem _ q)) (fun kp => rfl)
    · refine W.iconst ok (pc' := 318) (0 : Int32) at_317 rfl rfl ?_
      refine W.istoreS ok (pc' := 320) (L' := #[.val (.int p0), .val (.int p1), .val (.int p2), .val (.long p3), .second, .val (.ref a1), .val (.int ln.toInt32), s7, s8, .val (.int (0 : Int32)), s10, s11, .unset, .unset, .unset, .unset, .unset, .unset, .unset]) at_318 rfl rfl h9 rfl ?_
      refine W.iload ok (pc' := 322) at_320 rfl rfl ?_
      refine W.ifeq ok (pcY := 329) (pcN := 325) at_322 rfl (by decide) rfl (fun _ => ?_) (fun q => absurd rfl q)
      refine W.aload ok (pc' := 331) at_329 rfl rfl rfl ?_
      refine W.iload ok (pc' := 333) at_331 rfl rfl ?_
      refine W.callS ok (rest := []) (cl' := (true, [])) (pc' := 336) (w58 hw) (w59 hw) (w60 hw) (w61 hw) (by decide) pd_13 rfl (k_make l Z a0 hE a1 x0 x1 x2 x3 x4 ln hh A hr hl) (fun _ q => (nomatch q)) (fun q => ⟨q, fun _ q => (nomatch q)⟩) rfl rfl (Nat.le_of_ble_eq_true rfl) (Nat.le_of_ble_eq_true rfl) (Nat.le_of_ble_eq_true rfl) (Nat.le_of_ble_eq_true rfl) at_333 rfl rfl (fun v h24 hq K25 => ?_)
      obtain ⟨r, rfl, hr1, S1⟩ := hq
      show W B h24 9 57 (a1 :: M) (true, []) 336 #[.val (.int p0), .val (.int p1), .val (.int p2), .val (.long p3), .second, .val (.ref a1), .val (.int ln.toInt32), s7, s8, .val (.int (0 : Int32)), s10, s11, .unset, .unset, .unset, .unset, .unset, .unset, .unset] [(.ref r)]
      refine W.astoreS ok (pc' := 338) (L' := #[.val (.int p0), .val (.int p1), .val (.int p2), .val (.long p3), .second, .val (.ref a1), .val (.int ln.toInt32), s7, s8, .val (.int (0 : Int32)), .val (.ref r), s11, .unset, .unset, .unset, .unset, .unset, .unset, .unset]) at_336 rfl rfl rfl h10 rfl ?_
      refine W.aload ok (pc' := 340) at_338 rfl rfl rfl ?_
      refine W.callS ok (rest := []) (cl' := (true, [])) (pc' := 343) (w2 hw) (w3 hw) (w4 hw) (w5 hw) (by decide) pd_12 rfl (k_boolS l Z a0 hE r (([x0, x1, x2, x3, x4] : List Int32).take ln) h24 S1.str (by simp; omega)) (fun _ q => (nomatch q)) (fun q => ⟨q, fun _ q => (nomatch q)⟩) rfl rfl (Nat.le_of_ble_eq_true rfl) (Nat.le_of_ble_eq_true rfl) (Nat.le_of_ble_eq_true rfl) (Nat.le_of_ble_eq_true rfl) at_340 rfl rfl (fun v h26 hq K27 => ?_)
      rcases hq with ⟨hw1 | hw1, b, rfl, Xb, Fb⟩ | ⟨hw1 | hw1, b, rfl, Xb, Fb⟩ | ⟨⟨n1, n2, n3, n4⟩, rfl⟩
      · obtain ⟨rfl, rfl, rfl, rfl, rfl⟩ := take_t hl hw1
        show W B h26 17 129 (a1 :: M) (true, []) 343 #[.val (.int p0), .val (.int p1), .val (.int p2), .val (.long p3), .second, .val (.ref a1), .val (.int ((4 : Nat).toInt32)), s7, s8, .val (.int (0 : Int32)), .val (.ref r), s11, .unset, .unset, .unset, .unset, .unset, .unset, .unset] [(.ref b)]
        refine W.astoreS ok (pc' := 345) (L' := #[.val (.int p0), .val (.int p1), .val (.int p2), .val (.long p3), .second, .val (.ref a1), .val (.int ((4 : Nat).toInt32)), s7, s8, .val (.int (0 : Int32)), .val (.ref r), .val (.ref b), .unset, .unset, .unset, .unset, .unset, .unset, .unset]) at_343 rfl rfl rfl h11 rfl ?_
        refine W.iload ok (pc' := 347) at_345 rfl rfl ?_
        refine W.ifeq ok (pcY := 361) (pcN := 350) at_347 rfl (by decide) rfl (fun _ => ?_) (fun q => absurd rfl q)
        refine W.aload ok (pc' := 363) at_361 rfl rfl rfl ?_
        refine W.iconst ok (pc' := 364) (0 : Int32) at_363 rfl rfl ?_
        refine W.caload ok (pc' := 365) ((A.ext (ext_keep K25)).ext (ext_keep K27)) (116 : Int32) (by decide) rfl at_364 rfl ?_
        refine W.istore ok (pc' := 367) (L' := #[.val (.int p0), .val (.int p1), .val (.int p2), .val (.long p3), .second, .val (.ref a1), .val (.int ((4 : Nat).toInt32)), s7, s8, .val (.int (0 : Int32)), .val (.ref r), .val (.ref b), .val (.int (116 : Int32)), .unset, .unset, .unset, .unset, .unset, .unset]) at_365 rfl rfl ?_
        refine W.aload ok (pc' := 369) at_367 rfl rfl rfl ?_
        refine W.iconst ok (pc' := 370) (1 : Int32) at_369 rfl rfl ?_
        refine W.caload ok (pc' := 371) ((A.ext (ext_keep K25)).ext (ext_keep K27)) (114 : Int32) (by decide) rfl at_370 rfl ?_
        refine W.istore ok (pc' := 373) (L' := #[.val (.int p0), .val (.int p1), .val (.int p2), .val (.long p3), .second, .val (.ref a1), .val (.int ((4 : Nat).toInt32)), s7, s8, .val (.int (0 : Int32)), .val (.ref r), .val (.ref b), .val (.int (116 : Int32)), .val (.int (114 : Int32)), .unset, .unset, .unset, .unset, .unset]) at_371 rfl rfl ?_
        refine W.aload ok (pc' := 375) at_373 rfl rfl rfl ?_
        refine W.iconst ok (pc' := 376) (2 : Int32) at_375 rfl rfl ?_
        refine W.caload ok (pc' := 377) ((A.ext (ext_keep K25)).ext (ext_keep K27)) (117 : Int32) (by decide) rfl at_376 rfl ?_
        refine W.istore ok (pc' := 379) (L' := #[.val (.int p0), .val (.int p1), .val (.int p2), .val (.long p3), .second, .val (.ref a1), .val (.int ((4 : Nat).toInt32)), s7, s8, .val (.int (0 : Int32)), .val (.ref r), .val (.ref b), .val (.int (116 : Int32)), .val (.int (114 : Int32)), .val (.int (117 : Int32)), .unset, .unset, .unset, .unset]) at_377 rfl rfl ?_
        refine W.aload ok (pc' := 381) at_379 rfl rfl rfl ?_
        refine W.iconst ok (pc' := 382) (3 : Int32) at_381 rfl rfl ?_
        refine W.caload ok (pc' := 383) ((A.ext (ext_keep K25)).ext (ext_keep K27)) (101 : Int32) (by decide) rfl at_382 rfl ?_
        refine W.istore ok (pc' := 385) (L' := #[.val (.int p0), .val (.int p1), .val (.int p2), .val (.long p3), .second, .val (.ref a1), .val (.int ((4 : Nat).toInt32)), s7, s8, .val (.int (0 : Int32)), .val (.ref r), .val (.ref b), .val (.int (116 : Int32)), .val (.int (114 : Int32)), .val (.int (117 : Int32)), .val (.int (101 : Int32)), .unset, .unset, .unset]) at_383 rfl rfl ?_
        refine W.aload ok (pc' := 387) at_385 rfl rfl rfl ?_
        refine W.iconst ok (pc' := 388) (4 : Int32) at_387 rfl rfl ?_
        refine W.caload ok (pc' := 389) ((A.ext (ext_keep K25)).ext (ext_keep K27)) x4 (by decide) rfl at_388 rfl ?_
        refine W.istore ok (pc' := 391) (L' := #[.val (.int p0), .val (.int p1), .val (.int p2), .val (.long p3), .second, .val (.ref a1), .val (.int ((4 : Nat).toInt32)), s7, s8, .val (.int (0 : Int32)), .val (.ref r), .val (.ref b), .val (.int (116 : Int32)), .val (.int (114 : Int32)), .val (.int (117 : Int32)), .val (.int (101 : Int32)), .val (.int x4), .unset, .unset]) at_389 rfl rfl ?_
        refine W.iload ok (pc' := 393) at_391 rfl rfl ?_
        refine W.iconst ok (pc' := 394) (4 : Int32) at_393 rfl rfl ?_
        refine W.icmpne ok (pcY := 425) (pcN := 397) at_394 rfl (by decide) rfl (fun _ => ?_) (fun q => absurd (by decide) q)
        refine W.iload ok (pc' := 399) at_397 rfl rfl ?_
        refine W.bipush ok (pc' := 401) (116 : Int32) at_399 rfl rfl ?_
        refine W.icmpne ok (pcY := 425) (pcN := 404) at_401 rfl (by decide) rfl (fun _ => ?_) (fun q => absurd (by decide) q)
        refine W.iload ok (pc' := 406) at_404 rfl rfl ?_
        refine W.bipush ok (pc' := 408) (114 : Int32) at_406 rfl rfl ?_
        refine W.icmpne ok (pcY := 425) (pcN := 411) at_408 rfl (by decide) rfl (fun _ => ?_) (fun q => absurd (by decide) q)
        refine W.iload ok (pc' := 413) at_411 rfl rfl ?_
        refine W.bipush ok (pc' := 415) (117 : Int32) at_413 rfl rfl ?_
        refine W.icmpne ok (pcY := 425) (pcN := 418) at_415 rfl (by decide) rfl (fun _ => ?_) (fun q => absurd (by decide) q)
        refine W.iload ok (pc' := 420) at_418 rfl rfl ?_
        refine W.bipush ok (pc' := 422) (101 : Int32) at_420 rfl rfl ?_
        refine W.icmpeq ok (pcY := 452) (pcN := 425) at_422 rfl (by decide) rfl (fun _ => ?_) (fun q => absurd (by decide) q)
        refine W.iconst ok (pc' := 453) (1 : Int32) at_452 rfl rfl ?_
        refine W.goto ok (pc' := 457) at_453 (by decide) rfl ?_
        refine W.istore ok (pc' := 459) (L' := #[.val (.int p0), .val (.int p1), .val (.int p2), .val (.long p3), .second, .val (.ref a1), .val (.int ((4 : Nat).toInt32)), s7, s8, .val (.int (0 : Int32)), .val (.ref r), .val (.ref b), .val (.int (116 : Int32)), .val (.int (114 : Int32)), .val (.int (117 : Int32)), .val (.int (101 : Int32)), .val (.int x4), .val (.int (1 : Int32)), .unset]) at_457 rfl rfl ?_
        refine W.iload ok (pc' := 461) at_459 rfl rfl ?_
        refine W.iconst ok (pc' := 462) (5 : Int32) at_461 rfl rfl ?_
        refine W.icmpne ok (pcY := 500) (pcN := 465) at_462 rfl (by decide) rfl (fun q => absurd q (by decide)) (fun _ => ?_)
        refine W.iload ok (pc' := 502) at_500 rfl rfl ?_
        refine W.iconst ok (pc' := 503) (2 : Int32) at_502 rfl rfl ?_
        refine W.icmpne ok (pcY := 524) (pcN := 506) at_503 rfl (by decide) rfl (fun q => absurd q (by decide)) (fun _ => ?_)
        refine W.iconst ok (pc' := 525) (0 : Int32) at_524 rfl rfl ?_
        refine W.istore ok (pc' := 527) (L' := #[.val (.int p0), .val (.int p1), .val (.int p2), .val (.long p3), .second, .val (.ref a1), .val (.int ((4 : Nat).toInt32)), s7, s8, .val (.int (0 : Int32)), .val (.ref r), .val (.ref b), .val (.int (116 : Int32)), .val (.int (114 : Int32)), .val (.int (117 : Int32)), .val (.int (101 : Int32)), .val (.int x4), .val (.int (1 : Int32)), .val (.int (0 : Int32))]) at_525 rfl rfl ?_
        refine W.iload ok (pc' := 529) at_527 rfl rfl ?_
        refine W.ifeq ok (pcY := 551) (pcN := 532) at_529 rfl (by decide) rfl (fun q => absurd q (by decide)) (fun _ => ?_)
        refine W.aload ok (pc' := 534) at_532 rfl rfl rfl ?_
        refine W.ifnull ok (pcY := 549) (pcN := 537) at_534 rfl rfl (by decide) rfl (fun q => absurd q (fun e => by cases e)) (fun _ => ?_)
        refine W.aload ok (pc' := 539) at_537 rfl rfl rfl ?_
        refine W.callV ok (rest := []) (cl' := (true, [])) (pc' := 542) (w90 hw) (w91 hw) (w93 hw) (w92 hw) (w89 hw) (w94 hw) (by decide) Xb pd_3 rfl (k_bv l Z a0 hE b 1 h26 Fb rfl) (fun _ q => (nomatch q)) (fun q => ⟨q, fun _ q => (nomatch q)⟩) rfl rfl (Nat.le_of_ble_eq_true rfl) (Nat.le_of_ble_eq_true rfl) (Nat.le_of_ble_eq_true rfl) (Nat.le_of_ble_eq_true rfl) at_539 rfl rfl (pureK ?_)
        show W B h26 17 129 (a1 :: M) (true, []) 542 #[.val (.int p0), .val (.int p1), .val (.int p2), .val (.long p3), .second, .val (.ref a1), .val (.int ((4 : Nat).toInt32)), s7, s8, .val (.int (0 : Int32)), .val (.ref r), .val (.ref b), .val (.int (116 : Int32)), .val (.int (114 : Int32)), .val (.int (117 : Int32)), .val (.int (101 : Int32)), .val (.int x4), .val (.int (1 : Int32)), .val (.int (0 : Int32))] [(.int (1 : Int32))]
        refine W.ifeq ok (pcY := 549) (pcN := 545) at_542 rfl (by decide) rfl (fun q => absurd q (by decide)) (fun _ => ?_)
        refine W.iconst ok (pc' := 546) (1 : Int32) at_545 rfl rfl ?_
        refine W.goto ok (pc' := 550) at_546 (by decide) rfl ?_
        exact W.retZ ok at_550 rfl (Nat.le_of_ble_eq_true rfl) (Nat.le_of_ble_eq_true rfl) (fun x (q : x ∈ M) => (List.mem_cons_of_mem _ q)) (fun kp => rfl)
      · obtain ⟨rfl, rfl, rfl, rfl⟩ := take_y hl hw1
        show W B h26 17 129 (a1 :: M) (true, []) 343 #[.val (.int p0), .val (.int p1), .val (.int p2), .val (.long p3), .second, .val (.ref a1), .val (.int ((3 : Nat).toInt32)), s7, s8, .val (.int (0 : Int32)), .val (.ref r), s11, .unset, .unset, .unset, .unset, .unset, .unset, .unset] [(.ref b)]
        refine W.astoreS ok (pc' := 345) (L' := #[.val (.int p0), .val (.int p1), .val (.int p2), .val (.long p3), .second, .val (.ref a1), .val (.int ((3 : Nat).toInt32)), s7, s8, .val (.int (0 : Int32)), .val (.ref r), .val (.ref b), .unset, .unset, .unset, .unset, .unset, .unset, .unset]) at_343 rfl rfl rfl h11 rfl ?_
        refine W.iload ok (pc' := 347) at_345 rfl rfl ?_
        refine W.ifeq ok (pcY := 361) (pcN := 350) at_347 rfl (by decide) rfl (fun _ => ?_) (fun q => absurd rfl q)
        refine W.aload ok (pc' := 363) at_361 rfl rfl rfl ?_
        refine W.iconst ok (pc' := 364) (0 : Int32) at_363 rfl rfl ?_
        refine W.caload ok (pc' := 365) ((A.ext (ext_keep K25)).ext (ext_keep K27)) (121 : Int32) (by decide) rfl at_364 rfl ?_
        refine W.istore ok (pc' := 367) (L' := #[.val (.int p0), .val (.int p1), .val (.int p2), .val (.long p3), .second, .val (.ref a1), .val (.int ((3 : Nat).toInt32)), s7, s8, .val (.int (0 : Int32)), .val (.ref r), .val (.ref b), .val (.int (121 : Int32)), .unset, .unset, .unset, .unset, .unset, .unset]) at_365 rfl rfl ?_
        refine W.aload ok (pc' := 369) at_367 rfl rfl rfl ?_
        refine W.iconst ok (pc' := 370) (1 : Int32) at_369 rfl rfl ?_
        refine W.caload ok (pc' := 371) ((A.ext (ext_keep K25)).ext (ext_keep K27)) (101 : Int32) (by decide) rfl at_370 rfl ?_
        refine W.istore ok (pc' := 373) (L' := #[.val (.int p0), .val (.int p1), .val (.int p2), .val (.long p3), .second, .val (.ref a1), .val (.int ((3 : Nat).toInt32)), s7, s8, .val (.int (0 : Int32)), .val (.ref r), .val (.ref b), .val (.int (121 : Int32)), .val (.int (101 : Int32)), .unset, .unset, .unset, .unset, .unset]) at_371 rfl rfl ?_
        refine W.aload ok (pc' := 375) at_373 rfl rfl rfl ?_
        refine W.iconst ok (pc' := 376) (2 : Int32) at_375 rfl rfl ?_
        refine W.caload ok (pc' := 377) ((A.ext (ext_keep K25)).ext (ext_keep K27)) (115 : Int32) (by decide) rfl at_376 rfl ?_
        refine W.istore ok (pc' := 379) (L' := #[.val (.int p0), .val (.int p1), .val (.int p2), .val (.long p3), .second, .val (.ref a1), .val (.int ((3 : Nat).toInt32)), s7, s8, .val (.int (0 : Int32)), .val (.ref r), .val (.ref b), .val (.int (121 : Int32)), .val (.int (101 : Int32)), .val (.int (115 : Int32)), .unset, .unset, .unset, .unset]) at_377 rfl rfl ?_
        refine W.aload ok (pc' := 381) at_379 rfl rfl rfl ?_
        refine W.iconst ok (pc' := 382) (3 : Int32) at_381 rfl rfl ?_
        refine W.caload ok (pc' := 383) ((A.ext (ext_keep K25)).ext (ext_keep K27)) x3 (by decide) rfl at_382 rfl ?_
        refine W.istore ok (pc' := 385) (L' := #[.val (.int p0), .val (.int p1), .val (.int p2), .val (.long p3), .second, .val (.ref a1), .val (.int ((3 : Nat).toInt32)), s7, s8, .val (.int (0 : Int32)), .val (.ref r), .val (.ref b), .val (.int (121 : Int32)), .val (.int (101 : Int32)), .val (.int (115 : Int32)), .val (.int x3), .unset, .unset, .unset]) at_383 rfl rfl ?_
        refine W.aload ok (pc' := 387) at_385 rfl rfl rfl ?_
        refine W.iconst ok (pc' := 388) (4 : Int32) at_387 rfl rfl ?_
        refine W.caload ok (pc' := 389) ((A.ext (ext_keep K25)).ext (ext_keep K27)) x4 (by decide) rfl at_388 rfl ?_
        refine W.istore ok (pc' := 391) (L' := #[.val (.int p0), .val (.int p1), .val (.int p2), .val (.long p3), .second, .val (.ref a1), .val (.int ((3 : Nat).toInt32)), s7, s8, .val (.int (0 : Int32)), .val (.ref r), .val (.ref b), .val (.int (121 : Int32)), .val (.int (101 : Int32)), .val (.int (115 : Int32)), .val (.int x3), .val (.int x4), .unset, .unset]) at_389 rfl rfl ?_
        refine W.iload ok (pc' := 393) at_391 rfl rfl ?_
        refine W.iconst ok (pc' := 394) (4 : Int32) at_393 rfl rfl ?_
        refine W.icmpne ok (pcY := 425) (pcN := 397) at_394 rfl (by decide) rfl (fun q => absurd q (by decide)) (fun _ => ?_)
        refine W.iload ok (pc' := 427) at_425 rfl rfl ?_
        refine W.iconst ok (pc' := 428) (3 : Int32) at_427 rfl rfl ?_
        refine W.icmpne ok (pcY := 456) (pcN := 431) at_428 rfl (by decide) rfl (fun _ => ?_) (fun q => absurd (by decide) q)
        refine W.iload ok (pc' := 433) at_431 rfl rfl ?_
        refine W.bipush ok (pc' := 435) (121 : Int32) at_433 rfl rfl ?_
        refine W.icmpne ok (pcY := 456) (pcN := 438) at_435 rfl (by decide) rfl (fun _ => ?_) (fun q => absurd (by decide) q)
        refine W.iload ok (pc' := 440) at_438 rfl rfl ?_
        refine W.bipush ok (pc' := 442) (101 : Int32) at_440 rfl rfl ?_
        refine W.icmpne ok (pcY := 456) (pcN := 445) at_442 rfl (by decide) rfl (fun _ => ?_) (fun q => absurd (by decide) q)
        refine W.iload ok (pc' := 447) at_445 rfl rfl ?_
        refine W.bipush ok (pc' := 449) (115 : Int32) at_447 rfl rfl ?_
        refine W.icmpne ok (pcY := 456) (pcN := 452) at_449 rfl (by decide) rfl (fun _ => ?_) (fun q => absurd (by decide) q)
        refine W.iconst ok (pc' := 453) (1 : Int32) at_452 rfl rfl ?_
        refine W.goto ok (pc' := 457) at_453 (by decide) rfl ?_
        refine W.istore ok (pc' := 459) (L' := #[.val (.int p0), .val (.int p1), .val (.int p2), .val (.long p3), .second, .val (.ref a1), .val (.int ((3 : Nat).toInt32)), s7, s8, .val (.int (0 : Int32)), .val (.ref r), .val (.ref b), .val (.int (121 : Int32)), .val (.int (101 : Int32)), .val (.int (115 : Int32)), .val (.int x3), .val (.int x4), .val (.int (1 : Int32)), .unset]) at_457 rfl rfl ?_
        refine W.iload ok (pc' := 461) at_459 rfl rfl ?_
        refine W.iconst ok (pc' := 462) (5 : Int32) at_461 rfl rfl ?_
        refine W.icmpne ok (pcY := 500) (pcN := 465) at_462 rfl (by decide) rfl (fun q => absurd q (by decide)) (fun _ => ?_)
        refine W.iload ok (pc' := 502) at_500 rfl rfl ?_
        refine W.iconst ok (pc' := 503) (2 : Int32) at_502 rfl rfl ?_
        refine W.icmpne ok (pcY := 524) (pcN := 506) at_503 rfl (by decide) rfl (fun q => absurd q (by decide)) (fun _ => ?_)
        refine W.iconst ok (pc' := 525) (0 : Int32) at_524 rfl rfl ?_
        refine W.istore ok (pc' := 527) (L' := #[.val (.int p0), .val (.int p1), .val (.int p2), .val (.long p3), .second, .val (.ref a1), .val (.int ((3 : Nat).toInt32)), s7, s8, .val (.int (0 : Int32)), .val (.ref r), .val (.ref b), .val (.int (121 : Int32)), .val (.int (101 : Int32)), .val (.int (115 : Int32)), .val (.int x3), .val (.int x4), .val (.int (1 : Int32)), .val (.int (0 : Int32))]) at_525 rfl rfl ?_
        refine W.iload ok (pc' := 529) at_527 rfl rfl ?_
        refine W.ifeq ok (pcY := 551) (pcN := 532) at_529 rfl (by decide) rfl (fun q => absurd q (by decide)) (fun _ => ?_)
        refine W.aload ok (pc' := 534) at_532 rfl rfl rfl ?_
        refine W.ifnull ok (pcY := 549) (pcN := 537) at_534 rfl rfl (by decide) rfl (fun q => absurd q (fun e => by cases e)) (fun _ => ?_)
        refine W.aload ok (pc' := 539) at_537 rfl rfl rfl ?_
        refine W.callV ok (rest := []) (cl' := (true, [])) (pc' := 542) (w90 hw) (w91 hw) (w93 hw) (w92 hw) (w89 hw) (w94 hw) (by decide) Xb pd_3 rfl (k_bv l Z a0 hE b 1 h26 Fb rfl) (fun _ q => (nomatch q)) (fun q => ⟨q, fun _ q => (nomatch q)⟩) rfl rfl (Nat.le_of_ble_eq_true rfl) (Nat.le_of_ble_eq_true rfl) (Nat.le_of_ble_eq_true rfl) (Nat.le_of_ble_eq_true rfl) at_539 rfl rfl (pureK ?_)
        show W B h26 17 129 (a1 :: M) (true, []) 542 #[.val (.int p0), .val (.int p1), .val (.int p2), .val (.long p3), .second, .val (.ref a1), .val (.int ((3 : Nat).toInt32)), s7, s8, .val (.int (0 : Int32)), .val (.ref r), .val (.ref b), .val (.int (121 : Int32)), .val (.int (101 : Int32)), .val (.int (115 : Int32)), .val (.int x3), .val (.int x4), .val (.int (1 : Int32)), .val (.int (0 : Int32))] [(.int (1 : Int32))]
        refine W.ifeq ok (pcY := 549) (pcN := 545) at_542 rfl (by decide) rfl (fun q => absurd q (by decide)) (fun _ => ?_)
        refine W.iconst ok (pc' := 546) (1 : Int32) at_545 rfl rfl ?_
        refine W.goto ok (pc' := 550) at_546 (by decide) rfl ?_
        exact W.retZ ok at_550 rfl (Nat.le_of_ble_eq_true rfl) (Nat.le_of_ble_eq_true rfl) (fun x (q : x ∈ M) => (List.mem_cons_of_mem _ q)) (fun kp => rfl)
      · obtain ⟨rfl, rfl, rfl, rfl, rfl, rfl⟩ := take_f hl hw1
        show W B h26 17 129 (a1 :: M) (true, []) 343 #[.val (.int p0), .val (.int p1), .val (.int p2), .val (.long p3), .second, .val (.ref a1), .val (.int ((5 : Nat).toInt32)), s7, s8, .val (.int (0 : Int32)), .val (.ref r), s11, .unset, .unset, .unset, .unset, .unset, .unset, .unset] [(.ref b)]
        refine W.astoreS ok (pc' := 345) (L' := #[.val (.int p0), .val (.int p1), .val (.int p2), .val (.long p3), .second, .val (.ref a1), .val (.int ((5 : Nat).toInt32)), s7, s8, .val (.int (0 : Int32)), .val (.ref r), .val (.ref b), .unset, .unset, .unset, .unset, .unset, .unset, .unset]) at_343 rfl rfl rfl h11 rfl ?_
        refine W.iload ok (pc' := 347) at_345 rfl rfl ?_
        refine W.ifeq ok (pcY := 361) (pcN := 350) at_347 rfl (by decide) rfl (fun _ => ?_) (fun q => absurd rfl q)
        refine W.aload ok (pc' := 363) at_361 rfl rfl rfl ?_
        refine W.iconst ok (pc' := 364) (0 : Int32) at_363 rfl rfl ?_
        refine W.caload ok (pc' := 365) ((A.ext (ext_keep K25)).ext (ext_keep K27)) (102 : Int32) (by decide) rfl at_364 rfl ?_
        refine W.istore ok (pc' := 367) (L' := #[.val (.int p0), .val (.int p1), .val (.int p2), .val (.long p3), .second, .val (.ref a1), .val (.int ((5 : Nat).toInt32)), s7, s8, .val (.int (0 : Int32)), .val (.ref r), .val (.ref b), .val (.int (102 : Int32)), .unset, .unset, .unset, .unset, .unset, .unset]) at_365 rfl rfl ?_
        refine W.aload ok (pc' := 369) at_367 rfl rfl rfl ?_
        refine W.iconst ok (pc' := 370) (1 : Int32) at_369 rfl rfl ?_
        refine W.caload ok (pc' := 371) ((A.ext (ext_keep K25)).ext (ext_keep K27)) (97 : Int32) (by decide) rfl at_370 rfl ?_
        refine W.istore ok (pc' := 373) (L' := #[.val (.int p0), .val (.int p1), .val (.int p2), .val (.long p3), .second, .val (.ref a1), .val (.int ((5 : Nat).toInt32)), s7, s8, .val (.int (0 : Int32)), .val (.ref r), .val (.ref b), .val (.int (102 : Int32)), .val (.int (97 : Int32)), .unset, .unset, .unset, .unset, .unset]) at_371 rfl rfl ?_
        refine W.aload ok (pc' := 375) at_373 rfl rfl rfl ?_
        refine W.iconst ok (pc' := 376) (2 : Int32) at_375 rfl rfl ?_
        refine W.caload ok (pc' := 377) ((A.ext (ext_keep K25)).ext (ext_keep K27)) (108 : Int32) (by decide) rfl at_376 rfl ?_
        refine W.istore ok (pc' := 379) (L' := #[.val (.int p0), .val (.int p1), .val (.int p2), .val (.long p3), .second, .val (.ref a1), .val (.int ((5 : Nat).toInt32)), s7, s8, .val (.int (0 : Int32)), .val (.ref r), .val (.ref b), .val (.int (102 : Int32)), .val (.int (97 : Int32)), .val (.int (108 : Int32)), .unset, .unset, .unset, .unset]) at_377 rfl rfl ?_
        refine W.aload ok (pc' := 381) at_379 rfl rfl rfl ?_
        refine W.iconst ok (pc' := 382) (3 : Int32) at_381 rfl rfl ?_
        refine W.caload ok (pc' := 383) ((A.ext (ext_keep K25)).ext (ext_keep K27)) (115 : Int32) (by decide) rfl at_382 rfl ?_
        refine W.istore ok (pc' := 385) (L' := #[.val (.int p0), .val (.int p1), .val (.int p2), .val (.long p3), .second, .val (.ref a1), .val (.int ((5 : Nat).toInt32)), s7, s8, .val (.int (0 : Int32)), .val (.ref r), .val (.ref b), .val (.int (102 : Int32)), .val (.int (97 : Int32)), .val (.int (108 : Int32)), .val (.int (115 : Int32)), .unset, .unset, .unset]) at_383 rfl rfl ?_
        refine W.aload ok (pc' := 387) at_385 rfl rfl rfl ?_
        refine W.iconst ok (pc' := 388) (4 : Int32) at_387 rfl rfl ?_
        refine W.caload ok (pc' := 389) ((A.ext (ext_keep K25)).ext (ext_keep K27)) (101 : Int32) (by decide) rfl at_388 rfl ?_
        refine W.istore ok (pc' := 391) (L' := #[.val (.int p0), .val (.int p1), .val (.int p2), .val (.long p3), .second, .val (.ref a1), .val (.int ((5 : Nat).toInt32)), s7, s8, .val (.int (0 : Int32)), .val (.ref r), .val (.ref b), .val (.int (102 : Int32)), .val (.int (97 : Int32)), .val (.int (108 : Int32)), .val (.int (115 : Int32)), .val (.int (101 : Int32)), .unset, .unset]) at_389 rfl rfl ?_
        refine W.iload ok (pc' := 393) at_391 rfl rfl ?_
        refine W.iconst ok (pc' := 394) (4 : Int32) at_393 rfl rfl ?_
        refine W.icmpne ok (pcY := 425) (pcN := 397) at_394 rfl (by decide) rfl (fun q => absurd q (by decide)) (fun _ => ?_)
        refine W.iload ok (pc' := 427) at_425 rfl rfl ?_
        refine W.iconst ok (pc' := 428) (3 : Int32) at_427 rfl rfl ?_
        refine W.icmpne ok (pcY := 456) (pcN := 431) at_428 rfl (by decide) rfl (fun q => absurd q (by decide)) (fun _ => ?_)
        refine W.iconst ok (pc' := 457) (0 : Int32) at_456 rfl rfl ?_
        refine W.istore ok (pc' := 459) (L' := #[.val (.int p0), .val (.int p1), .val (.int p2), .val (.long p3), .second, .val (.ref a1), .val (.int ((5 : Nat).toInt32)), s7, s8, .val (.int (0 : Int32)), .val (.ref r), .val (.ref b), .val (.int (102 : Int32)), .val (.int (97 : Int32)), .val (.int (108 : Int32)), .val (.int (115 : Int32)), .val (.int (101 : Int32)), .val (.int (0 : Int32)), .unset]) at_457 rfl rfl ?_
        refine W.iload ok (pc' := 461) at_459 rfl rfl ?_
        refine W.iconst ok (pc' := 462) (5 : Int32) at_461 rfl rfl ?_
        refine W.icmpne ok (pcY := 500) (pcN := 465) at_462 rfl (by decide) rfl (fun _ => ?_) (fun q => absurd (by decide) q)
        refine W.iload ok (pc' := 467) at_465 rfl rfl ?_
        refine W.bipush ok (pc' := 469) (102 : Int32) at_467 rfl rfl ?_
        refine W.icmpne ok (pcY := 500) (pcN := 472) at_469 rfl (by decide) rfl (fun _ => ?_) (fun q => absurd (by decide) q)
        refine W.iload ok (pc' := 474) at_472 rfl rfl ?_
        refine W.bipush ok (pc' := 476) (97 : Int32) at_474 rfl rfl ?_
        refine W.icmpne ok (pcY := 500) (pcN := 479) at_476 rfl (by decide) rfl (fun _ => ?_) (fun q => absurd (by decide) q)
        refine W.iload ok (pc' := 481) at_479 rfl rfl ?_
        refine W.bipush ok (pc' := 483) (108 : Int32) at_481 rfl rfl ?_
        refine W.icmpne ok (pcY := 500) (pcN := 486) at_483 rfl (by decide) rfl (fun _ => ?_) (fun q => absurd (by decide) q)
        refine W.iload ok (pc' := 488) at_486 rfl rfl ?_
        refine W.bipush ok (pc' := 490) (115 : Int32) at_488 rfl rfl ?_
        refine W.icmpne ok (pcY := 500) (pcN := 493) at_490 rfl (by decide) rfl (fun _ => ?_) (fun q => absurd (by decide) q)
        refine W.iload ok (pc' := 495) at_493 rfl rfl ?_
        refine W.bipush ok (pc' := 497) (101 : Int32) at_495 rfl rfl ?_
        refine W.icmpeq ok (pcY := 520) (pcN := 500) at_497 rfl (by decide) rfl (fun _ => ?_) (fun q => absurd (by decide) q)
        refine W.iconst ok (pc' := 521) (1 : Int32) at_520 rfl rfl ?_
        refine W.goto ok (pc' := 525) at_521 (by decide) rfl ?_
        refine W.istore ok (pc' := 527) (L' := #[.val (.int p0), .val (.int p1), .val (.int p2), .val (.long p3), .second, .val (.ref a1), .val (.int ((5 : Nat).toInt32)), s7, s8, .val (.int (0 : Int32)), .val (.ref r), .val (.ref b), .val (.int (102 : Int32)), .val (.int (97 : Int32)), .val (.int (108 : Int32)), .val (.int (115 : Int32)), .val (.int (101 : Int32)), .val (.int (0 : Int32)), .val (.int (1 : Int32))]) at_525 rfl rfl ?_
        refine W.iload ok (pc' := 529) at_527 rfl rfl ?_
        refine W.ifeq ok (pcY := 551) (pcN := 532) at_529 rfl (by decide) rfl (fun _ => ?_) (fun q => absurd (by decide) q)
        refine W.iload ok (pc' := 553) at_551 rfl rfl ?_
        refine W.ifeq ok (pcY := 575) (pcN := 556) at_553 rfl (by decide) rfl (fun q => absurd q (by decide)) (fun _ => ?_)
        refine W.aload ok (pc' := 558) at_556 rfl rfl rfl ?_
        refine W.ifnull ok (pcY := 573) (pcN := 561) at_558 rfl rfl (by decide) rfl (fun q => absurd q (fun e => by cases e)) (fun _ => ?_)
        refine W.aload ok (pc' := 563) at_561 rfl rfl rfl ?_
        refine W.callV ok (rest := []) (cl' := (true, [])) (pc' := 566) (w90 hw) (w91 hw) (w93 hw) (w92 hw) (w89 hw) (w94 hw) (by decide) Xb pd_3 rfl (k_bv l Z a0 hE b 0 h26 Fb rfl) (fun _ q => (nomatch q)) (fun q => ⟨q, fun _ q => (nomatch q)⟩) rfl rfl (Nat.le_of_ble_eq_true rfl) (Nat.le_of_ble_eq_true rfl) (Nat.le_of_ble_eq_true rfl) (Nat.le_of_ble_eq_true rfl) at_563 rfl rfl (pureK ?_)
        show W B h26 17 129 (a1 :: M) (true, []) 566 #[.val (.int p0), .val (.int p1), .val (.int p2), .val (.long p3), .second, .val (.ref a1), .val (.int ((5 : Nat).toInt32)), s7, s8, .val (.int (0 : Int32)), .val (.ref r), .val (.ref b), .val (.int (102 : Int32)), .val (.int (97 : Int32)), .val (.int (108 : Int32)), .val (.int (115 : Int32)), .val (.int (101 : Int32)), .val (.int (0 : Int32)), .val (.int (1 : Int32))] [(.int (0 : Int32))]
        refine W.ifne ok (pcY := 573) (pcN := 569) at_566 rfl (by decide) rfl (fun _ => ?_) (fun q => absurd (by decide) q)
        refine W.iconst ok (pc' := 570) (1 : Int32) at_569 rfl rfl ?_
        refine W.goto ok (pc' := 574) at_570 (by decide) rfl ?_
        exact W.retZ ok at_574 rfl (Nat.le_of_ble_eq_true rfl) (Nat.le_of_ble_eq_true rfl) (fun x (q : x ∈ M) => (List.mem_cons_of_mem _ q)) (fun kp => rfl)
      · obtain ⟨rfl, rfl, rfl⟩ := take_n hl hw1
        show W B h26 17 129 (a1 :: M) (true, []) 343 #[.val (.int p0), .val (.int p1), .val (.int p2), .val (.long p3), .second, .val (.ref a1), .val (.int ((2 : Nat).toInt32)), s7, s8, .val (.int (0 : Int32)), .val (.ref r), s11, .unset, .unset, .unset, .unset, .unset, .unset, .unset] [(.ref b)]
        refine W.astoreS ok (pc' := 345) (L' := #[.val (.int p0), .val (.int p1), .val (.int p2), .val (.long p3), .second, .val (.ref a1), .val (.int ((2 : Nat).toInt32)), s7, s8, .val (.int (0 : Int32)), .val (.ref r), .val (.ref b), .unset, .unset, .unset, .unset, .unset, .unset, .unset]) at_343 rfl rfl rfl h11 rfl ?_
        refine W.iload ok (pc' := 347) at_345 rfl rfl ?_
        refine W.ifeq ok (pcY := 361) (pcN := 350) at_347 rfl (by decide) rfl (fun _ => ?_) (fun q => absurd rfl q)
        refine W.aload ok (pc' := 363) at_361 rfl rfl rfl ?_
        refine W.iconst ok (pc' := 364) (0 : Int32) at_363 rfl rfl ?_
        refine W.caload ok (pc' := 365) ((A.ext (ext_keep K25)).ext (ext_keep K27)) (110 : Int32) (by decide) rfl at_364 rfl ?_
        refine W.istore ok (pc' := 367) (L' := #[.val (.int p0), .val (.int p1), .val (.int p2), .val (.long p3), .second, .val (.ref a1), .val (.int ((2 : Nat).toInt32)), s7, s8, .val (.int (0 : Int32)), .val (.ref r), .val (.ref b), .val (.int (110 : Int32)), .unset, .unset, .unset, .unset, .unset, .unset]) at_365 rfl rfl ?_
        refine W.aload ok (pc' := 369) at_367 rfl rfl rfl ?_
        refine W.iconst ok (pc' := 370) (1 : Int32) at_369 rfl rfl ?_
        refine W.caload ok (pc' := 371) ((A.ext (ext_keep K25)).ext (ext_keep K27)) (111 : Int32) (by decide) rfl at_370 rfl ?_
        refine W.istore ok (pc' := 373) (L' := #[.val (.int p0), .val (.int p1), .val (.int p2), .val (.long p3), .second, .val (.ref a1), .val (.int ((2 : Nat).toInt32)), s7, s8, .val (.int (0 : Int32)), .val (.ref r), .val (.ref b), .val (.int (110 : Int32)), .val (.int (111 : Int32)), .unset, .unset, .unset, .unset, .unset]) at_371 rfl rfl ?_
        refine W.aload ok (pc' := 375) at_373 rfl rfl rfl ?_
        refine W.iconst ok (pc' := 376) (2 : Int32) at_375 rfl rfl ?_
        refine W.caload ok (pc' := 377) ((A.ext (ext_keep K25)).ext (ext_keep K27)) x2 (by decide) rfl at_376 rfl ?_
        refine W.istore ok (pc' := 379) (L' := #[.val (.int p0), .val (.int p1), .val (.int p2), .val (.long p3), .second, .val (.ref a1), .val (.int ((2 : Nat).toInt32)), s7, s8, .val (.int (0 : Int32)), .val (.ref r), .val (.ref b), .val (.int (110 : Int32)), .val (.int (111 : Int32)), .val (.int x2), .unset, .unset, .unset, .unset]) at_377 rfl rfl ?_
        refine W.aload ok (pc' := 381) at_379 rfl rfl rfl ?_
        refine W.iconst ok (pc' := 382) (3 : Int32) at_381 rfl rfl ?_
        refine W.caload ok (pc' := 383) ((A.ext (ext_keep K25)).ext (ext_keep K27)) x3 (by decide) rfl at_382 rfl ?_
        refine W.istore ok (pc' := 385) (L' := #[.val (.int p0), .val (.int p1), .val (.int p2), .val (.long p3), .second, .val (.ref a1), .val (.int ((2 : Nat).toInt32)), s7, s8, .val (.int (0 : Int32)), .val (.ref r), .val (.ref b), .val (.int (110 : Int32)), .val (.int (111 : Int32)), .val (.int x2), .val (.int x3), .unset, .unset, .unset]) at_383 rfl rfl ?_
        refine W.aload ok (pc' := 387) at_385 rfl rfl rfl ?_
        refine W.iconst ok (pc' := 388) (4 : Int32) at_387 rfl rfl ?_
        refine W.caload ok (pc' := 389) ((A.ext (ext_keep K25)).ext (ext_keep K27)) x4 (by decide) rfl at_388 rfl ?_
        refine W.istore ok (pc' := 391) (L' := #[.val (.int p0), .val (.int p1), .val (.int p2), .val (.long p3), .second, .val (.ref a1), .val (.int ((2 : Nat).toInt32)), s7, s8, .val (.int (0 : Int32)), .val (.ref r), .val (.ref b), .val (.int (110 : Int32)), .val (.int (111 : Int32)), .val (.int x2), .val (.int x3), .val (.int x4), .unset, .unset]) at_389 rfl rfl ?_
        refine W.iload ok (pc' := 393) at_391 rfl rfl ?_
        refine W.iconst ok (pc' := 394) (4 : Int32) at_393 rfl rfl ?_
        refine W.icmpne ok (pcY := 425) (pcN := 397) at_394 rfl (by decide) rfl (fun q => absurd q (by decide)) (fun _ => ?_)
        refine W.iload ok (pc' := 427) at_425 rfl rfl ?_
        refine W.iconst ok (pc' := 428) (3 : Int32) at_427 rfl rfl ?_
        refine W.icmpne ok (pcY := 456) (pcN := 431) at_428 rfl (by decide) rfl (fun q => absurd q (by decide)) (fun _ => ?_)
        refine W.iconst ok (pc' := 457) (0 : Int32) at_456 rfl rfl ?_
        refine W.istore ok (pc' := 459) (L' := #[.val (.int p0), .val (.int p1), .val (.int p2), .val (.long p3), .second, .val (.ref a1), .val (.int ((2 : Nat).toInt32)), s7, s8, .val (.int (0 : Int32)), .val (.ref r), .val (.ref b), .val (.int (110 : Int32)), .val (.int (111 : Int32)), .val (.int x2), .val (.int x3), .val (.int x4), .val (.int (0 : Int32)), .unset]) at_457 rfl rfl ?_
        refine W.iload ok (pc' := 461) at_459 rfl rfl ?_
        refine W.iconst ok (pc' := 462) (5 : Int32) at_461 rfl rfl ?_
        refine W.icmpne ok (pcY := 500) (pcN := 465) at_462 rfl (by decide) rfl (fun q => absurd q (by decide)) (fun _ => ?_)
        refine W.iload ok (pc' := 502) at_500 rfl rfl ?_
        refine W.iconst ok (pc' := 503) (2 : Int32) at_502 rfl rfl ?_
        refine W.icmpne ok (pcY := 524) (pcN := 506) at_503 rfl (by decide) rfl (fun _ => ?_) (fun q => absurd (by decide) q)
        refine W.iload ok (pc' := 508) at_506 rfl rfl ?_
        refine W.bipush ok (pc' := 510) (110 : Int32) at_508 rfl rfl ?_
        refine W.icmpne ok (pcY := 524) (pcN := 513) at_510 rfl (by decide) rfl (fun _ => ?_) (fun q => absurd (by decide) q)
        refine W.iload ok (pc' := 515) at_513 rfl rfl ?_
        refine W.bipush ok (pc' := 517) (111 : Int32) at_515 rfl rfl ?_
        refine W.icmpne ok (pcY := 524) (pcN := 520) at_517 rfl (by decide) rfl (fun _ => ?_) (fun q => absurd (by decide) q)
        refine W.iconst ok (pc' := 521) (1 : Int32) at_520 rfl rfl ?_
        refine W.goto ok (pc' := 525) at_521 (by decide) rfl ?_
        refine W.istore ok (pc' := 527) (L' := #[.val (.int p0), .val (.int p1), .val (.int p2), .val (.long p3), .second, .val (.ref a1), .val (.int ((2 : Nat).toInt32)), s7, s8, .val (.int (0 : Int32)), .val (.ref r), .val (.ref b), .val (.int (110 : Int32)), .val (.int (111 : Int32)), .val (.int x2), .val (.int x3), .val (.int x4), .val (.int (0 : Int32)), .val (.int (1 : Int32))]) at_525 rfl rfl ?_
        refine W.iload ok (pc' := 529) at_527 rfl rfl ?_
        refine W.ifeq ok (pcY := 551) (pcN := 532) at_529 rfl (by decide) rfl (fun _ => ?_) (fun q => absurd (by decide) q)
        refine W.iload ok (pc' := 553) at_551 rfl rfl ?_
        refine W.ifeq ok (pcY := 575) (pcN := 556) at_553 rfl (by decide) rfl (fun q => absurd q (by decide)) (fun _ => ?_)
        refine W.aload ok (pc' := 558) at_556 rfl rfl rfl ?_
        refine W.ifnull ok (pcY := 573) (pcN := 561) at_558 rfl rfl (by decide) rfl (fun q => absurd q (fun e => by cases e)) (fun _ => ?_)
        refine W.aload ok (pc' := 563) at_561 rfl rfl rfl ?_
        refine W.callV ok (rest := []) (cl' := (true, [])) (pc' := 566) (w90 hw) (w91 hw) (w93 hw) (w92 hw) (w89 hw) (w94 hw) (by decide) Xb pd_3 rfl (k_bv l Z a0 hE b 0 h26 Fb rfl) (fun _ q => (nomatch q)) (fun q => ⟨q, fun _ q => (nomatch q)⟩) rfl rfl (Nat.le_of_ble_eq_true rfl) (Nat.le_of_ble_eq_true rfl) (Nat.le_of_ble_eq_true rfl) (Nat.le_of_ble_eq_true rfl) at_563 rfl rfl (pureK ?_)
        show W B h26 17 129 (a1 :: M) (true, []) 566 #[.val (.int p0), .val (.int p1), .val (.int p2), .val (.long p3), .second, .val (.ref a1), .val (.int ((2 : Nat).toInt32)), s7, s8, .val (.int (0 : Int32)), .val (.ref r), .val (.ref b), .val (.int (110 : Int32)), .val (.int (111 : Int32)), .val (.int x2), .val (.int x3), .val (.int x4), .val (.int (0 : Int32)), .val (.int (1 : Int32))] [(.int (0 : Int32))]
        refine W.ifne ok (pcY := 573) (pcN := 569) at_566 rfl (by decide) rfl (fun _ => ?_) (fun q => absurd (by decide) q)
        refine W.iconst ok (pc' := 570) (1 : Int32) at_569 rfl rfl ?_
        refine W.goto ok (pc' := 574) at_570 (by decide) rfl ?_
        exact W.retZ ok at_574 rfl (Nat.le_of_ble_eq_true rfl) (Nat.le_of_ble_eq_true rfl) (fun x (q : x ∈ M) => (List.mem_cons_of_mem _ q)) (fun kp => rfl)
      · show W B h26 17 129 (a1 :: M) (true, []) 343 #[.val (.int p0), .val (.int p1), .val (.int p2), .val (.long p3), .second, .val (.ref a1), .val (.int ln.toInt32), s7, s8, .val (.int (0 : Int32)), .val (.ref r), s11, .unset, .unset, .unset, .unset, .unset, .unset, .unset] [.null]
        refine W.astoreS ok (pc' := 345) (L' := #[.val (.int p0), .val (.int p1), .val (.int p2), .val (.long p3), .second, .val (.ref a1), .val (.int ln.toInt32), s7, s8, .val (.int (0 : Int32)), .val (.ref r), .val .null, .unset, .unset, .unset, .unset, .unset, .unset, .unset]) at_343 rfl rfl rfl h11 rfl ?_
        refine W.iload ok (pc' := 347) at_345 rfl rfl ?_
        refine W.ifeq ok (pcY := 361) (pcN := 350) at_347 rfl (by decide) rfl (fun _ => ?_) (fun q => absurd rfl q)
        refine W.aload ok (pc' := 363) at_361 rfl rfl rfl ?_
        refine W.iconst ok (pc' := 364) (0 : Int32) at_363 rfl rfl ?_
        refine W.caload ok (pc' := 365) ((A.ext (ext_keep K25)).ext (ext_keep K27)) x0 (by decide) rfl at_364 rfl ?_
        refine W.istore ok (pc' := 367) (L' := #[.val (.int p0), .val (.int p1), .val (.int p2), .val (.long p3), .second, .val (.ref a1), .val (.int ln.toInt32), s7, s8, .val (.int (0 : Int32)), .val (.ref r), .val .null, .val (.int x0), .unset, .unset, .unset, .unset, .unset, .unset]) at_365 rfl rfl ?_
        refine W.aload ok (pc' := 369) at_367 rfl rfl rfl ?_
        refine W.iconst ok (pc' := 370) (1 : Int32) at_369 rfl rfl ?_
        refine W.caload ok (pc' := 371) ((A.ext (ext_keep K25)).ext (ext_keep K27)) x1 (by decide) rfl at_370 rfl ?_
        refine W.istore ok (pc' := 373) (L' := #[.val (.int p0), .val (.int p1), .val (.int p2), .val (.long p3), .second, .val (.ref a1), .val (.int ln.toInt32), s7, s8, .val (.int (0 : Int32)), .val (.ref r), .val .null, .val (.int x0), .val (.int x1), .unset, .unset, .unset, .unset, .unset]) at_371 rfl rfl ?_
        refine W.aload ok (pc' := 375) at_373 rfl rfl rfl ?_
        refine W.iconst ok (pc' := 376) (2 : Int32) at_375 rfl rfl ?_
        refine W.caload ok (pc' := 377) ((A.ext (ext_keep K25)).ext (ext_keep K27)) x2 (by decide) rfl at_376 rfl ?_
        refine W.istore ok (pc' := 379) (L' := #[.val (.int p0), .val (.int p1), .val (.int p2), .val (.long p3), .second, .val (.ref a1), .val (.int ln.toInt32), s7, s8, .val (.int (0 : Int32)), .val (.ref r), .val .null, .val (.int x0), .val (.int x1), .val (.int x2), .unset, .unset, .unset, .unset]) at_377 rfl rfl ?_
        refine W.aload ok (pc' := 381) at_379 rfl rfl rfl ?_
        refine W.iconst ok (pc' := 382) (3 : Int32) at_381 rfl rfl ?_
        refine W.caload ok (pc' := 383) ((A.ext (ext_keep K25)).ext (ext_keep K27)) x3 (by decide) rfl at_382 rfl ?_
        refine W.istore ok (pc' := 385) (L' := #[.val (.int p0), .val (.int p1), .val (.int p2), .val (.long p3), .second, .val (.ref a1), .val (.int ln.toInt32), s7, s8, .val (.int (0 : Int32)), .val (.ref r), .val .null, .val (.int x0), .val (.int x1), .val (.int x2), .val (.int x3), .unset, .unset, .unset]) at_383 rfl rfl ?_
        refine W.aload ok (pc' := 387) at_385 rfl rfl rfl ?_
        refine W.iconst ok (pc' := 388) (4 : Int32) at_387 rfl rfl ?_
        refine W.caload ok (pc' := 389) ((A.ext (ext_keep K25)).ext (ext_keep K27)) x4 (by decide) rfl at_388 rfl ?_
        refine W.istore ok (pc' := 391) (L' := #[.val (.int p0), .val (.int p1), .val (.int p2), .val (.long p3), .second, .val (.ref a1), .val (.int ln.toInt32), s7, s8, .val (.int (0 : Int32)), .val (.ref r), .val .null, .val (.int x0), .val (.int x1), .val (.int x2), .val (.int x3), .val (.int x4), .unset, .unset]) at_389 rfl rfl ?_
        refine W.iload ok (pc' := 393) at_391 rfl rfl ?_
        refine W.iconst ok (pc' := 394) (4 : Int32) at_393 rfl rfl ?_
        have e524 : W B h26 17 129 (a1 :: M) (true, []) 524 #[.val (.int p0), .val (.int p1), .val (.int p2), .val (.long p3), .second, .val (.ref a1), .val (.int ln.toInt32), s7, s8, .val (.int (0 : Int32)), .val (.ref r), .val .null, .val (.int x0), .val (.int x1), .val (.int x2), .val (.int x3), .val (.int x4), .val (.int (0 : Int32)), .unset] [] := by
          refine W.iconst ok (pc' := 525) (0 : Int32) at_524 rfl rfl ?_
          refine W.istore ok (pc' := 527) (L' := #[.val (.int p0), .val (.int p1), .val (.int p2), .val (.long p3), .second, .val (.ref a1), .val (.int ln.toInt32), s7, s8, .val (.int (0 : Int32)), .val (.ref r), .val .null, .val (.int x0), .val (.int x1), .val (.int x2), .val (.int x3), .val (.int x4), .val (.int (0 : Int32)), .val (.int (0 : Int32))]) at_525 rfl rfl ?_
          refine W.iload ok (pc' := 529) at_527 rfl rfl ?_
          refine W.ifeq ok (pcY := 551) (pcN := 532) at_529 rfl (by decide) rfl (fun _ => ?_) (fun q => absurd rfl q)
          refine W.iload ok (pc' := 553) at_551 rfl rfl ?_
          refine W.ifeq ok (pcY := 575) (pcN := 556) at_553 rfl (by decide) rfl (fun _ => ?_) (fun q => absurd rfl q)
          refine W.aload ok (pc' := 577) at_575 rfl rfl rfl ?_
          refine W.ifnonnull ok (pcY := 584) (pcN := 580) at_577 rfl rfl (by decide) rfl (fun _ => ?_) (fun q => absurd rfl q)
          refine W.iconst ok (pc' := 581) (1 : Int32) at_580 rfl rfl ?_
          refine W.goto ok (pc' := 585) at_581 (by decide) rfl ?_
          exact W.retZ ok at_585 rfl (Nat.le_of_ble_eq_true rfl) (Nat.le_of_ble_eq_true rfl) (fun x (q : x ∈ M) => (List.mem_cons_of_mem _ q)) (fun kp => rfl)
        have e500 : W B h26 17 129 (a1 :: M) (true, []) 500 #[.val (.int p0), .val (.int p1), .val (.int p2), .val (.long p3), .second, .val (.ref a1), .val (.int ln.toInt32), s7, s8, .val (.int (0 : Int32)), .val (.ref r), .val .null, .val (.int x0), .val (.int x1), .val (.int x2), .val (.int x3), .val (.int x4), .val (.int (0 : Int32)), .unset] [] := by
          refine W.iload ok (pc' := 502) at_500 rfl rfl ?_
          refine W.iconst ok (pc' := 503) (2 : Int32) at_502 rfl rfl ?_
          refine W.icmpne ok (pcY := 524) (pcN := 506) at_503 rfl (by decide) rfl (fun g1 => ?_) (fun g1 => ?_)
          · refine W.iload ok (pc' := 508) at_506 rfl rfl ?_
            refine W.bipush ok (pc' := 510) (110 : Int32) at_508 rfl rfl ?_
            refine W.icmpne ok (pcY := 524) (pcN := 513) at_510 rfl (by decide) rfl (fun g2 => ?_) (fun g2 => ?_)
            · refine W.iload ok (pc' := 515) at_513 rfl rfl ?_
              refine W.bipush ok (pc' := 517) (111 : Int32) at_515 rfl rfl ?_
              refine W.icmpne ok (pcY := 524) (pcN := 520) at_517 rfl (by decide) rfl (fun g3 => ?_) (fun g3 => ?_)
              · exact absurd (by rw [ln_eq hl (m := 2) (by omega) g1, g2, g3]; rfl) n4
              · exact e524
            · exact e524
          · exact e524
        have e459 : W B h26 17 129 (a1 :: M) (true, []) 459 #[.val (.int p0), .val (.int p1), .val (.int p2), .val (.long p3), .second, .val (.ref a1), .val (.int ln.toInt32), s7, s8, .val (.int (0 : Int32)), .val (.ref r), .val .null, .val (.int x0), .val (.int x1), .val (.int x2), .val (.int x3), .val (.int x4), .val (.int (0 : Int32)), .unset] [] := by
          refine W.iload ok (pc' := 461) at_459 rfl rfl ?_
          refine W.iconst ok (pc' := 462) (5 : Int32) at_461 rfl rfl ?_
          refine W.icmpne ok (pcY := 500) (pcN := 465) at_462 rfl (by decide) rfl (fun g1 => ?_) (fun g1 => ?_)
          · refine W.iload ok (pc' := 467) at_465 rfl rfl ?_
            refine W.bipush ok (pc' := 469) (102 : Int32) at_467 rfl rfl ?_
            refine W.icmpne ok (pcY := 500) (pcN := 472) at_469 rfl (by decide) rfl (fun g2 => ?_) (fun g2 => ?_)
            · refine W.iload ok (pc' := 474) at_472 rfl rfl ?_
              refine W.bipush ok (pc' := 476) (97 : Int32) at_474 rfl rfl ?_
              refine W.icmpne ok (pcY := 500) (pcN := 479) at_476 rfl (by decide) rfl (fun g3 => ?_) (fun g3 => ?_)
              · refine W.iload ok (pc' := 481) at_479 rfl rfl ?_
                refine W.bipush ok (pc' := 483) (108 : Int32) at_481 rfl rfl ?_
                refine W.icmpne ok (pcY := 500) (pcN := 486) at_483 rfl (by decide) rfl (fun g4 => ?_) (fun g4 => ?_)
                · refine W.iload ok (pc' := 488) at_486 rfl rfl ?_
                  refine W.bipush ok (pc' := 490) (115 : Int32) at_488 rfl rfl ?_
                  refine W.icmpne ok (pcY := 500) (pcN := 493) at_490 rfl (by decide) rfl (fun g5 => ?_) (fun g5 => ?_)
                  · refine W.iload ok (pc' := 495) at_493 rfl rfl ?_
                    refine W.bipush ok (pc' := 497) (101 : Int32) at_495 rfl rfl ?_
                    refine W.icmpeq ok (pcY := 520) (pcN := 500) at_497 rfl (by decide) rfl (fun g6 => ?_) (fun g6 => ?_)
                    · exact absurd (by rw [ln_eq hl (m := 5) (by omega) g1, g2, g3, g4, g5, g6]; rfl) n3
                    · exact e500
                  · exact e500
                · exact e500
              · exact e500
            · exact e500
          · exact e500
        have e456 : W B h26 17 129 (a1 :: M) (true, []) 456 #[.val (.int p0), .val (.int p1), .val (.int p2), .val (.long p3), .second, .val (.ref a1), .val (.int ln.toInt32), s7, s8, .val (.int (0 : Int32)), .val (.ref r), .val .null, .val (.int x0), .val (.int x1), .val (.int x2), .val (.int x3), .val (.int x4), .unset, .unset] [] := by
          refine W.iconst ok (pc' := 457) (0 : Int32) at_456 rfl rfl ?_
          refine W.istore ok (pc' := 459) (L' := #[.val (.int p0), .val (.int p1), .val (.int p2), .val (.long p3), .second, .val (.ref a1), .val (.int ln.toInt32), s7, s8, .val (.int (0 : Int32)), .val (.ref r), .val .null, .val (.int x0), .val (.int x1), .val (.int x2), .val (.int x3), .val (.int x4), .val (.int (0 : Int32)), .unset]) at_457 rfl rfl ?_
          exact e459
        have e425 : W B h26 17 129 (a1 :: M) (true, []) 425 #[.val (.int p0), .val (.int p1), .val (.int p2), .val (.long p3), .second, .val (.ref a1), .val (.int ln.toInt32), s7, s8, .val (.int (0 : Int32)), .val (.ref r), .val .null, .val (.int x0), .val (.int x1), .val (.int x2), .val (.int x3), .val (.int x4), .unset, .unset] [] := by
          refine W.iload ok (pc' := 427) at_425 rfl rfl ?_
          refine W.iconst ok (pc' := 428) (3 : Int32) at_427 rfl rfl ?_
          refine W.icmpne ok (pcY := 456) (pcN := 431) at_428 rfl (by decide) rfl (fun g1 => ?_) (fun g1 => ?_)
          · refine W.iload ok (pc' := 433) at_431 rfl rfl ?_
            refine W.bipush ok (pc' := 435) (121 : Int32) at_433 rfl rfl ?_
            refine W.icmpne ok (pcY := 456) (pcN := 438) at_435 rfl (by decide) rfl (fun g2 => ?_) (fun g2 => ?_)
            · refine W.iload ok (pc' := 440) at_438 rfl rfl ?_
              refine W.bipush ok (pc' := 442) (101 : Int32) at_440 rfl rfl ?_
              refine W.icmpne ok (pcY := 456) (pcN := 445) at_442 rfl (by decide) rfl (fun g3 => ?_) (fun g3 => ?_)
              · refine W.iload ok (pc' := 447) at_445 rfl rfl ?_
                refine W.bipush ok (pc' := 449) (115 : Int32) at_447 rfl rfl ?_
                refine W.icmpne ok (pcY := 456) (pcN := 452) at_449 rfl (by decide) rfl (fun g4 => ?_) (fun g4 => ?_)
                · exact absurd (by rw [ln_eq hl (m := 3) (by omega) g1, g2, g3, g4]; rfl) n2
                · exact e456
              · exact e456
            · exact e456
          · exact e456
        refine W.icmpne ok (pcY := 425) (pcN := 397) at_394 rfl (by decide) rfl (fun g1 => ?_) (fun g1 => ?_)
        · refine W.iload ok (pc' := 399) at_397 rfl rfl ?_
          refine W.bipush ok (pc' := 401) (116 : Int32) at_399 rfl rfl ?_
          refine W.icmpne ok (pcY := 425) (pcN := 404) at_401 rfl (by decide) rfl (fun g2 => ?_) (fun g2 => ?_)
          · refine W.iload ok (pc' := 406) at_404 rfl rfl ?_
            refine W.bipush ok (pc' := 408) (114 : Int32) at_406 rfl rfl ?_
            refine W.icmpne ok (pcY := 425) (pcN := 411) at_408 rfl (by decide) rfl (fun g3 => ?_) (fun g3 => ?_)
            · refine W.iload ok (pc' := 413) at_411 rfl rfl ?_
              refine W.bipush ok (pc' := 415) (117 : Int32) at_413 rfl rfl ?_
              refine W.icmpne ok (pcY := 425) (pcN := 418) at_415 rfl (by decide) rfl (fun g4 => ?_) (fun g4 => ?_)
              · refine W.iload ok (pc' := 420) at_418 rfl rfl ?_
                refine W.bipush ok (pc' := 422) (101 : Int32) at_420 rfl rfl ?_
                refine W.icmpeq ok (pcY := 452) (pcN := 425) at_422 rfl (by decide) rfl (fun g5 => ?_) (fun g5 => ?_)
                · exact absurd (by rw [ln_eq hl (m := 4) (by omega) g1, g2, g3, g4, g5]; rfl) n1
                · exact e425
              · exact e425
            · exact e425
          · exact e425
        · exact e425
  have seg256 : ∀ (hh : Heap) (xs : List Int32) (ln : Nat) (s7 s8 s9 s10 s11 : Slot), ArI Z hh a1 .char xs → xs.length = 5 → (∀ x ∈ xs, 0 ≤ x.toInt ∧ x.toInt ≤ 255) → ln ≤ 5 → One s7 → One s8 → One s9 → One s10 → One s11 → W B hh 3 40 (a1 :: M) (true, []) 256 #[.val (.int p0), .val (.int p1), .val (.int p2), .val (.long p3), .second, .val (.ref a1), .val (.int ln.toInt32), s7, s8, s9, s10, s11, .unset, .unset, .unset, .unset, .unset, .unset, .unset] [] := by
    intro hh xs ln s7 s8 s9 s10 s11 A hx hr hl h7 h8 h9 h10 h11
    refine W.iloadN ok (pc' := 257) at_256 rfl rfl ?_
    refine W.bipush ok (pc' := 259) (6 : Int32) at_257 rfl rfl ?_
    refine W.iushr ok (pc' := 260) at_259 rfl ?_
    refine W.iconst ok (pc' := 261) (1 : Int32) at_260 rfl rfl ?_
    refine W.iand ok (pc' := 262) at_261 rfl ?_
    refine W.ifeq ok (pcY := 269) (pcN := 265) at_262 rfl (by decide) rfl (fun c1 => ?_) (fun c1 => ?_)
    · refine W.iconst ok (pc' := 270) (0 : Int32) at_269 rfl rfl ?_
      refine W.istoreS ok (pc' := 272) (L' := #[.val (.int p0), .val (.int p1), .val (.int p2), .val (.long p3), .second, .val (.ref a1), .val (.int ln.toInt32), s7, .val (.int (0 : Int32)), s9, s10, s11, .unset, .unset, .unset, .unset, .unset, .unset, .unset]) at_270 rfl rfl h8 rfl ?_
      refine W.iload ok (pc' := 274) at_272 rfl rfl ?_
      refine W.ifeq ok (pcY := 303) (pcN := 277) at_274 rfl (by decide) rfl (fun _ => ?_) (fun q => absurd rfl q)
      exact seg303 _ xs ln _ _ _ _ _ A hx hr hl h7 (One.val rfl) h9 h10 h11
    · refine W.iconst ok (pc' := 266) (1 : Int32) at_265 rfl rfl ?_
      refine W.goto ok (pc' := 270) at_266 (by decide) rfl ?_
      refine W.istoreS ok (pc' := 272) (L' := #[.val (.int p0), .val (.int p1), .val (.int p2), .val (.long p3), .second, .val (.ref a1), .val (.int ln.toInt32), s7, .val (.int (1 : Int32)), s9, s10, s11, .unset, .unset, .unset, .unset, .unset, .unset, .unset]) at_270 rfl rfl h8 rfl ?_
      refine W.iload ok (pc' := 274) at_272 rfl rfl ?_
      refine W.ifeq ok (pcY := 303) (pcN := 277) at_274 rfl (by decide) rfl (fun q => absurd q (by decide)) (fun _ => ?_)
      refine W.iloadN ok (pc' := 278) at_277 rfl rfl ?_
      refine W.bipush ok (pc' := 280) (8 : Int32) at_278 rfl rfl ?_
      refine W.iushr ok (pc' := 281) at_280 rfl ?_
      refine W.bipush ok (pc' := 283) (7 : Int32) at_281 rfl rfl ?_
      refine W.iand ok (pc' := 284) at_283 rfl ?_
      generalize hpz : ((XT.ushr p2 (8 : Int32)) &&& (7 : Int32)) = pz
      have mp : 0 ≤ pz.toInt ∧ pz.toInt < 8 := by rw [← hpz]; exact maskI _ 7 3 (by decide) (by decide)
      refine W.istoreS ok (pc' := 286) (L' := #[.val (.int p0), .val (.int p1), .val (.int p2), .val (.long p3), .second, .val (.ref a1), .val (.int ln.toInt32), s7, .val (.int (1 : Int32)), .val (.int pz), s10, s11, .unset, .unset, .unset, .unset, .unset, .unset, .unset]) at_284 rfl rfl h9 rfl ?_
      refine W.iload ok (pc' := 288) at_286 rfl rfl ?_
      refine W.iconst ok (pc' := 289) (5 : Int32) at_288 rfl rfl ?_
      refine W.icmpge ok (pcY := 303) (pcN := 292) at_289 rfl (by decide) rfl (fun c2 => ?_) (fun c2 => ?_)
      · have lt5 : pz.toInt < 5 := by rw [Int32.lt_iff_toInt_lt] at c2; exact c2
        refine W.aload ok (pc' := 294) at_292 rfl rfl rfl ?_
        refine W.iload ok (pc' := 296) at_294 rfl rfl ?_
        refine W.iloadN ok (pc' := 297) at_296 rfl rfl ?_
        refine W.sipush ok (pc' := 300) (255 : Int32) at_297 rfl rfl ?_
        refine W.iand ok (pc' := 301) at_300 rfl ?_
        refine W.i2c ok (pc' := 302) at_301 rfl ?_
        generalize hy : (c16 (p2 &&& (255 : Int32))) = y
        have ry : 0 ≤ y.toInt ∧ y.toInt ≤ 255 := by rw [← hy]; exact lowI _
        refine W.castore ok (pc' := 303) (cl' := (true, [])) A (by rw [neg_iff]; omega) (by rw [hx]; simp only [Int32.toNatClampNeg]; omega) (List.mem_cons_self ..) (Or.inr z3) (fun q => ⟨q, z3⟩) rfl at_302 rfl (fun h28 Wr29 A30 => ?_)
        rw [c16_of ⟨ry.1, by omega⟩] at A30
        exact seg303 _ _ ln _ _ _ _ _ A30 (by simpa using hx) (fun z hz => (List.mem_or_eq_of_mem_set hz).elim (hr z) (fun e => e ▸ ry)) hl h7 (One.val rfl) (One.val rfl) h10 h11
      · exact seg303 _ xs ln _ _ _ _ _ A hx hr hl h7 (One.val rfl) (One.val rfl) h10 h11
  refine W.iloadN ok (pc' := 82) at_81 rfl rfl ?_
  refine W.iconst ok (pc' := 83) (3 : Int32) at_82 rfl rfl ?_
  refine W.iushr ok (pc' := 84) at_83 rfl ?_
  refine W.iconst ok (pc' := 85) (1 : Int32) at_84 rfl rfl ?_
  refine W.iand ok (pc' := 86) at_85 rfl ?_
  refine W.ifeq ok (pcY := 93) (pcN := 89) at_86 rfl (by decide) rfl (fun c0 => ?_) (fun c0 => ?_)
  · refine W.iconst ok (pc' := 94) (0 : Int32) at_93 rfl rfl ?_
    refine W.istore ok (pc' := 96) (L' := #[.val (.int p0), .val (.int p1), .val (.int p2), .val (.long p3), .second, .val (.ref a1), .val (.int ln.toInt32), .val (.int (0 : Int32)), .unset, .unset, .unset, .unset, .unset, .unset, .unset, .unset, .unset, .unset, .unset]) at_94 rfl rfl ?_
    refine W.iload ok (pc' := 98) at_96 rfl rfl ?_
    refine W.ifeq ok (pcY := 256) (pcN := 101) at_98 rfl (by decide) rfl (fun _ => ?_) (fun q => absurd rfl q)
    refine W.weaken (k' := 3) (n' := 40) (cl' := (true, [])) (by decide) (by decide) (fun q => q) (fun e q => by first | exact q | (nomatch q)) ?_
    exact seg256 _ [x0, x1, x2, x3, x4] ln _ _ _ _ _ A21 rfl (by simp only [List.mem_cons, List.not_mem_nil, or_false]; rintro x (rfl | rfl | rfl | rfl | rfl) <;> first | assumption | decide) hln (One.val rfl) One.u One.u One.u One.u
  · refine W.iconst ok (pc' := 90) (1 : Int32) at_89 rfl rfl ?_
    refine W.goto ok (pc' := 94) at_90 (by decide) rfl ?_
    refine W.istore ok (pc' := 96) (L' := #[.val (.int p0), .val (.int p1), .val (.int p2), .val (.long p3), .second, .val (.ref a1), .val (.int ln.toInt32), .val (.int (1 : Int32)), .unset, .unset, .unset, .unset, .unset, .unset, .unset, .unset, .unset, .unset, .unset]) at_94 rfl rfl ?_
    refine W.iload ok (pc' := 98) at_96 rfl rfl ?_
    refine W.ifeq ok (pcY := 256) (pcN := 101) at_98 rfl (by decide) rfl (fun q => absurd q (by decide)) (fun _ => ?_)
    refine W.iloadN ok (pc' := 102) at_101 rfl rfl ?_
    refine W.iconst ok (pc' := 103) (4 : Int32) at_102 rfl rfl ?_
    refine W.iushr ok (pc' := 104) at_103 rfl ?_
    refine W.iconst ok (pc' := 105) (3 : Int32) at_104 rfl rfl ?_
    refine W.iand ok (pc' := 106) at_105 rfl ?_
    generalize hwz : ((XT.ushr p0 (4 : Int32)) &&& (3 : Int32)) = wz
    refine W.istore ok (pc' := 108) (L' := #[.val (.int p0), .val (.int p1), .val (.int p2), .val (.long p3), .second, .val (.ref a1), .val (.int ln.toInt32), .val (.int (1 : Int32)), .val (.int wz), .unset, .unset, .unset, .unset, .unset, .unset, .unset, .unset, .unset, .unset]) at_106 rfl rfl ?_
    refine W.iload ok (pc' := 110) at_108 rfl rfl ?_
    refine W.ifne ok (pcY := 118) (pcN := 113) at_110 rfl (by decide) rfl (fun d0 => ?_) (fun d0 => ?_)
    · refine W.ldcS ok (pc' := 115) rfl (text := "true") (sz := 16) (w98 hw) (fun d hd => hw d ((by decide +kernel : ∀ d ∈ Bundle.stringAtoms, d ∈ tables_1) d hd)) (hE.held _ (List.mem_of_getElem? (i := 4) rfl)) hE.cw (by decide) (Or.inl rfl) (by decide) (by decide) at_113 rfl (Nat.le_of_ble_eq_true rfl) (Nat.le_of_ble_eq_true rfl) (fun a31 h32 E33 S1 => ?_)
      refine W.goto ok (pc' := 142) at_115 (by decide) rfl ?_
      refine W.astore ok (pc' := 144) (L' := #[.val (.int p0), .val (.int p1), .val (.int p2), .val (.long p3), .second, .val (.ref a1), .val (.int ln.toInt32), .val (.int (1 : Int32)), .val (.int wz), .val (.ref a31), .unset, .unset, .unset, .unset, .unset, .unset, .unset, .unset, .unset]) at_142 rfl rfl rfl ?_
      refine W.aload ok (pc' := 146) at_144 rfl rfl rfl ?_
      replace S1 := S1.cast (cs' := [116, 114, 117, 101]) (by decide)
      refine W.callV ok (rest := []) (cl' := (true, ("com/example/purlin/purlin/util/TextValuesBoolPinLaw", 14) :: [])) (pc' := 149) (w23 hw) (w24 hw) (w26 hw) (w25 hw) (w7 hw) (w27 hw) (by decide) S1.exa pd_14 rfl (k_length l Z a0 hE a31 [116, 114, 117, 101] h32 S1.str (by simp)) (fun _ q => (nomatch q)) (fun q => ⟨q, fun _ q => (nomatch q)⟩) rfl rfl (Nat.le_of_ble_eq_true rfl) (Nat.le_of_ble_eq_true rfl) (Nat.le_of_ble_eq_true rfl) (Nat.le_of_ble_eq_true rfl) at_146 rfl rfl (pureK ?_)
      show W B h32 3 25 (a1 :: M) (true, ("com/example/purlin/purlin/util/TextValuesBoolPinLaw", 14) :: []) 149 #[.val (.int p0), .val (.int p1), .val (.int p2), .val (.long p3), .second, .val (.ref a1), .val (.int ln.toInt32), .val (.int (1 : Int32)), .val (.int wz), .val (.ref a31), .unset, .unset, .unset, .unset, .unset, .unset, .unset, .unset, .unset] [(.int ((4 : Nat).toInt32))]
      refine W.istore ok (pc' := 151) (L' := #[.val (.int p0), .val (.int p1), .val (.int p2), .val (.long p3), .second, .val (.ref a1), .val (.int ln.toInt32), .val (.int (1 : Int32)), .val (.int wz), .val (.ref a31), .val (.int ((4 : Nat).toInt32)), .unset, .unset, .unset, .unset, .unset, .unset, .unset, .unset]) at_149 rfl rfl ?_
      refine W.iconst ok (pc' := 152) (0 : Int32) at_151 rfl rfl ?_
      refine W.iload ok (pc' := 154) at_152 rfl rfl ?_
      refine W.icmpge ok (pcY := 167) (pcN := 157) at_154 rfl (by decide) rfl (fun _ => ?_) (fun q => absurd (by decide) q)
      refine W.aload ok (pc' := 159) at_157 rfl rfl rfl ?_
      refine W.iconst ok (pc' := 160) (0 : Int32) at_159 rfl rfl ?_
      refine W.aload ok (pc' := 162) at_160 rfl rfl rfl ?_
      refine W.iconst ok (pc' := 163) (0 : Int32) at_162 rfl rfl ?_
      refine W.callV ok (rest := [(.int (0 : Int32)), (.ref a1)]) (cl' := (true, ("com/example/purlin/purlin/util/TextValuesBoolPinLaw", 14) :: [])) (pc' := 166) (w36 hw) (w37 hw) (w39 hw) (w38 hw) (w7 hw) (w40 hw) (by decide) S1.exa pd_15 rfl (k_charAt l Z a0 hE a31 [116, 114, 117, 101] 0 116 h32 S1.str rfl (by simp) (by decide)) (fun _ q => (nomatch q)) (fun q => ⟨q, fun _ q => (nomatch q)⟩) rfl rfl (Nat.le_of_ble_eq_true rfl) (Nat.le_of_ble_eq_true rfl) (Nat.le_of_ble_eq_true rfl) (Nat.le_of_ble_eq_true rfl) at_163 rfl rfl (pureK ?_)
      show W B h32 3 25 (a1 :: M) (true, ("com/example/purlin/purlin/util/TextValuesBoolPinLaw", 14) :: []) 166 #[.val (.int p0), .val (.int p1), .val (.int p2), .val (.long p3), .second, .val (.ref a1), .val (.int ln.toInt32), .val (.int (1 : Int32)), .val (.int wz), .val (.ref a31), .val (.int ((4 : Nat).toInt32)), .unset, .unset, .unset, .unset, .unset, .unset, .unset, .unset] [(.int (116 : Int32)), (.int (0 : Int32)), (.ref a1)]
      refine W.castore ok (pc' := 167) (cl' := (true, ("com/example/purlin/purlin/util/TextValuesBoolPinLaw", 14) :: [])) (A21.ext E33) (by decide) (Nat.le_of_ble_eq_true rfl) (List.mem_cons_self ..) (Or.inr z3) (fun q => ⟨q, z3⟩) rfl at_166 rfl (fun h34 Wr35 A36 => ?_)
      replace A36 := A36.cast (cs' := [(116 : Int32), x1, x2, x3, x4]) rfl
      have S37 := S1.wr Wr35 (List.mem_cons_self ..)
      refine W.iconst ok (pc' := 168) (1 : Int32) at_167 rfl rfl ?_
      refine W.iload ok (pc' := 170) at_168 rfl rfl ?_
      refine W.icmpge ok (pcY := 183) (pcN := 173) at_170 rfl (by decide) rfl (fun _ => ?_) (fun q => absurd (by decide) q)
      refine W.aload ok (pc' := 175) at_173 rfl rfl rfl ?_
      refine W.iconst ok (pc' := 176) (1 : Int32) at_175 rfl rfl ?_
      refine W.aload ok (pc' := 178) at_176 rfl rfl rfl ?_
      refine W.iconst ok (pc' := 179) (1 : Int32) at_178 rfl rfl ?_
      refine W.callV ok (rest := [(.int (1 : Int32)), (.ref a1)]) (cl' := (true, ("com/example/purlin/purlin/util/TextValuesBoolPinLaw", 14) :: [])) (pc' := 182) (w36 hw) (w37 hw) (w39 hw) (w38 hw) (w7 hw) (w40 hw) (by decide) S37.exa pd_15 rfl (k_charAt l Z a0 hE a31 [116, 114, 117, 101] 1 114 h34 S37.str rfl (by simp) (by decide)) (fun _ q => (nomatch q)) (fun q => ⟨q, fun _ q => (nomatch q)⟩) rfl rfl (Nat.le_of_ble_eq_true rfl) (Nat.le_of_ble_eq_true rfl) (Nat.le_of_ble_eq_true rfl) (Nat.le_of_ble_eq_true rfl) at_179 rfl rfl (pureK ?_)
      show W B h34 3 25 (a1 :: M) (true, ("com/example/purlin/purlin/util/TextValuesBoolPinLaw", 14) :: []) 182 #[.val (.int p0), .val (.int p1), .val (.int p2), .val (.long p3), .second, .val (.ref a1), .val (.int ln.toInt32), .val (.int (1 : Int32)), .val (.int wz), .val (.ref a31), .val (.int ((4 : Nat).toInt32)), .unset, .unset, .unset, .unset, .unset, .unset, .unset, .unset] [(.int (114 : Int32)), (.int (1 : Int32)), (.ref a1)]
      refine W.castore ok (pc' := 183) (cl' := (true, ("com/example/purlin/purlin/util/TextValuesBoolPinLaw", 14) :: [])) A36 (by decide) (Nat.le_of_ble_eq_true rfl) (List.mem_cons_self ..) (Or.inr z3) (fun q => ⟨q, z3⟩) rfl at_182 rfl (fun h38 Wr39 A40 => ?_)
      replace A40 := A40.cast (cs' := [(116 : Int32), (114 : Int32), x2, x3, x4]) rfl
      have S41 := S37.wr Wr39 (List.mem_cons_self ..)
      refine W.iconst ok (pc' := 184) (2 : Int32) at_183 rfl rfl ?_
      refine W.iload ok (pc' := 186) at_184 rfl rfl ?_
      refine W.icmpge ok (pcY := 199) (pcN := 189) at_186 rfl (by decide) rfl (fun _ => ?_) (fun q => absurd (by decide) q)
      refine W.aload ok (pc' := 191) at_189 rfl rfl rfl ?_
      refine W.iconst ok (pc' := 192) (2 : Int32) at_191 rfl rfl ?_
      refine W.aload ok (pc' := 194) at_192 rfl rfl rfl ?_
      refine W.iconst ok (pc' := 195) (2 : Int32) at_194 rfl rfl ?_
      refine W.callV ok (rest := [(.int (2 : Int32)), (.ref a1)]) (cl' := (true, ("com/example/purlin/purlin/util/TextValuesBoolPinLaw", 14) :: [])) (pc' := 198) (w36 hw) (w37 hw) (w39 hw) (w38 hw) (w7 hw) (w40 hw) (by decide) S41.exa pd_15 rfl (k_charAt l Z a0 hE a31 [116, 114, 117, 101] 2 117 h38 S41.str rfl (by simp) (by decide)) (fun _ q => (nomatch q)) (fun q => ⟨q, fun _ q => (nomatch q)⟩) rfl rfl (Nat.le_of_ble_eq_true rfl) (Nat.le_of_ble_eq_true rfl) (Nat.le_of_ble_eq_true rfl) (Nat.le_of_ble_eq_true rfl) at_195 rfl rfl (pureK ?_)
      show W B h38 3 25 (a1 :: M) (true, ("com/example/purlin/purlin/util/TextValuesBoolPinLaw", 14) :: []) 198 #[.val (.int p0), .val (.int p1), .val (.int p2), .val (.long p3), .second, .val (.ref a1), .val (.int ln.toInt32), .val (.int (1 : Int32)), .val (.int wz), .val (.ref a31), .val (.int ((4 : Nat).toInt32)), .unset, .unset, .unset, .unset, .unset, .unset, .unset, .unset] [(.int (117 : Int32)), (.int (2 : Int32)), (.ref a1)]
      refine W.castore ok (pc' := 199) (cl' := (true, ("com/example/purlin/purlin/util/TextValuesBoolPinLaw", 14) :: [])) A40 (by decide) (Nat.le_of_ble_eq_true rfl) (List.mem_cons_self ..) (Or.inr z3) (fun q => ⟨q, z3⟩) rfl at_198 rfl (fun h42 Wr43 A44 => ?_)
      replace A44 := A44.cast (cs' := [(116 : Int32), (114 : Int32), (117 : Int32), x3, x4]) rfl
      have S45 := S41.wr Wr43 (List.mem_cons_self ..)
      refine W.iconst ok (pc' := 200) (3 : Int32) at_199 rfl rfl ?_
      refine W.iload ok (pc' := 202) at_200 rfl rfl ?_
      refine W.icmpge ok (pcY := 215) (pcN := 205) at_202 rfl (by decide) rfl (fun _ => ?_) (fun q => absurd (by decide) q)
      refine W.aload ok (pc' := 207) at_205 rfl rfl rfl ?_
      refine W.iconst ok (pc' := 208) (3 : Int32) at_207 rfl rfl ?_
      refine W.aload ok (pc' := 210) at_208 rfl rfl rfl ?_
      refine W.iconst ok (pc' := 211) (3 : Int32) at_210 rfl rfl ?_
      refine W.callV ok (rest := [(.int (3 : Int32)), (.ref a1)]) (cl' := (true, ("com/example/purlin/purlin/util/TextValuesBoolPinLaw", 14) :: [])) (pc' := 214) (w36 hw) (w37 hw) (w39 hw) (w38 hw) (w7 hw) (w40 hw) (by decide) S45.exa pd_15 rfl (k_charAt l Z a0 hE a31 [116, 114, 117, 101] 3 101 h42 S45.str rfl (by simp) (by decide)) (fun _ q => (nomatch q)) (fun q => ⟨q, fun _ q => (nomatch q)⟩) rfl rfl (Nat.le_of_ble_eq_true rfl) (Nat.le_of_ble_eq_true rfl) (Nat.le_of_ble_eq_true rfl) (Nat.le_of_ble_eq_true rfl) at_211 rfl rfl (pureK ?_)
      show W B h42 3 25 (a1 :: M) (true, ("com/example/purlin/purlin/util/TextValuesBoolPinLaw", 14) :: []) 214 #[.val (.int p0), .val (.int p1), .val (.int p2), .val (.long p3), .second, .val (.ref a1), .val (.int ln.toInt32), .val (.int (1 : Int32)), .val (.int wz), .val (.ref a31), .val (.int ((4 : Nat).toInt32)), .unset, .unset, .unset, .unset, .unset, .unset, .unset, .unset] [(.int (101 : Int32)), (.int (3 : Int32)), (.ref a1)]
      refine W.castore ok (pc' := 215) (cl' := (true, ("com/example/purlin/purlin/util/TextValuesBoolPinLaw", 14) :: [])) A44 (by decide) (Nat.le_of_ble_eq_true rfl) (List.mem_cons_self ..) (Or.inr z3) (fun q => ⟨q, z3⟩) rfl at_214 rfl (fun h46 Wr47 A48 => ?_)
      replace A48 := A48.cast (cs' := [(116 : Int32), (114 : Int32), (117 : Int32), (101 : Int32), x4]) rfl
      have S49 := S45.wr Wr47 (List.mem_cons_self ..)
      refine W.iconst ok (pc' := 216) (4 : Int32) at_215 rfl rfl ?_
      refine W.iload ok (pc' := 218) at_216 rfl rfl ?_
      refine W.icmpge ok (pcY := 231) (pcN := 221) at_218 rfl (by decide) rfl (fun q => absurd q (by decide)) (fun _ => ?_)
      refine W.iloadN ok (pc' := 232) at_231 rfl rfl ?_
      refine W.bipush ok (pc' := 234) (7 : Int32) at_232 rfl rfl ?_
      refine W.iushr ok (pc' := 235) at_234 rfl ?_
      refine W.iconst ok (pc' := 236) (1 : Int32) at_235 rfl rfl ?_
      refine W.iand ok (pc' := 237) at_236 rfl ?_
      refine W.ifne ok (pcY := 244) (pcN := 240) at_237 rfl (by decide) rfl (fun c5 => ?_) (fun c5 => ?_)
      · refine W.iconst ok (pc' := 241) (1 : Int32) at_240 rfl rfl ?_
        refine W.goto ok (pc' := 245) at_241 (by decide) rfl ?_
        refine W.istore ok (pc' := 247) (L' := #[.val (.int p0), .val (.int p1), .val (.int p2), .val (.long p3), .second, .val (.ref a1), .val (.int ln.toInt32), .val (.int (1 : Int32)), .val (.int wz), .val (.ref a31), .val (.int ((4 : Nat).toInt32)), .val (.int (1 : Int32)), .unset, .unset, .unset, .unset, .unset, .unset, .unset]) at_245 rfl rfl ?_
        refine W.iload ok (pc' := 249) at_247 rfl rfl ?_
        refine W.ifeq ok (pcY := 256) (pcN := 252) at_249 rfl (by decide) rfl (fun q => absurd q (by decide)) (fun _ => ?_)
        refine W.iload ok (pc' := 254) at_252 rfl rfl ?_
        refine W.istore ok (pc' := 256) (L' := #[.val (.int p0), .val (.int p1), .val (.int p2), .val (.long p3), .second, .val (.ref a1), .val (.int ((4 : Nat).toInt32)), .val (.int (1 : Int32)), .val (.int wz), .val (.ref a31), .val (.int ((4 : Nat).toInt32)), .val (.int (1 : Int32)), .unset, .unset, .unset, .unset, .unset, .unset, .unset]) at_254 rfl rfl ?_
        refine W.weaken (k' := 3) (n' := 40) (cl' := (true, [])) (by decide) (by decide) (fun q => q) (fun e q => by first | exact q | (nomatch q)) ?_
        exact seg256 _ [(116 : Int32), (114 : Int32), (117 : Int32), (101 : Int32), x4] 4 _ _ _ _ _ A48 rfl (by simp only [List.mem_cons, List.not_mem_nil, or_false]; rintro x (rfl | rfl | rfl | rfl | rfl) <;> first | assumption | decide) (by decide) (One.val rfl) (One.val rfl) (One.val rfl) (One.val rfl) (One.val rfl)
      · refine W.iconst ok (pc' := 245) (0 : Int32) at_244 rfl rfl ?_
        refine W.istore ok (pc' := 247) (L' := #[.val (.int p0), .val (.int p1), .val (.int p2), .val (.long p3), .second, .val (.ref a1), .val (.int ln.toInt32), .val (.int (1 : Int32)), .val (.int wz), .val (.ref a31), .val (.int ((4 : Nat).toInt32)), .val (.int (0 : Int32)), .unset, .unset, .unset, .unset, .unset, .unset, .unset]) at_245 rfl rfl ?_
        refine W.iload ok (pc' := 249) at_247 rfl rfl ?_
        refine W.ifeq ok (pcY := 256) (pcN := 252) at_249 rfl (by decide) rfl (fun _ => ?_) (fun q => absurd rfl q)
        refine W.weaken (k' := 3) (n' := 40) (cl' := (true, [])) (by decide) (by decide) (fun q => q) (fun e q => by first | exact q | (nomatch q)) ?_
        exact seg256 _ [(116 : Int32), (114 : Int32), (117 : Int32), (101 : Int32), x4] ln _ _ _ _ _ A48 rfl (by simp only [List.mem_cons, List.not_mem_nil, or_false]; rintro x (rfl | rfl | rfl | rfl | rfl) <;> first | assumption | decide) hln (One.val rfl) (One.val rfl) (One.val rfl) (One.val rfl) (One.val rfl)
    · refine W.iload ok (pc' := 120) at_118 rfl rfl ?_
      refine W.iconst ok (pc' := 121) (1 : Int32) at_120 rfl rfl ?_
      refine W.icmpne ok (pcY := 129) (pcN := 124) at_121 rfl (by decide) rfl (fun d1 => ?_) (fun d1 => ?_)
      · refine W.ldcS ok (pc' := 126) rfl (text := "yes") (sz := 12) (w87 hw) (fun d hd => hw d ((by decide +kernel : ∀ d ∈ Bundle.stringAtoms, d ∈ tables_1) d hd)) (hE.held _ (List.mem_of_getElem? (i := 5) rfl)) hE.cw (by decide) (Or.inl rfl) (by decide) (by decide) at_124 rfl (Nat.le_of_ble_eq_true rfl) (Nat.le_of_ble_eq_true rfl) (fun a50 h51 E52 S1 => ?_)
        refine W.goto ok (pc' := 142) at_126 (by decide) rfl ?_
        refine W.astore ok (pc' := 144) (L' := #[.val (.int p0), .val (.int p1), .val (.int p2), .val (.long p3), .second, .val (.ref a1), .val (.int ln.toInt32), .val (.int (1 : Int32)), .val (.int wz), .val (.ref a50), .unset, .unset, .unset, .unset, .unset, .unset, .unset, .unset, .unset]) at_142 rfl rfl rfl ?_
        refine W.aload ok (pc' := 146) at_144 rfl rfl rfl ?_
        replace S1 := S1.cast (cs' := [121, 101, 115]) (by decide)
        refine W.callV ok (rest := []) (cl' := (true, ("com/example/purlin/purlin/util/TextValuesBoolPinLaw", 16) :: [])) (pc' := 149) (w23 hw) (w24 hw) (w26 hw) (w25 hw) (w7 hw) (w27 hw) (by decide) S1.exa pd_14 rfl (k_length l Z a0 hE a50 [121, 101, 115] h51 S1.str (by simp)) (fun _ q => (nomatch q)) (fun q => ⟨q, fun _ q => (nomatch q)⟩) rfl rfl (Nat.le_of_ble_eq_true rfl) (Nat.le_of_ble_eq_true rfl) (Nat.le_of_ble_eq_true rfl) (Nat.le_of_ble_eq_true rfl) at_146 rfl rfl (pureK ?_)
        show W B h51 3 21 (a1 :: M) (true, ("com/example/purlin/purlin/util/TextValuesBoolPinLaw", 16) :: []) 149 #[.val (.int p0), .val (.int p1), .val (.int p2), .val (.long p3), .second, .val (.ref a1), .val (.int ln.toInt32), .val (.int (1 : Int32)), .val (.int wz), .val (.ref a50), .unset, .unset, .unset, .unset, .unset, .unset, .unset, .unset, .unset] [(.int ((3 : Nat).toInt32))]
        refine W.istore ok (pc' := 151) (L' := #[.val (.int p0), .val (.int p1), .val (.int p2), .val (.long p3), .second, .val (.ref a1), .val (.int ln.toInt32), .val (.int (1 : Int32)), .val (.int wz), .val (.ref a50), .val (.int ((3 : Nat).toInt32)), .unset, .unset, .unset, .unset, .unset, .unset, .unset, .unset]) at_149 rfl rfl ?_
        refine W.iconst ok (pc' := 152) (0 : Int32) at_151 rfl rfl ?_
        refine W.iload ok (pc' := 154) at_152 rfl rfl ?_
        refine W.icmpge ok (pcY := 167) (pcN := 157) at_154 rfl (by decide) rfl (fun _ => ?_) (fun q => absurd (by decide) q)
        refine W.aload ok (pc' := 159) at_157 rfl rfl rfl ?_
        refine W.iconst ok (pc' := 160) (0 : Int32) at_159 rfl rfl ?_
        refine W.aload ok (pc' := 162) at_160 rfl rfl rfl ?_
        refine W.iconst ok (pc' := 163) (0 : Int32) at_162 rfl rfl ?_
        refine W.callV ok (rest := [(.int (0 : Int32)), (.ref a1)]) (cl' := (true, ("com/example/purlin/purlin/util/TextValuesBoolPinLaw", 16) :: [])) (pc' := 166) (w36 hw) (w37 hw) (w39 hw) (w38 hw) (w7 hw) (w40 hw) (by decide) S1.exa pd_15 rfl (k_charAt l Z a0 hE a50 [121, 101, 115] 0 121 h51 S1.str rfl (by simp) (by decide)) (fun _ q => (nomatch q)) (fun q => ⟨q, fun _ q => (nomatch q)⟩) rfl rfl (Nat.le_of_ble_eq_true rfl) (Nat.le_of_ble_eq_true rfl) (Nat.le_of_ble_eq_true rfl) (Nat.le_of_ble_eq_true rfl) at_163 rfl rfl (pureK ?_)
        show W B h51 3 21 (a1 :: M) (true, ("com/example/purlin/purlin/util/TextValuesBoolPinLaw", 16) :: []) 166 #[.val (.int p0), .val (.int p1), .val (.int p2), .val (.long p3), .second, .val (.ref a1), .val (.int ln.toInt32), .val (.int (1 : Int32)), .val (.int wz), .val (.ref a50), .val (.int ((3 : Nat).toInt32)), .unset, .unset, .unset, .unset, .unset, .unset, .unset, .unset] [(.int (121 : Int32)), (.int (0 : Int32)), (.ref a1)]
        refine W.castore ok (pc' := 167) (cl' := (true, ("com/example/purlin/purlin/util/TextValuesBoolPinLaw", 16) :: [])) (A21.ext E52) (by decide) (Nat.le_of_ble_eq_true rfl) (List.mem_cons_self ..) (Or.inr z3) (fun q => ⟨q, z3⟩) rfl at_166 rfl (fun h53 Wr54 A55 => ?_)
        replace A55 := A55.cast (cs' := [(121 : Int32), x1, x2, x3, x4]) rfl
        have S56 := S1.wr Wr54 (List.mem_cons_self ..)
        refine W.iconst ok (pc' := 168) (1 : Int32) at_167 rfl rfl ?_
        refine W.iload ok (pc' := 170) at_168 rfl rfl ?_
        refine W.icmpge ok (pcY := 183) (pcN := 173) at_170 rfl (by decide) rfl (fun _ => ?_) (fun q => absurd (by decide) q)
        refine W.aload ok (pc' := 175) at_173 rfl rfl rfl ?_
        refine W.iconst ok (pc' := 176) (1 : Int32) at_175 rfl rfl ?_
        refine W.aload ok (pc' := 178) at_176 rfl rfl rfl ?_
        refine W.iconst ok (pc' := 179) (1 : Int32) at_178 rfl rfl ?_
        refine W.callV ok (rest := [(.int (1 : Int32)), (.ref a1)]) (cl' := (true, ("com/example/purlin/purlin/util/TextValuesBoolPinLaw", 16) :: [])) (pc' := 182) (w36 hw) (w37 hw) (w39 hw) (w38 hw) (w7 hw) (w40 hw) (by decide) S56.exa pd_15 rfl (k_charAt l Z a0 hE a50 [121, 101, 115] 1 101 h53 S56.str rfl (by simp) (by decide)) (fun _ q => (nomatch q)) (fun q => ⟨q, fun _ q => (nomatch q)⟩) rfl rfl (Nat.le_of_ble_eq_true rfl) (Nat.le_of_ble_eq_true rfl) (Nat.le_of_ble_eq_true rfl) (Nat.le_of_ble_eq_true rfl) at_179 rfl rfl (pureK ?_)
        show W B h53 3 21 (a1 :: M) (true, ("com/example/purlin/purlin/util/TextValuesBoolPinLaw", 16) :: []) 182 #[.val (.int p0), .val (.int p1), .val (.int p2), .val (.long p3), .second, .val (.ref a1), .val (.int ln.toInt32), .val (.int (1 : Int32)), .val (.int wz), .val (.ref a50), .val (.int ((3 : Nat).toInt32)), .unset, .unset, .unset, .unset, .unset, .unset, .unset, .unset] [(.int (101 : Int32)), (.int (1 : Int32)), (.ref a1)]
        refine W.castore ok (pc' := 183) (cl' := (true, ("com/example/purlin/purlin/util/TextValuesBoolPinLaw", 16) :: [])) A55 (by decide) (Nat.le_of_ble_eq_true rfl) (List.mem_cons_self ..) (Or.inr z3) (fun q => ⟨q, z3⟩) rfl at_182 rfl (fun h57 Wr58 A59 => ?_)
        replace A59 := A59.cast (cs' := [(121 : Int32), (101 : Int32), x2, x3, x4]) rfl
        have S60 := S56.wr Wr58 (List.mem_cons_self ..)
        refine W.iconst ok (pc' := 184) (2 : Int32) at_183 rfl rfl ?_
        refine W.iload ok (pc' := 186) at_184 rfl rfl ?_
        refine W.icmpge ok (pcY := 199) (pcN := 189) at_186 rfl (by decide) rfl (fun _ => ?_) (fun q => absurd (by decide) q)
        refine W.aload ok (pc' := 191) at_189 rfl rfl rfl ?_
        refine W.iconst ok (pc' := 192) (2 : Int32) at_191 rfl rfl ?_
        refine W.aload ok (pc' := 194) at_192 rfl rfl rfl ?_
        refine W.iconst ok (pc' := 195) (2 : Int32) at_194 rfl rfl ?_
        refine W.callV ok (rest := [(.int (2 : Int32)), (.ref a1)]) (cl' := (true, ("com/example/purlin/purlin/util/TextValuesBoolPinLaw", 16) :: [])) (pc' := 198) (w36 hw) (w37 hw) (w39 hw) (w38 hw) (w7 hw) (w40 hw) (by decide) S60.exa pd_15 rfl (k_charAt l Z a0 hE a50 [121, 101, 115] 2 115 h57 S60.str rfl (by simp) (by decide)) (fun _ q => (nomatch q)) (fun q => ⟨q, fun _ q => (nomatch q)⟩) rfl rfl (Nat.le_of_ble_eq_true rfl) (Nat.le_of_ble_eq_true rfl) (Nat.le_of_ble_eq_true rfl) (Nat.le_of_ble_eq_true rfl) at_195 rfl rfl (pureK ?_)
        show W B h57 3 21 (a1 :: M) (true, ("com/example/purlin/purlin/util/TextValuesBoolPinLaw", 16) :: []) 198 #[.val (.int p0), .val (.int p1), .val (.int p2), .val (.long p3), .second, .val (.ref a1), .val (.int ln.toInt32), .val (.int (1 : Int32)), .val (.int wz), .val (.ref a50), .val (.int ((3 : Nat).toInt32)), .unset, .unset, .unset, .unset, .unset, .unset, .unset, .unset] [(.int (115 : Int32)), (.int (2 : Int32)), (.ref a1)]
        refine W.castore ok (pc' := 199) (cl' := (true, ("com/example/purlin/purlin/util/TextValuesBoolPinLaw", 16) :: [])) A59 (by decide) (Nat.le_of_ble_eq_true rfl) (List.mem_cons_self ..) (Or.inr z3) (fun q => ⟨q, z3⟩) rfl at_198 rfl (fun h61 Wr62 A63 => ?_)
        replace A63 := A63.cast (cs' := [(121 : Int32), (101 : Int32), (115 : Int32), x3, x4]) rfl
        have S64 := S60.wr Wr62 (List.mem_cons_self ..)
        refine W.iconst ok (pc' := 200) (3 : Int32) at_199 rfl rfl ?_
        refine W.iload ok (pc' := 202) at_200 rfl rfl ?_
        refine W.icmpge ok (pcY := 215) (pcN := 205) at_202 rfl (by decide) rfl (fun q => absurd q (by decide)) (fun _ => ?_)
        refine W.iconst ok (pc' := 216) (4 : Int32) at_215 rfl rfl ?_
        refine W.iload ok (pc' := 218) at_216 rfl rfl ?_
        refine W.icmpge ok (pcY := 231) (pcN := 221) at_218 rfl (by decide) rfl (fun q => absurd q (by decide)) (fun _ => ?_)
        refine W.iloadN ok (pc' := 232) at_231 rfl rfl ?_
        refine W.bipush ok (pc' := 234) (7 : Int32) at_232 rfl rfl ?_
        refine W.iushr ok (pc' := 235) at_234 rfl ?_
        refine W.iconst ok (pc' := 236) (1 : Int32) at_235 rfl rfl ?_
        refine W.iand ok (pc' := 237) at_236 rfl ?_
        refine W.ifne ok (pcY := 244) (pcN := 240) at_237 rfl (by decide) rfl (fun c5 => ?_) (fun c5 => ?_)
        · refine W.iconst ok (pc' := 241) (1 : Int32) at_240 rfl rfl ?_
          refine W.goto ok (pc' := 245) at_241 (by decide) rfl ?_
          refine W.istore ok (pc' := 247) (L' := #[.val (.int p0), .val (.int p1), .val (.int p2), .val (.long p3), .second, .val (.ref a1), .val (.int ln.toInt32), .val (.int (1 : Int32)), .val (.int wz), .val (.ref a50), .val (.int ((3 : Nat).toInt32)), .val (.int (1 : Int32)), .unset, .unset, .unset, .unset, .unset, .unset, .unset]) at_245 rfl rfl ?_
          refine W.iload ok (pc' := 249) at_247 rfl rfl ?_
          refine W.ifeq ok (pcY := 256) (pcN := 252) at_249 rfl (by decide) rfl (fun q => absurd q (by decide)) (fun _ => ?_)
          refine W.iload ok (pc' := 254) at_252 rfl rfl ?_
          refine W.istore ok (pc' := 256) (L' := #[.val (.int p0), .val (.int p1), .val (.int p2), .val (.long p3), .second, .val (.ref a1), .val (.int ((3 : Nat).toInt32)), .val (.int (1 : Int32)), .val (.int wz), .val (.ref a50), .val (.int ((3 : Nat).toInt32)), .val (.int (1 : Int32)), .unset, .unset, .unset, .unset, .unset, .unset, .unset]) at_254 rfl rfl ?_
          refine W.weaken (k' := 3) (n' := 40) (cl' := (true, [])) (by decide) (by decide) (fun q => q) (fun e q => by first | exact q | (nomatch q)) ?_
          exact seg256 _ [(121 : Int32), (101 : Int32), (115 : Int32), x3, x4] 3 _ _ _ _ _ A63 rfl (by simp only [List.mem_cons, List.not_mem_nil, or_false]; rintro x (rfl | rfl | rfl | rfl | rfl) <;> first | assumption | decide) (by decide) (One.val rfl) (One.val rfl) (One.val rfl) (One.val rfl) (One.val rfl)
        · refine W.iconst ok (pc' := 245) (0 : Int32) at_244 rfl rfl ?_
          refine W.istore ok (pc' := 247) (L' := #[.val (.int p0), .val (.int p1), .val (.int p2), .val (.long p3), .second, .val (.ref a1), .val (.int ln.toInt32), .val (.int (1 : Int32)), .val (.int wz), .val (.ref a50), .val (.int ((3 : Nat).toInt32)), .val (.int (0 : Int32)), .unset, .unset, .unset, .unset, .unset, .unset, .unset]) at_245 rfl rfl ?_
          refine W.iload ok (pc' := 249) at_247 rfl rfl ?_
          refine W.ifeq ok (pcY := 256) (pcN := 252) at_249 rfl (by decide) rfl (fun _ => ?_) (fun q => absurd rfl q)
          refine W.weaken (k' := 3) (n' := 40) (cl' := (true, [])) (by decide) (by decide) (fun q => q) (fun e q => by first | exact q | (nomatch q)) ?_
          exact seg256 _ [(121 : Int32), (101 : Int32), (115 : Int32), x3, x4] ln _ _ _ _ _ A63 rfl (by simp only [List.mem_cons, List.not_mem_nil, or_false]; rintro x (rfl | rfl | rfl | rfl | rfl) <;> first | assumption | decide) hln (One.val rfl) (One.val rfl) (One.val rfl) (One.val rfl) (One.val rfl)
      · refine W.iload ok (pc' := 131) at_129 rfl rfl ?_
        refine W.iconst ok (pc' := 132) (2 : Int32) at_131 rfl rfl ?_
        refine W.icmpne ok (pcY := 140) (pcN := 135) at_132 rfl (by decide) rfl (fun d2 => ?_) (fun d2 => ?_)
        · refine W.ldcS ok (pc' := 137) rfl (text := "false") (sz := 20) (w99 hw) (fun d hd => hw d ((by decide +kernel : ∀ d ∈ Bundle.stringAtoms, d ∈ tables_1) d hd)) (hE.held _ (List.mem_of_getElem? (i := 6) rfl)) hE.cw (by decide) (Or.inl rfl) (by decide) (by decide) at_135 rfl (Nat.le_of_ble_eq_true rfl) (Nat.le_of_ble_eq_true rfl) (fun a65 h66 E67 S1 => ?_)
          refine W.goto ok (pc' := 142) at_137 (by decide) rfl ?_
          refine W.astore ok (pc' := 144) (L' := #[.val (.int p0), .val (.int p1), .val (.int p2), .val (.long p3), .second, .val (.ref a1), .val (.int ln.toInt32), .val (.int (1 : Int32)), .val (.int wz), .val (.ref a65), .unset, .unset, .unset, .unset, .unset, .unset, .unset, .unset, .unset]) at_142 rfl rfl rfl ?_
          refine W.aload ok (pc' := 146) at_144 rfl rfl rfl ?_
          replace S1 := S1.cast (cs' := [102, 97, 108, 115, 101]) (by decide)
          refine W.callV ok (rest := []) (cl' := (true, ("com/example/purlin/purlin/util/TextValuesBoolPinLaw", 18) :: [])) (pc' := 149) (w23 hw) (w24 hw) (w26 hw) (w25 hw) (w7 hw) (w27 hw) (by decide) S1.exa pd_14 rfl (k_length l Z a0 hE a65 [102, 97, 108, 115, 101] h66 S1.str (by simp)) (fun _ q => (nomatch q)) (fun q => ⟨q, fun _ q => (nomatch q)⟩) rfl rfl (Nat.le_of_ble_eq_true rfl) (Nat.le_of_ble_eq_true rfl) (Nat.le_of_ble_eq_true rfl) (Nat.le_of_ble_eq_true rfl) at_146 rfl rfl (pureK ?_)
          show W B h66 3 29 (a1 :: M) (true, ("com/example/purlin/purlin/util/TextValuesBoolPinLaw", 18) :: []) 149 #[.val (.int p0), .val (.int p1), .val (.int p2), .val (.long p3), .second, .val (.ref a1), .val (.int ln.toInt32), .val (.int (1 : Int32)), .val (.int wz), .val (.ref a65), .unset, .unset, .unset, .unset, .unset, .unset, .unset, .unset, .unset] [(.int ((5 : Nat).toInt32))]
          refine W.istore ok (pc' := 151) (L' := #[.val (.int p0), .val (.int p1), .val (.int p2), .val (.long p3), .second, .val (.ref a1), .val (.int ln.toInt32), .val (.int (1 : Int32)), .val (.int wz), .val (.ref a65), .val (.int ((5 : Nat).toInt32)), .unset, .unset, .unset, .unset, .unset, .unset, .unset, .unset]) at_149 rfl rfl ?_
          refine W.iconst ok (pc' := 152) (0 : Int32) at_151 rfl rfl ?_
          refine W.iload ok (pc' := 154) at_152 rfl rfl ?_
          refine W.icmpge ok (pcY := 167) (pcN := 157) at_154 rfl (by decide) rfl (fun _ => ?_) (fun q => absurd (by decide) q)
          refine W.aload ok (pc' := 159) at_157 rfl rfl rfl ?_
          refine W.iconst ok (pc' := 160) (0 : Int32) at_159 rfl rfl ?_
          refine W.aload ok (pc' := 162) at_160 rfl rfl rfl ?_
          refine W.iconst ok (pc' := 163) (0 : Int32) at_162 rfl rfl ?_
          refine W.callV ok (rest := [(.int (0 : Int32)), (.ref a1)]) (cl' := (true, ("com/example/purlin/purlin/util/TextValuesBoolPinLaw", 18) :: [])) (pc' := 166) (w36 hw) (w37 hw) (w39 hw) (w38 hw) (w7 hw) (w40 hw) (by decide) S1.exa pd_15 rfl (k_charAt l Z a0 hE a65 [102, 97, 108, 115, 101] 0 102 h66 S1.str rfl (by simp) (by decide)) (fun _ q => (nomatch q)) (fun q => ⟨q, fun _ q => (nomatch q)⟩) rfl rfl (Nat.le_of_ble_eq_true rfl) (Nat.le_of_ble_eq_true rfl) (Nat.le_of_ble_eq_true rfl) (Nat.le_of_ble_eq_true rfl) at_163 rfl rfl (pureK ?_)
          show W B h66 3 29 (a1 :: M) (true, ("com/example/purlin/purlin/util/TextValuesBoolPinLaw", 18) :: []) 166 #[.val (.int p0), .val (.int p1), .val (.int p2), .val (.long p3), .second, .val (.ref a1), .val (.int ln.toInt32), .val (.int (1 : Int32)), .val (.int wz), .val (.ref a65), .val (.int ((5 : Nat).toInt32)), .unset, .unset, .unset, .unset, .unset, .unset, .unset, .unset] [(.int (102 : Int32)), (.int (0 : Int32)), (.ref a1)]
          refine W.castore ok (pc' := 167) (cl' := (true, ("com/example/purlin/purlin/util/TextValuesBoolPinLaw", 18) :: [])) (A21.ext E67) (by decide) (Nat.le_of_ble_eq_true rfl) (List.mem_cons_self ..) (Or.inr z3) (fun q => ⟨q, z3⟩) rfl at_166 rfl (fun h68 Wr69 A70 => ?_)
          replace A70 := A70.cast (cs' := [(102 : Int32), x1, x2, x3, x4]) rfl
          have S71 := S1.wr Wr69 (List.mem_cons_self ..)
          refine W.iconst ok (pc' := 168) (1 : Int32) at_167 rfl rfl ?_
          refine W.iload ok (pc' := 170) at_168 rfl rfl ?_
          refine W.icmpge ok (pcY := 183) (pcN := 173) at_170 rfl (by decide) rfl (fun _ => ?_) (fun q => absurd (by decide) q)
          refine W.aload ok (pc' := 175) at_173 rfl rfl rfl ?_
          refine W.iconst ok (pc' := 176) (1 : Int32) at_175 rfl rfl ?_
          refine W.aload ok (pc' := 178) at_176 rfl rfl rfl ?_
          refine W.iconst ok (pc' := 179) (1 : Int32) at_178 rfl rfl ?_
          refine W.callV ok (rest := [(.int (1 : Int32)), (.ref a1)]) (cl' := (true, ("com/example/purlin/purlin/util/TextValuesBoolPinLaw", 18) :: [])) (pc' := 182) (w36 hw) (w37 hw) (w39 hw) (w38 hw) (w7 hw) (w40 hw) (by decide) S71.exa pd_15 rfl (k_charAt l Z a0 hE a65 [102, 97, 108, 115, 101] 1 97 h68 S71.str rfl (by simp) (by decide)) (fun _ q => (nomatch q)) (fun q => ⟨q, fun _ q => (nomatch q)⟩) rfl rfl (Nat.le_of_ble_eq_true rfl) (Nat.le_of_ble_eq_true rfl) (Nat.le_of_ble_eq_true rfl) (Nat.le_of_ble_eq_true rfl) at_179 rfl rfl (pureK ?_)
          show W B h68 3 29 (a1 :: M) (true, ("com/example/purlin/purlin/util/TextValuesBoolPinLaw", 18) :: []) 182 #[.val (.int p0), .val (.int p1), .val (.int p2), .val (.long p3), .second, .val (.ref a1), .val (.int ln.toInt32), .val (.int (1 : Int32)), .val (.int wz), .val (.ref a65), .val (.int ((5 : Nat).toInt32)), .unset, .unset, .unset, .unset, .unset, .unset, .unset, .unset] [(.int (97 : Int32)), (.int (1 : Int32)), (.ref a1)]
          refine W.castore ok (pc' := 183) (cl' := (true, ("com/example/purlin/purlin/util/TextValuesBoolPinLaw", 18) :: [])) A70 (by decide) (Nat.le_of_ble_eq_true rfl) (List.mem_cons_self ..) (Or.inr z3) (fun q => ⟨q, z3⟩) rfl at_182 rfl (fun h72 Wr73 A74 => ?_)
          replace A74 := A74.cast (cs' := [(102 : Int32), (97 : Int32), x2, x3, x4]) rfl
          have S75 := S71.wr Wr73 (List.mem_cons_self ..)
          refine W.iconst ok (pc' := 184) (2 : Int32) at_183 rfl rfl ?_
          refine W.iload ok (pc' := 186) at_184 rfl rfl ?_
          refine W.icmpge ok (pcY := 199) (pcN := 189) at_186 rfl (by decide) rfl (fun _ => ?_) (fun q => absurd (by decide) q)
          refine W.aload ok (pc' := 191) at_189 rfl rfl rfl ?_
          refine W.iconst ok (pc' := 192) (2 : Int32) at_191 rfl rfl ?_
          refine W.aload ok (pc' := 194) at_192 rfl rfl rfl ?_
          refine W.iconst ok (pc' := 195) (2 : Int32) at_194 rfl rfl ?_
          refine W.callV ok (rest := [(.int (2 : Int32)), (.ref a1)]) (cl' := (true, ("com/example/purlin/purlin/util/TextValuesBoolPinLaw", 18) :: [])) (pc' := 198) (w36 hw) (w37 hw) (w39 hw) (w38 hw) (w7 hw) (w40 hw) (by decide) S75.exa pd_15 rfl (k_charAt l Z a0 hE a65 [102, 97, 108, 115, 101] 2 108 h72 S75.str rfl (by simp) (by decide)) (fun _ q => (nomatch q)) (fun q => ⟨q, fun _ q => (nomatch q)⟩) rfl rfl (Nat.le_of_ble_eq_true rfl) (Nat.le_of_ble_eq_true rfl) (Nat.le_of_ble_eq_true rfl) (Nat.le_of_ble_eq_true rfl) at_195 rfl rfl (pureK ?_)
          show W B h72 3 29 (a1 :: M) (true, ("com/example/purlin/purlin/util/TextValuesBoolPinLaw", 18) :: []) 198 #[.val (.int p0), .val (.int p1), .val (.int p2), .val (.long p3), .second, .val (.ref a1), .val (.int ln.toInt32), .val (.int (1 : Int32)), .val (.int wz), .val (.ref a65), .val (.int ((5 : Nat).toInt32)), .unset, .unset, .unset, .unset, .unset, .unset, .unset, .unset] [(.int (108 : Int32)), (.int (2 : Int32)), (.ref a1)]
          refine W.castore ok (pc' := 199) (cl' := (true, ("com/example/purlin/purlin/util/TextValuesBoolPinLaw", 18) :: [])) A74 (by decide) (Nat.le_of_ble_eq_true rfl) (List.mem_cons_self ..) (Or.inr z3) (fun q => ⟨q, z3⟩) rfl at_198 rfl (fun h76 Wr77 A78 => ?_)
          replace A78 := A78.cast (cs' := [(102 : Int32), (97 : Int32), (108 : Int32), x3, x4]) rfl
          have S79 := S75.wr Wr77 (List.mem_cons_self ..)
          refine W.iconst ok (pc' := 200) (3 : Int32) at_199 rfl rfl ?_
          refine W.iload ok (pc' := 202) at_200 rfl rfl ?_
          refine W.icmpge ok (pcY := 215) (pcN := 205) at_202 rfl (by decide) rfl (fun _ => ?_) (fun q => absurd (by decide) q)
          refine W.aload ok (pc' := 207) at_205 rfl rfl rfl ?_
          refine W.iconst ok (pc' := 208) (3 : Int32) at_207 rfl rfl ?_
          refine W.aload ok (pc' := 210) at_208 rfl rfl rfl ?_
          refine W.iconst ok (pc' := 211) (3 : Int32) at_210 rfl rfl ?_
          refine W.callV ok (rest := [(.int (3 : Int32)), (.ref a1)]) (cl' := (true, ("com/example/purlin/purlin/util/TextValuesBoolPinLaw", 18) :: [])) (pc' := 214) (w36 hw) (w37 hw) (w39 hw) (w38 hw) (w7 hw) (w40 hw) (by decide) S79.exa pd_15 rfl (k_charAt l Z a0 hE a65 [102, 97, 108, 115, 101] 3 115 h76 S79.str rfl (by simp) (by decide)) (fun _ q => (nomatch q)) (fun q => ⟨q, fun _ q => (nomatch q)⟩) rfl rfl (Nat.le_of_ble_eq_true rfl) (Nat.le_of_ble_eq_true rfl) (Nat.le_of_ble_eq_true rfl) (Nat.le_of_ble_eq_true rfl) at_211 rfl rfl (pureK ?_)
          show W B h76 3 29 (a1 :: M) (true, ("com/example/purlin/purlin/util/TextValuesBoolPinLaw", 18) :: []) 214 #[.val (.int p0), .val (.int p1), .val (.int p2), .val (.long p3), .second, .val (.ref a1), .val (.int ln.toInt32), .val (.int (1 : Int32)), .val (.int wz), .val (.ref a65), .val (.int ((5 : Nat).toInt32)), .unset, .unset, .unset, .unset, .unset, .unset, .unset, .unset] [(.int (115 : Int32)), (.int (3 : Int32)), (.ref a1)]
          refine W.castore ok (pc' := 215) (cl' := (true, ("com/example/purlin/purlin/util/TextValuesBoolPinLaw", 18) :: [])) A78 (by decide) (Nat.le_of_ble_eq_true rfl) (List.mem_cons_self ..) (Or.inr z3) (fun q => ⟨q, z3⟩) rfl at_214 rfl (fun h80 Wr81 A82 => ?_)
          replace A82 := A82.cast (cs' := [(102 : Int32), (97 : Int32), (108 : Int32), (115 : Int32), x4]) rfl
          have S83 := S79.wr Wr81 (List.mem_cons_self ..)
          refine W.iconst ok (pc' := 216) (4 : Int32) at_215 rfl rfl ?_
          refine W.iload ok (pc' := 218) at_216 rfl rfl ?_
          refine W.icmpge ok (pcY := 231) (pcN := 221) at_218 rfl (by decide) rfl (fun _ => ?_) (fun q => absurd (by decide) q)
          refine W.aload ok (pc' := 223) at_221 rfl rfl rfl ?_
          refine W.iconst ok (pc' := 224) (4 : Int32) at_223 rfl rfl ?_
          refine W.aload ok (pc' := 226) at_224 rfl rfl rfl ?_
          refine W.iconst ok (pc' := 227) (4 : Int32) at_226 rfl rfl ?_
          refine W.callV ok (rest := [(.int (4 : Int32)), (.ref a1)]) (cl' := (true, ("com/example/purlin/purlin/util/TextValuesBoolPinLaw", 18) :: [])) (pc' := 230) (w36 hw) (w37 hw) (w39 hw) (w38 hw) (w7 hw) (w40 hw) (by decide) S83.exa pd_15 rfl (k_charAt l Z a0 hE a65 [102, 97, 108, 115, 101] 4 101 h80 S83.str rfl (by simp) (by decide)) (fun _ q => (nomatch q)) (fun q => ⟨q, fun _ q => (nomatch q)⟩) rfl rfl (Nat.le_of_ble_eq_true rfl) (Nat.le_of_ble_eq_true rfl) (Nat.le_of_ble_eq_true rfl) (Nat.le_of_ble_eq_true rfl) at_227 rfl rfl (pureK ?_)
          show W B h80 3 29 (a1 :: M) (true, ("com/example/purlin/purlin/util/TextValuesBoolPinLaw", 18) :: []) 230 #[.val (.int p0), .val (.int p1), .val (.int p2), .val (.long p3), .second, .val (.ref a1), .val (.int ln.toInt32), .val (.int (1 : Int32)), .val (.int wz), .val (.ref a65), .val (.int ((5 : Nat).toInt32)), .unset, .unset, .unset, .unset, .unset, .unset, .unset, .unset] [(.int (101 : Int32)), (.int (4 : Int32)), (.ref a1)]
          refine W.castore ok (pc' := 231) (cl' := (true, ("com/example/purlin/purlin/util/TextValuesBoolPinLaw", 18) :: [])) A82 (by decide) (Nat.le_of_ble_eq_true rfl) (List.mem_cons_self ..) (Or.inr z3) (fun q => ⟨q, z3⟩) rfl at_230 rfl (fun h84 Wr85 A86 => ?_)
          replace A86 := A86.cast (cs' := [(102 : Int32), (97 : Int32), (108 : Int32), (115 : Int32), (101 : Int32)]) rfl
          have S87 := S83.wr Wr85 (List.mem_cons_self ..)
          refine W.iloadN ok (pc' := 232) at_231 rfl rfl ?_
          refine W.bipush ok (pc' := 234) (7 : Int32) at_232 rfl rfl ?_
          refine W.iushr ok (pc' := 235) at_234 rfl ?_
          refine W.iconst ok (pc' := 236) (1 : Int32) at_235 rfl rfl ?_
          refine W.iand ok (pc' := 237) at_236 rfl ?_
          refine W.ifne ok (pcY := 244) (pcN := 240) at_237 rfl (by decide) rfl (fun c5 => ?_) (fun c5 => ?_)
          · refine W.iconst ok (pc' := 241) (1 : Int32) at_240 rfl rfl ?_
            refine W.goto ok (pc' := 245) at_241 (by decide) rfl ?_
            refine W.istore ok (pc' := 247) (L' := #[.val (.int p0), .val (.int p1), .val (.int p2), .val (.long p3), .second, .val (.ref a1), .val (.int ln.toInt32), .val (.int (1 : Int32)), .val (.int wz), .val (.ref a65), .val (.int ((5 : Nat).toInt32)), .val (.int (1 : Int32)), .unset, .unset, .unset, .unset, .unset, .unset, .unset]) at_245 rfl rfl ?_
            refine W.iload ok (pc' := 249) at_247 rfl rfl ?_
            refine W.ifeq ok (pcY := 256) (pcN := 252) at_249 rfl (by decide) rfl (fun q => absurd q (by decide)) (fun _ => ?_)
            refine W.iload ok (pc' := 254) at_252 rfl rfl ?_
            refine W.istore ok (pc' := 256) (L' := #[.val (.int p0), .val (.int p1), .val (.int p2), .val (.long p3), .second, .val (.ref a1), .val (.int ((5 : Nat).toInt32)), .val (.int (1 : Int32)), .val (.int wz), .val (.ref a65), .val (.int ((5 : Nat).toInt32)), .val (.int (1 : Int32)), .unset, .unset, .unset, .unset, .unset, .unset, .unset]) at_254 rfl rfl ?_
            refine W.weaken (k' := 3) (n' := 40) (cl' := (true, [])) (by decide) (by decide) (fun q => q) (fun e q => by first | exact q | (nomatch q)) ?_
            exact seg256 _ [(102 : Int32), (97 : Int32), (108 : Int32), (115 : Int32), (101 : Int32)] 5 _ _ _ _ _ A86 rfl (by simp only [List.mem_cons, List.not_mem_nil, or_false]; rintro x (rfl | rfl | rfl | rfl | rfl) <;> first | assumption | decide) (by decide) (One.val rfl) (One.val rfl) (One.val rfl) (One.val rfl) (One.val rfl)
          · refine W.iconst ok (pc' := 245) (0 : Int32) at_244 rfl rfl ?_
            refine W.istore ok (pc' := 247) (L' := #[.val (.int p0), .val (.int p1), .val (.int p2), .val (.long p3), .second, .val (.ref a1), .val (.int ln.toInt32), .val (.int (1 : Int32)), .val (.int wz), .val (.ref a65), .val (.int ((5 : Nat).toInt32)), .val (.int (0 : Int32)), .unset, .unset, .unset, .unset, .unset, .unset, .unset]) at_245 rfl rfl ?_
            refine W.iload ok (pc' := 249) at_247 rfl rfl ?_
            refine W.ifeq ok (pcY := 256) (pcN := 252) at_249 rfl (by decide) rfl (fun _ => ?_) (fun q => absurd rfl q)
            refine W.weaken (k' := 3) (n' := 40) (cl' := (true, [])) (by decide) (by decide) (fun q => q) (fun e q => by first | exact q | (nomatch q)) ?_
            exact seg256 _ [(102 : Int32), (97 : Int32), (108 : Int32), (115 : Int32), (101 : Int32)] ln _ _ _ _ _ A86 rfl (by simp only [List.mem_cons, List.not_mem_nil, or_false]; rintro x (rfl | rfl | rfl | rfl | rfl) <;> first | assumption | decide) hln (One.val rfl) (One.val rfl) (One.val rfl) (One.val rfl) (One.val rfl)
        · refine W.ldcS ok (pc' := 142) rfl (text := "no") (sz := 8) (w22 hw) (fun d hd => hw d ((by decide +kernel : ∀ d ∈ Bundle.stringAtoms, d ∈ tables_1) d hd)) (hE.held _ (List.mem_of_getElem? (i := 7) rfl)) hE.cw (by decide) (Or.inl rfl) (by decide) (by decide) at_140 rfl (Nat.le_of_ble_eq_true rfl) (Nat.le_of_ble_eq_true rfl) (fun a88 h89 E90 S1 => ?_)
          refine W.astore ok (pc' := 144) (L' := #[.val (.int p0), .val (.int p1), .val (.int p2), .val (.long p3), .second, .val (.ref a1), .val (.int ln.toInt32), .val (.int (1 : Int32)), .val (.int wz), .val (.ref a88), .unset, .unset, .unset, .unset, .unset, .unset, .unset, .unset, .unset]) at_142 rfl rfl rfl ?_
          refine W.aload ok (pc' := 146) at_144 rfl rfl rfl ?_
          replace S1 := S1.cast (cs' := [110, 111]) (by decide)
          refine W.callV ok (rest := []) (cl' := (true, ("com/example/purlin/purlin/util/TextValuesBoolPinLaw", 20) :: [])) (pc' := 149) (w23 hw) (w24 hw) (w26 hw) (w25 hw) (w7 hw) (w27 hw) (by decide) S1.exa pd_14 rfl (k_length l Z a0 hE a88 [110, 111] h89 S1.str (by simp)) (fun _ q => (nomatch q)) (fun q => ⟨q, fun _ q => (nomatch q)⟩) rfl rfl (Nat.le_of_ble_eq_true rfl) (Nat.le_of_ble_eq_true rfl) (Nat.le_of_ble_eq_true rfl) (Nat.le_of_ble_eq_true rfl) at_146 rfl rfl (pureK ?_)
          show W B h89 3 17 (a1 :: M) (true, ("com/example/purlin/purlin/util/TextValuesBoolPinLaw", 20) :: []) 149 #[.val (.int p0), .val (.int p1), .val (.int p2), .val (.long p3), .second, .val (.ref a1), .val (.int ln.toInt32), .val (.int (1 : Int32)), .val (.int wz), .val (.ref a88), .unset, .unset, .unset, .unset, .unset, .unset, .unset, .unset, .unset] [(.int ((2 : Nat).toInt32))]
          refine W.istore ok (pc' := 151) (L' := #[.val (.int p0), .val (.int p1), .val (.int p2), .val (.long p3), .second, .val (.ref a1), .val (.int ln.toInt32), .val (.int (1 : Int32)), .val (.int wz), .val (.ref a88), .val (.int ((2 : Nat).toInt32)), .unset, .unset, .unset, .unset, .unset, .unset, .unset, .unset]) at_149 rfl rfl ?_
          refine W.iconst ok (pc' := 152) (0 : Int32) at_151 rfl rfl ?_
          refine W.iload ok (pc' := 154) at_152 rfl rfl ?_
          refine W.icmpge ok (pcY := 167) (pcN := 157) at_154 rfl (by decide) rfl (fun _ => ?_) (fun q => absurd (by decide) q)
          refine W.aload ok (pc' := 159) at_157 rfl rfl rfl ?_
          refine W.iconst ok (pc' := 160) (0 : Int32) at_159 rfl rfl ?_
          refine W.aload ok (pc' := 162) at_160 rfl rfl rfl ?_
          refine W.iconst ok (pc' := 163) (0 : Int32) at_162 rfl rfl ?_
          refine W.callV ok (rest := [(.int (0 : Int32)), (.ref a1)]) (cl' := (true, ("com/example/purlin/purlin/util/TextValuesBoolPinLaw", 20) :: [])) (pc' := 166) (w36 hw) (w37 hw) (w39 hw) (w38 hw) (w7 hw) (w40 hw) (by decide) S1.exa pd_15 rfl (k_charAt l Z a0 hE a88 [110, 111] 0 110 h89 S1.str rfl (by simp) (by decide)) (fun _ q => (nomatch q)) (fun q => ⟨q, fun _ q => (nomatch q)⟩) rfl rfl (Nat.le_of_ble_eq_true rfl) (Nat.le_of_ble_eq_true rfl) (Nat.le_of_ble_eq_true rfl) (Nat.le_of_ble_eq_true rfl) at_163 rfl rfl (pureK ?_)
          show W B h89 3 17 (a1 :: M) (true, ("com/example/purlin/purlin/util/TextValuesBoolPinLaw", 20) :: []) 166 #[.val (.int p0), .val (.int p1), .val (.int p2), .val (.long p3), .second, .val (.ref a1), .val (.int ln.toInt32), .val (.int (1 : Int32)), .val (.int wz), .val (.ref a88), .val (.int ((2 : Nat).toInt32)), .unset, .unset, .unset, .unset, .unset, .unset, .unset, .unset] [(.int (110 : Int32)), (.int (0 : Int32)), (.ref a1)]
          refine W.castore ok (pc' := 167) (cl' := (true, ("com/example/purlin/purlin/util/TextValuesBoolPinLaw", 20) :: [])) (A21.ext E90) (by decide) (Nat.le_of_ble_eq_true rfl) (List.mem_cons_self ..) (Or.inr z3) (fun q => ⟨q, z3⟩) rfl at_166 rfl (fun h91 Wr92 A93 => ?_)
          replace A93 := A93.cast (cs' := [(110 : Int32), x1, x2, x3, x4]) rfl
          have S94 := S1.wr Wr92 (List.mem_cons_self ..)
          refine W.iconst ok (pc' := 168) (1 : Int32) at_167 rfl rfl ?_
          refine W.iload ok (pc' := 170) at_168 rfl rfl ?_
          refine W.icmpge ok (pcY := 183) (pcN := 173) at_170 rfl (by decide) rfl (fun _ => ?_) (fun q => absurd (by decide) q)
          refine W.aload ok (pc' := 175) at_173 rfl rfl rfl ?_
          refine W.iconst ok (pc' := 176) (1 : Int32) at_175 rfl rfl ?_
          refine W.aload ok (pc' := 178) at_176 rfl rfl rfl ?_
          refine W.iconst ok (pc' := 179) (1 : Int32) at_178 rfl rfl ?_
          refine W.callV ok (rest := [(.int (1 : Int32)), (.ref a1)]) (cl' := (true, ("com/example/purlin/purlin/util/TextValuesBoolPinLaw", 20) :: [])) (pc' := 182) (w36 hw) (w37 hw) (w39 hw) (w38 hw) (w7 hw) (w40 hw) (by decide) S94.exa pd_15 rfl (k_charAt l Z a0 hE a88 [110, 111] 1 111 h91 S94.str rfl (by simp) (by decide)) (fun _ q => (nomatch q)) (fun q => ⟨q, fun _ q => (nomatch q)⟩) rfl rfl (Nat.le_of_ble_eq_true rfl) (Nat.le_of_ble_eq_true rfl) (Nat.le_of_ble_eq_true rfl) (Nat.le_of_ble_eq_true rfl) at_179 rfl rfl (pureK ?_)
          show W B h91 3 17 (a1 :: M) (true, ("com/example/purlin/purlin/util/TextValuesBoolPinLaw", 20) :: []) 182 #[.val (.int p0), .val (.int p1), .val (.int p2), .val (.long p3), .second, .val (.ref a1), .val (.int ln.toInt32), .val (.int (1 : Int32)), .val (.int wz), .val (.ref a88), .val (.int ((2 : Nat).toInt32)), .unset, .unset, .unset, .unset, .unset, .unset, .unset, .unset] [(.int (111 : Int32)), (.int (1 : Int32)), (.ref a1)]
          refine W.castore ok (pc' := 183) (cl' := (true, ("com/example/purlin/purlin/util/TextValuesBoolPinLaw", 20) :: [])) A93 (by decide) (Nat.le_of_ble_eq_true rfl) (List.mem_cons_self ..) (Or.inr z3) (fun q => ⟨q, z3⟩) rfl at_182 rfl (fun h95 Wr96 A97 => ?_)
          replace A97 := A97.cast (cs' := [(110 : Int32), (111 : Int32), x2, x3, x4]) rfl
          have S98 := S94.wr Wr96 (List.mem_cons_self ..)
          refine W.iconst ok (pc' := 184) (2 : Int32) at_183 rfl rfl ?_
          refine W.iload ok (pc' := 186) at_184 rfl rfl ?_
          refine W.icmpge ok (pcY := 199) (pcN := 189) at_186 rfl (by decide) rfl (fun q => absurd q (by decide)) (fun _ => ?_)
          refine W.iconst ok (pc' := 200) (3 : Int32) at_199 rfl rfl ?_
          refine W.iload ok (pc' := 202) at_200 rfl rfl ?_
          refine W.icmpge ok (pcY := 215) (pcN := 205) at_202 rfl (by decide) rfl (fun q => absurd q (by decide)) (fun _ => ?_)
          refine W.iconst ok (pc' := 216) (4 : Int32) at_215 rfl rfl ?_
          refine W.iload ok (pc' := 218) at_216 rfl rfl ?_
          refine W.icmpge ok (pcY := 231) (pcN := 221) at_218 rfl (by decide) rfl (fun q => absurd q (by decide)) (fun _ => ?_)
          refine W.iloadN ok (pc' := 232) at_231 rfl rfl ?_
          refine W.bipush ok (pc' := 234) (7 : Int32) at_232 rfl rfl ?_
          refine W.iushr ok (pc' := 235) at_234 rfl ?_
          refine W.iconst ok (pc' := 236) (1 : Int32) at_235 rfl rfl ?_
          refine W.iand ok (pc' := 237) at_236 rfl ?_
          refine W.ifne ok (pcY := 244) (pcN := 240) at_237 rfl (by decide) rfl (fun c5 => ?_) (fun c5 => ?_)
          · refine W.iconst ok (pc' := 241) (1 : Int32) at_240 rfl rfl ?_
            refine W.goto ok (pc' := 245) at_241 (by decide) rfl ?_
            refine W.istore ok (pc' := 247) (L' := #[.val (.int p0), .val (.int p1), .val (.int p2), .val (.long p3), .second, .val (.ref a1), .val (.int ln.toInt32), .val (.int (1 : Int32)), .val (.int wz), .val (.ref a88), .val (.int ((2 : Nat).toInt32)), .val (.int (1 : Int32)), .unset, .unset, .unset, .unset, .unset, .unset, .unset]) at_245 rfl rfl ?_
            refine W.iload ok (pc' := 249) at_247 rfl rfl ?_
            refine W.ifeq ok (pcY := 256) (pcN := 252) at_249 rfl (by decide) rfl (fun q => absurd q (by decide)) (fun _ => ?_)
            refine W.iload ok (pc' := 254) at_252 rfl rfl ?_
            refine W.istore ok (pc' := 256) (L' := #[.val (.int p0), .val (.int p1), .val (.int p2), .val (.long p3), .second, .val (.ref a1), .val (.int ((2 : Nat).toInt32)), .val (.int (1 : Int32)), .val (.int wz), .val (.ref a88), .val (.int ((2 : Nat).toInt32)), .val (.int (1 : Int32)), .unset, .unset, .unset, .unset, .unset, .unset, .unset]) at_254 rfl rfl ?_
            refine W.weaken (k' := 3) (n' := 40) (cl' := (true, [])) (by decide) (by decide) (fun q => q) (fun e q => by first | exact q | (nomatch q)) ?_
            exact seg256 _ [(110 : Int32), (111 : Int32), x2, x3, x4] 2 _ _ _ _ _ A97 rfl (by simp only [List.mem_cons, List.not_mem_nil, or_false]; rintro x (rfl | rfl | rfl | rfl | rfl) <;> first | assumption | decide) (by decide) (One.val rfl) (One.val rfl) (One.val rfl) (One.val rfl) (One.val rfl)
          · refine W.iconst ok (pc' := 245) (0 : Int32) at_244 rfl rfl ?_
            refine W.istore ok (pc' := 247) (L' := #[.val (.int p0), .val (.int p1), .val (.int p2), .val (.long p3), .second, .val (.ref a1), .val (.int ln.toInt32), .val (.int (1 : Int32)), .val (.int wz), .val (.ref a88), .val (.int ((2 : Nat).toInt32)), .val (.int (0 : Int32)), .unset, .unset, .unset, .unset, .unset, .unset, .unset]) at_245 rfl rfl ?_
            refine W.iload ok (pc' := 249) at_247 rfl rfl ?_
            refine W.ifeq ok (pcY := 256) (pcN := 252) at_249 rfl (by decide) rfl (fun _ => ?_) (fun q => absurd rfl q)
            refine W.weaken (k' := 3) (n' := 40) (cl' := (true, [])) (by decide) (by decide) (fun q => q) (fun e q => by first | exact q | (nomatch q)) ?_
            exact seg256 _ [(110 : Int32), (111 : Int32), x2, x3, x4] ln _ _ _ _ _ A97 rfl (by simp only [List.mem_cons, List.not_mem_nil, or_false]; rintro x (rfl | rfl | rfl | rfl | rfl) <;> first | assumption | decide) hln (One.val rfl) (One.val rfl) (One.val rfl) (One.val rfl) (One.val rfl)
set_option maxRecDepth 65536 in
set_option maxHeartbeats 4000000 in
theorem comes_1 {Post : Tables → Env → Array Value → State → Outcome → State → Prop} (hpost : ∀ tb e args s v u, (limb_1_1.after args s (.returned v) u = true ∧ limb_1_2.after args s (.returned v) u = true ∧ True) → ReturnedEndW s (.returned v) u (Jvm.fieldLocs frame_1_writes args s ++ Jvm.arrayLocs frame_1_arrays args s ++ Jvm.staticLocs frame_1_statics s) 40 9408 → Post tb e args s (.returned v) u) :
    ArmFor flags0 classFile x code maxLocals ret World_1 tables_1 room_1 Calls_1 rest_1 Pre_1 Post := by
  intro l hfl _ _ p e ha hc hk s m args below hf hA hF happ hP
  obtain ⟨hcalls, hrest, hpre⟩ := hP
  obtain ⟨-, -, -, hnamed, -, -, -, hat⟩ := (Spec.applies_iff hf).mp happ
  obtain ⟨hg, hn⟩ := and_e (Cond.before_iff.mp (show (Jvm.Cond.and given_1 narrow_1).before args s = true from hpre))
  obtain ⟨h1, g0⟩ := and_e hg
  obtain ⟨q0, g1⟩ := and_e g0
  obtain ⟨q1, g2⟩ := and_e g1
  obtain ⟨q2, g3⟩ := and_e g2
  obtain ⟨w0_, w1_, w2_, w3_, rfl⟩ : ∃ w0_ w1_ w2_ w3_ : Value, args = #[w0_, w1_, w2_, w3_] := by
    have hs : args.size = 4 := by simpa [Cond.value, given_1] using h1
    obtain ⟨L⟩ := args
    match L, hs with
    | [w0_, w1_, w2_, w3_], _ => exact ⟨w0_, w1_, w2_, w3_, rfl⟩
  have hw := fun d (hd : d ∈ tables_1) => atoms_spec (ws := Jvm.Cond.code x code maxLocals ret :: tables_1) hat d (List.mem_cons_of_mem _ hd)
  have hfit : Fit s := fun {y c} hc i hi => by
    obtain ⟨ha, rfl⟩ := Array.getElem?_eq_some_iff.mp hc
    have q := List.all_eq_true.mp ((Array.all_eq_true_iff_forall_mem.mp hF) _ (Array.getElem_mem ha)) i (List.mem_range.mpr hi)
    simpa [Array.getElem?_eq_getElem hi] using q
  obtain ⟨p0, e0_⟩ := is_v q0
  obtain rfl : w0_ = (.int p0) := Option.some.inj e0_
  obtain ⟨p1, e1_⟩ := is_v q1
  obtain rfl : w1_ = (.int p1) := Option.some.inj e1_
  obtain ⟨p2, e2_⟩ := is_v q2
  obtain rfl : w2_ = (.int p2) := Option.some.inj e2_
  obtain ⟨p3, e3_⟩ := isL_v g3
  obtain rfl : w3_ = (.long p3) := Option.some.inj e3_
  obtain ⟨hsets, hown0⟩ := atoms_of _ (rest_1_c_eq ▸ (show rest_1_c.before _ s = true from hrest))
  have nC := not_v (Cond.before_iff.mp (hsets _ (List.mem_of_getElem? (i := 2) rfl)))
  obtain ⟨gC, eC⟩ := is_v (Cond.before_iff.mp (hsets _ (List.mem_of_getElem? (i := 1) rfl)))
  have sC : Sta s s.heap "java/lang/String" "COMPACT_STRINGS" "Z" (.int gC) := Sta.start eC (Or.inl (hsets _ (List.mem_of_getElem? (i := 0) rfl)))
  have cC : ¬ (gC = (0 : Int32)) := gotF (Cond.eq_ints eC (Term.int_eval (0))) nC
  obtain ⟨gF, eF, rF⟩ := isR_v (Cond.before_iff.mp (hsets _ (List.mem_of_getElem? (i := 8) rfl)))
  have sF : Sta s s.heap "jdk/internal/util/Preconditions" "SIOOBE_FORMATTER" "Ljava/util/function/BiFunction;" gF := Sta.start eF (Or.inl (hsets _ (List.mem_of_getElem? (i := 7) rfl)))
  have x_btrue := Cond.before_iff.mp (hsets _ (List.mem_of_getElem? (i := 11) rfl))
  obtain ⟨b_btrue, e_btrue⟩ := exa_v x_btrue
  have m_btrue : (∃ b : Addr, Sta s s.heap "java/lang/Boolean" "TRUE" "Ljava/lang/Boolean;" (.ref b) ∧ Exa s s.heap b "java/lang/Boolean" ∧ Fld s s.heap b "java/lang/Boolean" "value" "Z" (.int 1)) := ⟨b_btrue, Sta.start e_btrue (Or.inl (hsets _ (List.mem_of_getElem? (i := 10) rfl))), Exa.start e_btrue x_btrue, Fld.start ((fld_at e_btrue).symm.trans (eq_int_v (Cond.before_iff.mp (hsets _ (List.mem_of_getElem? (i := 12) rfl)))))⟩
  have x_bfalse := Cond.before_iff.mp (hsets _ (List.mem_of_getElem? (i := 15) rfl))
  obtain ⟨b_bfalse, e_bfalse⟩ := exa_v x_bfalse
  have m_bfalse : (∃ b : Addr, Sta s s.heap "java/lang/Boolean" "FALSE" "Ljava/lang/Boolean;" (.ref b) ∧ Exa s s.heap b "java/lang/Boolean" ∧ Fld s s.heap b "java/lang/Boolean" "value" "Z" (.int 0)) := ⟨b_bfalse, Sta.start e_bfalse (Or.inl (hsets _ (List.mem_of_getElem? (i := 14) rfl))), Exa.start e_bfalse x_bfalse, Fld.start ((fld_at e_bfalse).symm.trans (eq_int_v (Cond.before_iff.mp (hsets _ (List.mem_of_getElem? (i := 16) rfl)))))⟩
  have hE : Ev s (#[.int p0, .int p1, .int p2, .long p3] : Array Value) := ⟨hw, ⟨gC, cC, sC⟩, ⟨gF, rF, sF⟩, (fun q hq => hcalls.1 q hq), (hsets _ (List.mem_of_getElem? (i := 2) rfl)), m_btrue, m_bfalse⟩
  obtain ⟨n_, o_, r1, r2, r3, v_, Lc, rfl, rfl, -, -, hL, hR, hN⟩ := k_law l s _ hE p0 p1 p2 p3 s.heap tables_1 [] (fun _ q => (nomatch q)) p e ha hc hk s m _ below hf ((Spec.applies_iff_loose hf).mp happ).1 ⟨rfl, rfl, State.Warmed39.refl s, fun units a _ q => Or.inl q, ⟨Nat.le_refl _, fun _ _ q => q⟩, fun _ q => (by cases q), fun _ q => (by cases q)⟩ trivial
  exact ⟨n_, _, r1, r2, r3, hpost _ _ _ _ _ _ ⟨Cond.after_iff.mpr rfl, Cond.after_iff.mpr (eq_i res_at (Term.int_eval (1)) rfl), trivial⟩ ⟨hR.1, hR.2.1, hR.2.2.1, (hR.2.2.2.sift fun y hy => Or.inr ((hL y hy).elim (fun q => by cases q) id)).mono (by decide) (by decide)⟩⟩
theorem main_1_1 : Claimed_1_1 := comes_1 fun _ _ _ _ _ _ h hF => ⟨h.1, hF⟩
theorem main_1_2 : Claimed_1_2 := comes_1 fun _ _ _ _ _ _ h hF => ⟨h.2.1, hF⟩
end Jvm.Pilot.@@N@@
namespace Jvm.Pilot.@@N@@
open Jvm Jvm.ClassFile Sem Op Lib Jvm.Free Jvm.Stand Jvm.Pilot.@@N@@.Jvm.D
/-! MADE BY PROGRAM (witnessworld.py) out of the Statement's table words and the real class files: 21 classes; the members and pool entries that the words name. The judged class is class 1, her method 2. -/
namespace start1
open Jvm.ClassFile
def u (s : String) : CpInfo := .utf8 (stringToUtf16 s)
/-- a pool by its gaps: so many unusable entries, then the entry; so many at the end -/
def gap : Nat → List CpInfo → List CpInfo
  | 0, r => r
  | n + 1, r => .unusable :: gap n r
def poolList (es : List (Nat × CpInfo)) (last : Nat) : List CpInfo := es.foldr (fun e r => gap e.1 (e.2 :: r)) (gap last [])
def pool (es : List (Nat × CpInfo)) (last : Nat) : Array CpInfo := ⟨poolList es last⟩
def fileOf (pool : Array CpInfo) (this : Nat) (attrs : Array Attribute := #[]) (ms : Array MethodInfo := #[]) (fl : Nat := 33) (sup : Nat := 0) (ifs : Array Nat := #[]) (fds : Array FieldInfo := #[]) : ClassFile where
  minorVersion := 0
  majorVersion := 65
  constantPool := pool
  accessFlags := fl
  thisClass := this
  superClass := sup
  interfaces := ifs
  fields := fds
  methods := ms
  attributes := attrs
def plain (name : String) (sup : Option ClassId) : Class where
  name := name
  kind := .ordinary
  loader := none
  accessFlags := 33
  super := sup
  interfaces := #[]
  cf := none
  fields := #[]
  methods := #[]
  instanceTypes := #[]
  staticTypes := #[]
  resolved := #[]
  callSites := []
  init := .initialized
  statics := none
  mirror := none

def pool0 : Array CpInfo := pool [(5, u "<init>"), (0, u "()V"), (1, .class_ 10), (1, u "java/lang/Object")] 113

def k0c0 : Code := { maxStack := 0, maxLocals := 1, code := object_method_1_code, exceptionTable := #[], attributes := #[] }
def k0m0 : Method := { name := "<init>", desc := "()V", sig := { parameters := [], returnType := none }, accessFlags := 1, code := some k0c0 }
/-- java/lang/Object -/
def k0 : Class := { plain "java/lang/Object" none with
  accessFlags := 33
  interfaces := #[]
  cf := some (fileOf pool0 8 #[] #[{ accessFlags := 1, nameIndex := 5, descriptorIndex := 6, attributes := #[] }] 33 0 #[] #[])
  fields := #[]
  methods := #[k0m0]
  instanceTypes := #[]
  staticTypes := #[]
  resolved := Array.replicate 124 none
  statics := none }

def pool1 : Array CpInfo := pool [(2, .class_ 4), (1, u "java/lang/Object"), (0, u "<init>"), (0, u "()V"), (0, .class_ 8), (0, u "java/lang/String"), (0, .methodref 7 10), (0, .nameAndType 5 11), (0, u "([C)V"), (0, .long 255), (1, .string 15), (0, u "true"), (0, .string 17), (0, u "yes"), (0, .string 19), (0, u "false"), (0, .string 21), (0, u "no"), (0, .methodref 7 23), (0, .nameAndType 24 25), (0, u "length"), (0, u "()I"), (0, .methodref 7 27), (0, .nameAndType 28 29), (0, u "charAt"), (0, u "(I)C"), (0, .methodref 31 32), (0, .class_ 33), (0, .nameAndType 34 35), (0, u "com/example/purlin/purlin/util/TextValuesBoolPinLaw"), (0, u "make"), (0, u "([CI)Ljava/lang/String;"), (0, .methodref 37 38), (0, .class_ 39), (0, .nameAndType 40 41), (0, u "com/example/purlin/purlin/util/TextValues"), (0, u "bool"), (0, u "(Ljava/lang/String;)Ljava/lang/Boolean;"), (0, .methodref 43 44), (0, .class_ 45), (0, .nameAndType 46 47), (0, u "java/lang/Boolean"), (0, u "booleanValue"), (0, u "()Z"), (3, u "law"), (0, u "(IIIJ)Z")] 4

def k1m0 : Method := { name := "<init>", desc := "()V", sig := { parameters := [], returnType := none }, accessFlags := 1, code := none }
def k1c1 : Code := { maxStack := 7, maxLocals := 2, code := method_2_code, exceptionTable := #[], attributes := #[] }
def k1m1 : Method := { name := "make", desc := "([CI)Ljava/lang/String;", sig := { parameters := [(.array .char), .int], returnType := some (.object "java/lang/String") }, accessFlags := 10, code := some k1c1 }
def k1c2 : Code := { maxStack := 6, maxLocals := 19, code := code, exceptionTable := #[], attributes := #[] }
def k1m2 : Method := { name := "law", desc := "(IIIJ)Z", sig := { parameters := [.int, .int, .int, .long], returnType := some .boolean }, accessFlags := 9, code := some k1c2 }
/-- com/example/purlin/purlin/util/TextValuesBoolPinLaw -/
def k1 : Class := { plain "com/example/purlin/purlin/util/TextValuesBoolPinLaw" (some 0) with
  accessFlags := 49
  interfaces := #[]
  cf := some (fileOf pool1 31 #[] #[{ accessFlags := 1, nameIndex := 5, descriptorIndex := 6, attributes := #[] }, { accessFlags := 10, nameIndex := 34, descriptorIndex := 35, attributes := #[] }, { accessFlags := 9, nameIndex := 51, descriptorIndex := 52, attributes := #[] }] 49 2 #[] #[])
  fields := #[]
  methods := #[k1m0, k1m1, k1m2]
  instanceTypes := #[]
  staticTypes := #[]
  resolved := Array.replicate 57 none
  statics := none }

def pool2 : Array CpInfo := pool [(2, .class_ 4), (1, u "java/lang/Object"), (0, u "<init>"), (0, u "()V"), (1, .class_ 10), (1, u "com/example/purlin/purlin/util/TextValues"), (0, u "SIMPLE_TYPES"), (0, u "Ljava/util/Map;"), (5, u "(Ljava/lang/Object;)Z"), (7, .class_ 28), (1, u "com/example/purlin/purlin/util/TextValues$SimpleType"), (13, .class_ 44), (1, u "java/lang/String"), (5, .string 51), (0, u "true"), (0, .methodref 42 53), (0, .nameAndType 54 18), (0, u "equals"), (0, .string 56), (0, u "yes"), (0, .fieldref 58 59), (0, .class_ 60), (0, .nameAndType 61 62), (0, u "java/lang/Boolean"), (0, u "TRUE"), (0, u "Ljava/lang/Boolean;"), (0, .string 64), (0, u "false"), (0, .string 66), (0, u "no"), (0, .fieldref 58 68), (0, .nameAndType 69 62), (0, u "FALSE"), (14, u "DECIMAL"), (0, u "Ljava/util/regex/Pattern;"), (151, u "TEXT"), (0, u "Lcom/example/purlin/purlin/util/TextValues$SimpleType;"), (5, u "TRUTH"), (5, u "CHARACTER"), (13, u "BYTE"), (7, u "SHORT"), (7, u "INT"), (7, u "LONG"), (5, u "FLOAT"), (5, u "DOUBLE"), (23, u "SIMPLE_TYPE_NAMES"), (0, u "Ljava/lang/String;"), (1, u "QUOTED_LENGTH"), (0, u "I"), (15, u "bool"), (0, u "(Ljava/lang/String;)Ljava/lang/Boolean;")] 79

def k2m0 : Method := { name := "<init>", desc := "()V", sig := { parameters := [], returnType := none }, accessFlags := 2, code := none }
def k2c1 : Code := { maxStack := 2, maxLocals := 2, code := prog_90_method_7_code, exceptionTable := #[], attributes := #[] }
def k2m1 : Method := { name := "bool", desc := "(Ljava/lang/String;)Ljava/lang/Boolean;", sig := { parameters := [(.object "java/lang/String")], returnType := some (.object "java/lang/Boolean") }, accessFlags := 9, code := some k2c1 }
/-- com/example/purlin/purlin/util/TextValues -/
def k2 : Class := { plain "com/example/purlin/purlin/util/TextValues" (some 0) with
  accessFlags := 49
  interfaces := #[]
  cf := some (fileOf pool2 8 #[.nestMembers #[26]] #[{ accessFlags := 2, nameIndex := 5, descriptorIndex := 6, attributes := #[] }, { accessFlags := 9, nameIndex := 344, descriptorIndex := 345, attributes := #[] }] 49 2 #[] #[{ accessFlags := 26, nameIndex := 84, descriptorIndex := 85, attributes := #[] }, { accessFlags := 26, nameIndex := 237, descriptorIndex := 238, attributes := #[] }, { accessFlags := 26, nameIndex := 244, descriptorIndex := 238, attributes := #[] }, { accessFlags := 26, nameIndex := 250, descriptorIndex := 238, attributes := #[] }, { accessFlags := 26, nameIndex := 264, descriptorIndex := 238, attributes := #[] }, { accessFlags := 26, nameIndex := 272, descriptorIndex := 238, attributes := #[] }, { accessFlags := 26, nameIndex := 280, descriptorIndex := 238, attributes := #[] }, { accessFlags := 26, nameIndex := 288, descriptorIndex := 238, attributes := #[] }, { accessFlags := 26, nameIndex := 294, descriptorIndex := 238, attributes := #[] }, { accessFlags := 26, nameIndex := 300, descriptorIndex := 238, attributes := #[] }, { accessFlags := 26, nameIndex := 11, descriptorIndex := 12, attributes := #[] }, { accessFlags := 26, nameIndex := 324, descriptorIndex := 325, attributes := #[] }, { accessFlags := 26, nameIndex := 327, descriptorIndex := 328, attributes := #[] }])
  fields := #[{ name := "DECIMAL", type := (.object "java/util/regex/Pattern"), accessFlags := 26, slot := 0, constantValue := 0 }, { name := "TEXT", type := (.object "com/example/purlin/purlin/util/TextValues$SimpleType"), accessFlags := 26, slot := 1, constantValue := 0 }, { name := "TRUTH", type := (.object "com/example/purlin/purlin/util/TextValues$SimpleType"), accessFlags := 26, slot := 2, constantValue := 0 }, { name := "CHARACTER", type := (.object "com/example/purlin/purlin/util/TextValues$SimpleType"), accessFlags := 26, slot := 3, constantValue := 0 }, { name := "BYTE", type := (.object "com/example/purlin/purlin/util/TextValues$SimpleType"), accessFlags := 26, slot := 4, constantValue := 0 }, { name := "SHORT", type := (.object "com/example/purlin/purlin/util/TextValues$SimpleType"), accessFlags := 26, slot := 5, constantValue := 0 }, { name := "INT", type := (.object "com/example/purlin/purlin/util/TextValues$SimpleType"), accessFlags := 26, slot := 6, constantValue := 0 }, { name := "LONG", type := (.object "com/example/purlin/purlin/util/TextValues$SimpleType"), accessFlags := 26, slot := 7, constantValue := 0 }, { name := "FLOAT", type := (.object "com/example/purlin/purlin/util/TextValues$SimpleType"), accessFlags := 26, slot := 8, constantValue := 0 }, { name := "DOUBLE", type := (.object "com/example/purlin/purlin/util/TextValues$SimpleType"), accessFlags := 26, slot := 9, constantValue := 0 }, { name := "SIMPLE_TYPES", type := (.object "java/util/Map"), accessFlags := 26, slot := 10, constantValue := 0 }, { name := "SIMPLE_TYPE_NAMES", type := (.object "java/lang/String"), accessFlags := 26, slot := 11, constantValue := 0 }, { name := "QUOTED_LENGTH", type := .int, accessFlags := 26, slot := 12, constantValue := 0 }]
  methods := #[k2m0, k2m1]
  instanceTypes := #[]
  staticTypes := #[(.object "java/util/regex/Pattern"), (.object "com/example/purlin/purlin/util/TextValues$SimpleType"), (.object "com/example/purlin/purlin/util/TextValues$SimpleType"), (.object "com/example/purlin/purlin/util/TextValues$SimpleType"), (.object "com/example/purlin/purlin/util/TextValues$SimpleType"), (.object "com/example/purlin/purlin/util/TextValues$SimpleType"), (.object "com/example/purlin/purlin/util/TextValues$SimpleType"), (.object "com/example/purlin/purlin/util/TextValues$SimpleType"), (.object "com/example/purlin/purlin/util/TextValues$SimpleType"), (.object "com/example/purlin/purlin/util/TextValues$SimpleType"), (.object "java/util/Map"), (.object "java/lang/String"), .int]
  resolved := Array.replicate 425 none
  statics := none }

def pool3 : Array CpInfo := pool [(1, .class_ 2), (0, u "java/io/Serializable"), (0, .class_ 4), (0, u "java/lang/Object")] 2

/-- java/io/Serializable -/
def k3 : Class := { plain "java/io/Serializable" (some 0) with
  accessFlags := 1537
  interfaces := #[]
  cf := some (fileOf pool3 1 #[] #[] 1537 3 #[] #[])
  fields := #[]
  methods := #[]
  instanceTypes := #[]
  staticTypes := #[]
  resolved := Array.replicate 7 none
  statics := none }

def pool4 : Array CpInfo := pool [(1, .class_ 2), (0, u "java/lang/Comparable"), (0, .class_ 4), (0, u "java/lang/Object")] 7

/-- java/lang/Comparable -/
def k4 : Class := { plain "java/lang/Comparable" (some 0) with
  accessFlags := 1537
  interfaces := #[]
  cf := some (fileOf pool4 1 #[] #[] 1537 3 #[] #[])
  fields := #[]
  methods := #[]
  instanceTypes := #[]
  staticTypes := #[]
  resolved := Array.replicate 12 none
  statics := none }

def pool5 : Array CpInfo := pool [(2, .class_ 4), (1, u "java/lang/CharSequence"), (42, .class_ 48), (0, u "java/lang/CharSequence$1CodePointIterator"), (10, .class_ 60), (0, u "java/lang/CharSequence$1CharIterator"), (5, .class_ 67), (0, u "java/lang/Object")] 63

/-- java/lang/CharSequence -/
def k5 : Class := { plain "java/lang/CharSequence" (some 0) with
  accessFlags := 1537
  interfaces := #[]
  cf := some (fileOf pool5 2 #[.nestMembers #[47, 59]] #[] 1537 66 #[] #[])
  fields := #[]
  methods := #[]
  instanceTypes := #[]
  staticTypes := #[]
  resolved := Array.replicate 131 none
  statics := none }

def pool6 : Array CpInfo := pool [(1, .class_ 2), (0, u "java/lang/constant/Constable"), (0, .class_ 4), (0, u "java/lang/Object")] 6

/-- java/lang/constant/Constable -/
def k6 : Class := { plain "java/lang/constant/Constable" (some 0) with
  accessFlags := 1537
  interfaces := #[]
  cf := some (fileOf pool6 1 #[] #[] 1537 3 #[] #[])
  fields := #[]
  methods := #[]
  instanceTypes := #[]
  staticTypes := #[]
  resolved := Array.replicate 11 none
  statics := none }

def pool7 : Array CpInfo := pool [(1, .class_ 2), (0, u "java/lang/constant/ConstantDesc"), (0, .class_ 4), (0, u "java/lang/Object")] 32

/-- java/lang/constant/ConstantDesc -/
def k7 : Class := { plain "java/lang/constant/ConstantDesc" (some 0) with
  accessFlags := 1537
  interfaces := #[]
  cf := some (fileOf pool7 1 #[] #[] 1537 3 #[] #[])
  fields := #[]
  methods := #[]
  instanceTypes := #[]
  staticTypes := #[]
  resolved := Array.replicate 37 none
  statics := none }

def pool8 : Array CpInfo := pool [(1, .methodref 2 3), (0, .class_ 4), (0, .nameAndType 5 6), (0, u "java/lang/Object"), (0, u "<init>"), (0, u "()V"), (0, .string 8), (0, u ""), (0, .fieldref 10 11), (0, .class_ 12), (0, .nameAndType 13 14), (0, u "java/lang/String"), (0, u "value"), (0, u "[B"), (0, .fieldref 10 16), (0, .nameAndType 17 18), (0, u "coder"), (0, u "B"), (2, u "hash"), (0, u "I"), (2, u "hashIsZero"), (0, u "Z"), (0, .methodref 10 28), (0, .nameAndType 5 29), (0, u "([CIILjava/lang/Void;)V"), (8, .fieldref 10 39), (0, .nameAndType 40 26), (0, u "COMPACT_STRINGS"), (1, .class_ 44), (1, u "java/lang/StringUTF16"), (0, u "compress"), (1, .methodref 42 48), (0, .nameAndType 49 50), (0, u "coderFromArrayLen"), (0, u "([BI)B"), (56, .class_ 109), (1, u "java/lang/StringLatin1"), (32, u "()Z"), (34, .methodref 42 178), (0, .nameAndType 45 179), (0, u "([CII)[B"), (154, u "()I"), (0, .methodref 10 336), (0, .nameAndType 17 337), (0, u "()B"), (25, u "([BI)C"), (27, u "(II)V"), (35, u "(I)C"), (64, .methodref 10 493), (0, .nameAndType 494 142), (0, u "isLatin1"), (0, .methodref 107 496), (0, .nameAndType 497 363), (0, u "charAt"), (3, u "checkIndex"), (5, u "length"), (33, .methodref 107 542), (0, .nameAndType 543 544), (0, u "equals"), (0, u "([B[B)Z"), (28, u "(Ljava/lang/Object;)Z"), (1, .class_ 576), (0, u "java/lang/CharSequence"), (22, u "CASE_INSENSITIVE_ORDER"), (0, u "Ljava/util/Comparator;"), (409, u "([C)V"), (42, .fieldref 1054 1055), (0, .class_ 1056), (0, .nameAndType 1057 1058), (0, u "jdk/internal/util/Preconditions"), (0, u "SIOOBE_FORMATTER"), (0, u "Ljava/util/function/BiFunction;"), (0, .methodref 1054 1060), (0, .nameAndType 501 1061), (0, u "(IILjava/util/function/BiFunction;)I"), (39, u "serialPersistentFields"), (0, u "[Ljava/io/ObjectStreamField;"), (0, .class_ 1104), (0, u "java/lang/String$CaseInsensitiveComparator"), (1, .class_ 1107), (0, u "java/io/Serializable"), (0, .class_ 1109), (0, u "java/lang/Comparable"), (0, .class_ 1111), (0, u "java/lang/constant/Constable"), (0, .class_ 1113), (0, u "java/lang/constant/ConstantDesc"), (2, u "serialVersionUID"), (0, u "J"), (3, u "REPL"), (0, u "C"), (2, u "LATIN1"), (1, u "UTF16")] 323

def k8m0 : Method := { name := "<init>", desc := "()V", sig := { parameters := [], returnType := none }, accessFlags := 1, code := none }
def k8c1 : Code := { maxStack := 5, maxLocals := 2, code := jdk_42_method_3_code, exceptionTable := #[], attributes := #[] }
def k8m1 : Method := { name := "<init>", desc := "([C)V", sig := { parameters := [(.array .char)], returnType := none }, accessFlags := 1, code := some k8c1 }
def k8c2 : Code := { maxStack := 2, maxLocals := 1, code := jdk_42_method_54_code, exceptionTable := #[], attributes := #[] }
def k8m2 : Method := { name := "length", desc := "()I", sig := { parameters := [], returnType := some .int }, accessFlags := 1, code := some k8c2 }
def k8c3 : Code := { maxStack := 2, maxLocals := 2, code := jdk_42_method_56_code, exceptionTable := #[], attributes := #[] }
def k8m3 : Method := { name := "charAt", desc := "(I)C", sig := { parameters := [.int], returnType := some .char }, accessFlags := 1, code := some k8c3 }
def k8c4 : Code := { maxStack := 2, maxLocals := 3, code := jdk_42_method_66_code, exceptionTable := #[], attributes := #[] }
def k8m4 : Method := { name := "equals", desc := "(Ljava/lang/Object;)Z", sig := { parameters := [(.object "java/lang/Object")], returnType := some .boolean }, accessFlags := 1, code := some k8c4 }
def k8c5 : Code := { maxStack := 4, maxLocals := 6, code := jdk_42_method_149_code, exceptionTable := #[], attributes := #[] }
def k8m5 : Method := { name := "<init>", desc := "([CIILjava/lang/Void;)V", sig := { parameters := [(.array .char), .int, .int, (.object "java/lang/Void")], returnType := none }, accessFlags := 2, code := some k8c5 }
def k8c6 : Code := { maxStack := 1, maxLocals := 1, code := jdk_42_method_152_code, exceptionTable := #[], attributes := #[] }
def k8m6 : Method := { name := "coder", desc := "()B", sig := { parameters := [], returnType := some .byte }, accessFlags := 0, code := some k8c6 }
def k8c7 : Code := { maxStack := 1, maxLocals := 1, code := jdk_42_method_154_code, exceptionTable := #[], attributes := #[] }
def k8m7 : Method := { name := "isLatin1", desc := "()Z", sig := { parameters := [], returnType := some .boolean }, accessFlags := 0, code := some k8c7 }
def k8c8 : Code := { maxStack := 3, maxLocals := 2, code := jdk_42_method_155_code, exceptionTable := #[], attributes := #[] }
def k8m8 : Method := { name := "checkIndex", desc := "(II)V", sig := { parameters := [.int, .int], returnType := none }, accessFlags := 8, code := some k8c8 }
/-- java/lang/String -/
def k8 : Class := { plain "java/lang/String" (some 0) with
  accessFlags := 49
  interfaces := #[3, 4, 5, 6, 7]
  cf := some (fileOf pool8 10 #[.nestMembers #[1103]] #[{ accessFlags := 1, nameIndex := 5, descriptorIndex := 6, attributes := #[] }, { accessFlags := 1, nameIndex := 5, descriptorIndex := 1010, attributes := #[] }, { accessFlags := 1, nameIndex := 507, descriptorIndex := 334, attributes := #[] }, { accessFlags := 1, nameIndex := 497, descriptorIndex := 427, attributes := #[] }, { accessFlags := 1, nameIndex := 543, descriptorIndex := 573, attributes := #[] }, { accessFlags := 2, nameIndex := 5, descriptorIndex := 29, attributes := #[] }, { accessFlags := 0, nameIndex := 17, descriptorIndex := 337, attributes := #[] }, { accessFlags := 0, nameIndex := 494, descriptorIndex := 142, attributes := #[] }, { accessFlags := 8, nameIndex := 501, descriptorIndex := 391, attributes := #[] }] 49 2 #[1106, 1108, 575, 1110, 1112] #[{ accessFlags := 18, nameIndex := 13, descriptorIndex := 14, attributes := #[] }, { accessFlags := 18, nameIndex := 17, descriptorIndex := 18, attributes := #[] }, { accessFlags := 2, nameIndex := 21, descriptorIndex := 22, attributes := #[] }, { accessFlags := 2, nameIndex := 25, descriptorIndex := 26, attributes := #[] }, { accessFlags := 26, nameIndex := 1116, descriptorIndex := 1117, attributes := #[] }, { accessFlags := 24, nameIndex := 40, descriptorIndex := 26, attributes := #[] }, { accessFlags := 26, nameIndex := 1101, descriptorIndex := 1102, attributes := #[] }, { accessFlags := 26, nameIndex := 1121, descriptorIndex := 1122, attributes := #[] }, { accessFlags := 25, nameIndex := 599, descriptorIndex := 600, attributes := #[] }, { accessFlags := 24, nameIndex := 1125, descriptorIndex := 18, attributes := #[] }, { accessFlags := 24, nameIndex := 1127, descriptorIndex := 18, attributes := #[] }])
  fields := #[{ name := "value", type := (.array .byte), accessFlags := 18, slot := 0, constantValue := 0 }, { name := "coder", type := .byte, accessFlags := 18, slot := 1, constantValue := 0 }, { name := "hash", type := .int, accessFlags := 2, slot := 2, constantValue := 0 }, { name := "hashIsZero", type := .boolean, accessFlags := 2, slot := 3, constantValue := 0 }, { name := "serialVersionUID", type := .long, accessFlags := 26, slot := 0, constantValue := 0 }, { name := "COMPACT_STRINGS", type := .boolean, accessFlags := 24, slot := 1, constantValue := 0 }, { name := "serialPersistentFields", type := (.array (.object "java/io/ObjectStreamField")), accessFlags := 26, slot := 2, constantValue := 0 }, { name := "REPL", type := .char, accessFlags := 26, slot := 3, constantValue := 0 }, { name := "CASE_INSENSITIVE_ORDER", type := (.object "java/util/Comparator"), accessFlags := 25, slot := 4, constantValue := 0 }, { name := "LATIN1", type := .byte, accessFlags := 24, slot := 5, constantValue := 0 }, { name := "UTF16", type := .byte, accessFlags := 24, slot := 6, constantValue := 0 }]
  methods := #[k8m0, k8m1, k8m2, k8m3, k8m4, k8m5, k8m6, k8m7, k8m8]
  instanceTypes := #[(.array .byte), .byte, .int, .boolean]
  staticTypes := #[.long, .boolean, (.array (.object "java/io/ObjectStreamField")), .char, (.object "java/util/Comparator"), .byte, .byte]
  resolved := Array.replicate 1451 none
  statics := some 0 }

def pool9 : Array CpInfo := pool [(1, .class_ 2), (0, u "java/lang/String"), (1, .class_ 6), (1, u "java/lang/Object"), (0, u "<init>"), (0, u "()V"), (0, .methodref 1 10), (0, .nameAndType 11 12), (0, u "checkIndex"), (0, u "(II)V"), (1, .class_ 16), (1, u "java/lang/StringLatin1"), (36, u "([BI)C"), (67, u "$assertionsDisabled"), (0, u "Z"), (98, .class_ 223), (1, u "java/lang/StringLatin1$LinesSpliterator"), (28, u "charAt"), (28, u "equals"), (0, u "([B[B)Z"), (107, .class_ 391), (0, u "java/lang/StringLatin1$CharsSpliterator")] 3

def k9m0 : Method := { name := "<init>", desc := "()V", sig := { parameters := [], returnType := none }, accessFlags := 0, code := none }
def k9c1 : Code := { maxStack := 2, maxLocals := 2, code := jdk_43_method_2_code, exceptionTable := #[], attributes := #[] }
def k9m1 : Method := { name := "charAt", desc := "([BI)C", sig := { parameters := [(.array .byte), .int], returnType := some .char }, accessFlags := 9, code := some k9c1 }
def k9c2 : Code := { maxStack := 3, maxLocals := 3, code := jdk_43_method_13_code, exceptionTable := #[], attributes := #[] }
def k9m2 : Method := { name := "equals", desc := "([B[B)Z", sig := { parameters := [(.array .byte), (.array .byte)], returnType := some .boolean }, accessFlags := 9, code := some k9c2 }
/-- java/lang/StringLatin1 -/
def k9 : Class := { plain "java/lang/StringLatin1" (some 0) with
  accessFlags := 48
  interfaces := #[]
  cf := some (fileOf pool9 14 #[.nestMembers #[390, 221]] #[{ accessFlags := 0, nameIndex := 7, descriptorIndex := 8, attributes := #[] }, { accessFlags := 9, nameIndex := 252, descriptorIndex := 53, attributes := #[] }, { accessFlags := 9, nameIndex := 281, descriptorIndex := 282, attributes := #[] }] 48 4 #[] #[{ accessFlags := 4120, nameIndex := 121, descriptorIndex := 122, attributes := #[] }])
  fields := #[{ name := "$assertionsDisabled", type := .boolean, accessFlags := 4120, slot := 0, constantValue := 0 }]
  methods := #[k9m0, k9m1, k9m2]
  instanceTypes := #[]
  staticTypes := #[.boolean]
  resolved := Array.replicate 395 none
  statics := none }

def pool10 : Array CpInfo := pool [(2, .class_ 4), (1, u "java/lang/Object"), (0, u "<init>"), (0, u "()V"), (17, .class_ 26), (1, u "jdk/internal/util/Preconditions"), (6, u "checkIndex"), (21, .class_ 56), (0, u "jdk/internal/util/Preconditions$4"), (57, .class_ 115), (0, u "jdk/internal/util/Preconditions$1"), (7, u "SIOOBE_FORMATTER"), (0, u "Ljava/util/function/BiFunction;"), (0, .class_ 126), (0, u "jdk/internal/util/Preconditions$2"), (3, u "AIOOBE_FORMATTER"), (0, .class_ 132), (0, u "jdk/internal/util/Preconditions$3"), (3, u "IOOBE_FORMATTER"), (41, u "(IILjava/util/function/BiFunction;)I")] 15

def k10m0 : Method := { name := "<init>", desc := "()V", sig := { parameters := [], returnType := none }, accessFlags := 1, code := none }
def k10c1 : Code := { maxStack := 3, maxLocals := 3, code := jdk_41_method_11_code, exceptionTable := #[], attributes := #[] }
def k10m1 : Method := { name := "checkIndex", desc := "(IILjava/util/function/BiFunction;)I", sig := { parameters := [.int, .int, (.object "java/util/function/BiFunction")], returnType := some .int }, accessFlags := 9, code := some k10c1 }
/-- jdk/internal/util/Preconditions -/
def k10 : Class := { plain "jdk/internal/util/Preconditions" (some 0) with
  accessFlags := 33
  interfaces := #[]
  cf := some (fileOf pool10 24 #[.nestMembers #[55, 131, 125, 114]] #[{ accessFlags := 1, nameIndex := 5, descriptorIndex := 6, attributes := #[] }, { accessFlags := 9, nameIndex := 33, descriptorIndex := 178, attributes := #[] }] 33 2 #[] #[{ accessFlags := 25, nameIndex := 123, descriptorIndex := 124, attributes := #[] }, { accessFlags := 25, nameIndex := 130, descriptorIndex := 124, attributes := #[] }, { accessFlags := 25, nameIndex := 136, descriptorIndex := 124, attributes := #[] }])
  fields := #[{ name := "SIOOBE_FORMATTER", type := (.object "java/util/function/BiFunction"), accessFlags := 25, slot := 0, constantValue := 0 }, { name := "AIOOBE_FORMATTER", type := (.object "java/util/function/BiFunction"), accessFlags := 25, slot := 1, constantValue := 0 }, { name := "IOOBE_FORMATTER", type := (.object "java/util/function/BiFunction"), accessFlags := 25, slot := 2, constantValue := 0 }]
  methods := #[k10m0, k10m1]
  instanceTypes := #[]
  staticTypes := #[(.object "java/util/function/BiFunction"), (.object "java/util/function/BiFunction"), (.object "java/util/function/BiFunction")]
  resolved := Array.replicate 194 none
  statics := some 1 }

def pool11 : Array CpInfo := pool [(6, .class_ 8), (1, u "java/lang/Object"), (0, u "<init>"), (0, u "()V"), (1, .class_ 14), (1, u "java/lang/StringUTF16"), (31, u "$assertionsDisabled"), (0, u "Z"), (13, u "HI_BYTE_SHIFT"), (0, u "I"), (2, u "LO_BYTE_SHIFT"), (49, .methodref 12 116), (0, .nameAndType 117 118), (0, u "compress"), (0, u "([CI[BII)I"), (3, u "([CII)[B"), (138, u "coderFromArrayLen"), (0, u "([BI)B"), (106, .class_ 371), (1, u "java/lang/StringUTF16$LinesSpliterator"), (58, u "MAX_LENGTH"), (196, .class_ 628), (0, u "java/lang/StringUTF16$CodePointsSpliterator"), (0, .class_ 630), (0, u "java/lang/StringUTF16$CharsSpliterator")] 4

def k11m0 : Method := { name := "<init>", desc := "()V", sig := { parameters := [], returnType := none }, accessFlags := 0, code := none }
def k11c1 : Code := { maxStack := 2, maxLocals := 2, code := jdk_52_method_15_code, exceptionTable := #[], attributes := #[] }
def k11m1 : Method := { name := "coderFromArrayLen", desc := "([BI)B", sig := { parameters := [(.array .byte), .int], returnType := some .byte }, accessFlags := 8, code := some k11c1 }
def k11c2 : Code := { maxStack := 5, maxLocals := 6, code := jdk_52_method_16_code, exceptionTable := #[], attributes := #[] }
def k11m2 : Method := { name := "compress", desc := "([CII)[B", sig := { parameters := [(.array .char), .int, .int], returnType := some (.array .byte) }, accessFlags := 9, code := some k11c2 }
def k11c3 : Code := { maxStack := 3, maxLocals := 7, code := jdk_52_method_21_code, exceptionTable := #[], attributes := #[] }
def k11m3 : Method := { name := "compress", desc := "([CI[BII)I", sig := { parameters := [(.array .char), .int, (.array .byte), .int, .int], returnType := some .int }, accessFlags := 9, code := some k11c3 }
/-- java/lang/StringUTF16 -/
def k11 : Class := { plain "java/lang/StringUTF16" (some 0) with
  accessFlags := 48
  interfaces := #[]
  cf := some (fileOf pool11 12 #[.nestMembers #[627, 629, 369]] #[{ accessFlags := 0, nameIndex := 9, descriptorIndex := 10, attributes := #[] }, { accessFlags := 8, nameIndex := 261, descriptorIndex := 262, attributes := #[] }, { accessFlags := 9, nameIndex := 117, descriptorIndex := 122, attributes := #[] }, { accessFlags := 9, nameIndex := 117, descriptorIndex := 118, attributes := #[] }] 48 6 #[] #[{ accessFlags := 26, nameIndex := 61, descriptorIndex := 62, attributes := #[] }, { accessFlags := 26, nameIndex := 65, descriptorIndex := 62, attributes := #[] }, { accessFlags := 24, nameIndex := 430, descriptorIndex := 62, attributes := #[] }, { accessFlags := 4120, nameIndex := 46, descriptorIndex := 47, attributes := #[] }])
  fields := #[{ name := "HI_BYTE_SHIFT", type := .int, accessFlags := 26, slot := 0, constantValue := 0 }, { name := "LO_BYTE_SHIFT", type := .int, accessFlags := 26, slot := 1, constantValue := 0 }, { name := "MAX_LENGTH", type := .int, accessFlags := 24, slot := 2, constantValue := 0 }, { name := "$assertionsDisabled", type := .boolean, accessFlags := 4120, slot := 3, constantValue := 0 }]
  methods := #[k11m0, k11m1, k11m2, k11m3]
  instanceTypes := #[]
  staticTypes := #[.int, .int, .int, .boolean]
  resolved := Array.replicate 635 none
  statics := none }

def pool12 : Array CpInfo := pool [(2, .class_ 4), (1, u "java/lang/Object"), (2, .fieldref 8 9), (0, .class_ 10), (0, .nameAndType 11 12), (0, u "java/lang/Boolean"), (0, u "value"), (0, u "Z"), (16, u "TRUE"), (0, u "Ljava/lang/Boolean;"), (2, u "FALSE"), (10, u "booleanValue"), (0, u "()Z"), (41, u "TYPE"), (0, u "Ljava/lang/Class;"), (0, .class_ 90), (0, u "java/io/Serializable"), (0, .class_ 92), (0, u "java/lang/Comparable"), (0, .class_ 94), (0, u "java/lang/constant/Constable"), (2, u "serialVersionUID"), (0, u "J")] 53

def k12c0 : Code := { maxStack := 1, maxLocals := 1, code := jdk_2055_method_4_code, exceptionTable := #[], attributes := #[] }
def k12m0 : Method := { name := "booleanValue", desc := "()Z", sig := { parameters := [], returnType := some .boolean }, accessFlags := 1, code := some k12c0 }
/-- java/lang/Boolean -/
def k12 : Class := { plain "java/lang/Boolean" (some 0) with
  accessFlags := 49
  interfaces := #[3, 4, 6]
  cf := some (fileOf pool12 8 #[] #[{ accessFlags := 1, nameIndex := 44, descriptorIndex := 45, attributes := #[] }] 49 2 #[89, 91, 93] #[{ accessFlags := 25, nameIndex := 29, descriptorIndex := 30, attributes := #[] }, { accessFlags := 25, nameIndex := 33, descriptorIndex := 30, attributes := #[] }, { accessFlags := 25, nameIndex := 87, descriptorIndex := 88, attributes := #[] }, { accessFlags := 18, nameIndex := 11, descriptorIndex := 12, attributes := #[] }, { accessFlags := 26, nameIndex := 97, descriptorIndex := 98, attributes := #[] }])
  fields := #[{ name := "TRUE", type := (.object "java/lang/Boolean"), accessFlags := 25, slot := 0, constantValue := 0 }, { name := "FALSE", type := (.object "java/lang/Boolean"), accessFlags := 25, slot := 1, constantValue := 0 }, { name := "TYPE", type := (.object "java/lang/Class"), accessFlags := 25, slot := 2, constantValue := 0 }, { name := "value", type := .boolean, accessFlags := 18, slot := 0, constantValue := 0 }, { name := "serialVersionUID", type := .long, accessFlags := 26, slot := 3, constantValue := 0 }]
  methods := #[k12m0]
  instanceTypes := #[.boolean]
  staticTypes := #[(.object "java/lang/Boolean"), (.object "java/lang/Boolean"), (.object "java/lang/Class"), .long]
  resolved := Array.replicate 152 none
  statics := some 2 }

def pool13 : Array CpInfo := pool [(9, u "<init>"), (6, .class_ 18), (1, u "java/lang/Object"), (0, u "()V"), (1, .class_ 23), (1, u "jdk/internal/util/ArraysSupport"), (0, u "LOG2_ARRAY_LONG_INDEX_SCALE"), (0, u "I"), (2, u "U"), (0, u "Ljdk/internal/misc/Unsafe;"), (8, u "BIG_ENDIAN"), (0, u "Z"), (8, u "LOG2_BYTE_BIT_SIZE"), (4, u "LOG2_ARRAY_INT_INDEX_SCALE"), (54, u "JLA"), (0, u "Ljdk/internal/access/JavaLangAccess;"), (11, u "LOG2_ARRAY_BOOLEAN_INDEX_SCALE"), (9, u "LOG2_ARRAY_BYTE_INDEX_SCALE"), (5, u "LOG2_ARRAY_CHAR_INDEX_SCALE"), (5, u "LOG2_ARRAY_SHORT_INDEX_SCALE"), (18, u "LOG2_ARRAY_FLOAT_INDEX_SCALE"), (24, u "LOG2_ARRAY_DOUBLE_INDEX_SCALE"), (89, u "T_BOOLEAN"), (2, u "T_CHAR"), (1, u "T_FLOAT"), (1, u "T_DOUBLE"), (1, u "T_BYTE"), (1, u "T_SHORT"), (1, u "T_INT"), (1, u "T_LONG"), (1, u "SOFT_MAX_ARRAY_LENGTH")] 83

def k13m0 : Method := { name := "<init>", desc := "()V", sig := { parameters := [], returnType := none }, accessFlags := 2, code := none }
/-- jdk/internal/util/ArraysSupport -/
def k13 : Class := { plain "jdk/internal/util/ArraysSupport" (some 0) with
  accessFlags := 33
  interfaces := #[]
  cf := some (fileOf pool13 21 #[] #[{ accessFlags := 2, nameIndex := 9, descriptorIndex := 19, attributes := #[] }] 33 16 #[] #[{ accessFlags := 24, nameIndex := 28, descriptorIndex := 29, attributes := #[] }, { accessFlags := 26, nameIndex := 38, descriptorIndex := 39, attributes := #[] }, { accessFlags := 25, nameIndex := 121, descriptorIndex := 25, attributes := #[] }, { accessFlags := 25, nameIndex := 131, descriptorIndex := 25, attributes := #[] }, { accessFlags := 25, nameIndex := 137, descriptorIndex := 25, attributes := #[] }, { accessFlags := 25, nameIndex := 143, descriptorIndex := 25, attributes := #[] }, { accessFlags := 25, nameIndex := 53, descriptorIndex := 25, attributes := #[] }, { accessFlags := 25, nameIndex := 24, descriptorIndex := 25, attributes := #[] }, { accessFlags := 25, nameIndex := 162, descriptorIndex := 25, attributes := #[] }, { accessFlags := 25, nameIndex := 187, descriptorIndex := 25, attributes := #[] }, { accessFlags := 26, nameIndex := 48, descriptorIndex := 25, attributes := #[] }, { accessFlags := 25, nameIndex := 277, descriptorIndex := 25, attributes := #[] }, { accessFlags := 25, nameIndex := 280, descriptorIndex := 25, attributes := #[] }, { accessFlags := 25, nameIndex := 282, descriptorIndex := 25, attributes := #[] }, { accessFlags := 25, nameIndex := 284, descriptorIndex := 25, attributes := #[] }, { accessFlags := 25, nameIndex := 286, descriptorIndex := 25, attributes := #[] }, { accessFlags := 25, nameIndex := 288, descriptorIndex := 25, attributes := #[] }, { accessFlags := 25, nameIndex := 290, descriptorIndex := 25, attributes := #[] }, { accessFlags := 25, nameIndex := 292, descriptorIndex := 25, attributes := #[] }, { accessFlags := 26, nameIndex := 108, descriptorIndex := 109, attributes := #[] }, { accessFlags := 25, nameIndex := 294, descriptorIndex := 25, attributes := #[] }])
  fields := #[{ name := "U", type := (.object "jdk/internal/misc/Unsafe"), accessFlags := 24, slot := 0, constantValue := 0 }, { name := "BIG_ENDIAN", type := .boolean, accessFlags := 26, slot := 1, constantValue := 0 }, { name := "LOG2_ARRAY_BOOLEAN_INDEX_SCALE", type := .int, accessFlags := 25, slot := 2, constantValue := 0 }, { name := "LOG2_ARRAY_BYTE_INDEX_SCALE", type := .int, accessFlags := 25, slot := 3, constantValue := 0 }, { name := "LOG2_ARRAY_CHAR_INDEX_SCALE", type := .int, accessFlags := 25, slot := 4, constantValue := 0 }, { name := "LOG2_ARRAY_SHORT_INDEX_SCALE", type := .int, accessFlags := 25, slot := 5, constantValue := 0 }, { name := "LOG2_ARRAY_INT_INDEX_SCALE", type := .int, accessFlags := 25, slot := 6, constantValue := 0 }, { name := "LOG2_ARRAY_LONG_INDEX_SCALE", type := .int, accessFlags := 25, slot := 7, constantValue := 0 }, { name := "LOG2_ARRAY_FLOAT_INDEX_SCALE", type := .int, accessFlags := 25, slot := 8, constantValue := 0 }, { name := "LOG2_ARRAY_DOUBLE_INDEX_SCALE", type := .int, accessFlags := 25, slot := 9, constantValue := 0 }, { name := "LOG2_BYTE_BIT_SIZE", type := .int, accessFlags := 26, slot := 10, constantValue := 0 }, { name := "T_BOOLEAN", type := .int, accessFlags := 25, slot := 11, constantValue := 0 }, { name := "T_CHAR", type := .int, accessFlags := 25, slot := 12, constantValue := 0 }, { name := "T_FLOAT", type := .int, accessFlags := 25, slot := 13, constantValue := 0 }, { name := "T_DOUBLE", type := .int, accessFlags := 25, slot := 14, constantValue := 0 }, { name := "T_BYTE", type := .int, accessFlags := 25, slot := 15, constantValue := 0 }, { name := "T_SHORT", type := .int, accessFlags := 25, slot := 16, constantValue := 0 }, { name := "T_INT", type := .int, accessFlags := 25, slot := 17, constantValue := 0 }, { name := "T_LONG", type := .int, accessFlags := 25, slot := 18, constantValue := 0 }, { name := "JLA", type := (.object "jdk/internal/access/JavaLangAccess"), accessFlags := 26, slot := 19, constantValue := 0 }, { name := "SOFT_MAX_ARRAY_LENGTH", type := .int, accessFlags := 25, slot := 20, constantValue := 0 }]
  methods := #[k13m0]
  instanceTypes := #[]
  staticTypes := #[(.object "jdk/internal/misc/Unsafe"), .boolean, .int, .int, .int, .int, .int, .int, .int, .int, .int, .int, .int, .int, .int, .int, .int, .int, .int, (.object "jdk/internal/access/JavaLangAccess"), .int]
  resolved := Array.replicate 378 none
  statics := none }

def pool14 : Array CpInfo := pool [(1, u "java/lang/Cloneable"), (0, .class_ 1), (0, u "java/lang/Object"), (0, .class_ 3)] 3

/-- java/lang/Cloneable -/
def k14 : Class := { plain "java/lang/Cloneable" (some 0) with
  accessFlags := 1537
  interfaces := #[]
  cf := some (fileOf pool14 2 #[] #[] 1537 4 #[] #[])
  fields := #[]
  methods := #[]
  instanceTypes := #[]
  staticTypes := #[]
  resolved := Array.replicate 8 none
  statics := none }

/-- the primitive byte -/
def k15 : Class := { plain "byte" none with kind := .primitive 'B', accessFlags := 0x411 }
/-- [B -/
def k16 : Class := { plain "[B" (some 0) with kind := .array 15 .byte, interfaces := #[14, 3], accessFlags := 1041 }

/-- the primitive char -/
def k17 : Class := { plain "char" none with kind := .primitive 'C', accessFlags := 0x411 }
/-- [C -/
def k18 : Class := { plain "[C" (some 0) with kind := .array 17 .char, interfaces := #[14, 3], accessFlags := 1041 }

/-- the primitive int -/
def k19 : Class := { plain "int" none with kind := .primitive 'I', accessFlags := 0x411 }
/-- [I -/
def k20 : Class := { plain "[I" (some 0) with kind := .array 19 .int, interfaces := #[14, 3], accessFlags := 1041 }

def heap : Heap := #[{ cls := 8, slots := #[.long 0, .int 1, .null, .int 0, .null, .int 0, .int 0], vm := .statics 8 },
  { cls := 10, slots := #[.null, .null, .null], vm := .statics 10 },
  { cls := 12, slots := #[.ref 3, .ref 4, .null, .long 0], vm := .statics 12 },
  { cls := 12, slots := #[.int 1], vm := .none },
  { cls := 12, slots := #[.int 0], vm := .none }]
def classes : Array Class := #[k0, k1, k2, k3, k4, k5, k6, k7, k8, k9, k10, k11, k12, k13, k14, k15, k16, k17, k18, k19, k20]
def interned : List (Array UInt16 × Addr) := []
def slotsUsed : Nat := 16
def theMethod : MethodId := ⟨1, 2⟩
def args0 : Array Value := #[.int 5, .int 7, .int 7, .long 7]
def aboutOver (below : List Frame) : State where
  vm := { classes := classes, interned := interned.toArray }
  heap := heap
  slotsUsed := slotsUsed
  threads := #[{ frames := .invoking theMethod args0 :: below }]
def below0 : List Frame := [.native { method := ⟨0, 0⟩, args := #[] }]
def about1 : State := aboutOver below0
def p0 : Program := .bare "" "" ""
def e0 : Env := launch0.env 0 0 0
theorem w_frames : about1.frames = Frame.invoking theMethod args0 :: below0 := rfl
set_option maxRecDepth 65536 in
theorem w_args : argsFit about1.vm theMethod args0 = true := by decide +kernel
set_option maxRecDepth 65536 in
theorem w_heap : heapFits about1 = true := by decide +kernel
set_option maxRecDepth 65536 in
theorem w_runnable : about1.curStatus? = some .runnable := by decide +kernel
set_option maxRecDepth 65536 in
theorem w_alone : about1.alone = true := by decide +kernel
set_option maxRecDepth 65536 in
theorem w_named : about1.methodNamed? x = some theMethod := by decide +kernel
set_option maxRecDepth 65536 in
theorem w_hears : about1.hears theMethod below0 = true := by decide +kernel
set_option maxRecDepth 65536 in
theorem w_ripe : about1.ripe theMethod args0 below0 = true := by decide +kernel
theorem w_running : about1.status = .running := rfl
set_option maxRecDepth 65536 in
theorem w_room : about1.hasRoom e0.platform room_1 = true :=
  launch0.hasRoom_least _ room_1 (by decide +kernel) (by decide +kernel) (by decide +kernel) (by decide +kernel) (by decide +kernel) (by decide +kernel)
theorem allAtoms_all (ts : List Jvm.Cond) (a : Array Jvm.Value) (st : Jvm.State) : (allAtoms ts).before a st = ts.all (fun c => c.before a st) := by
  induction ts with
  | nil => rfl
  | cons c t ih =>
    show (Jvm.Cond.and c (allAtoms t)).before a st = _
    rw [Jvm.Cond.before_and, ih, List.all_cons]
def words1 : List Jvm.Cond := Jvm.Cond.code x code maxLocals ret :: tables_1
/-- a 'code' word, met by the world's own term for the bytes: nothing is compared byte by byte -/
theorem code_word {y : MethodName} {bytes : ByteArray} {mx : Nat} {rt : Option FieldType} {a : Array Value} {s : State} {m : MethodId} {meth : Method} {c : Code} (h1 : s.methodNamed? y = some m) (h2 : s.vm.method? m = some meth) (h3 : meth.code = some c) (h4 : c.code = bytes)
    (h5 : (c.maxLocals == mx && c.exceptionTable.isEmpty && decide (c.maxStack ≤ mostOperands) && decide (meth.sig.returnType = rt) && !meth.locks && decide (parseMethodDescriptor y.desc = some meth.sig)) = true) : (Jvm.Cond.code y bytes mx rt).before a s = true := by
  simp only [Bool.and_eq_true, beq_iff_eq, Bool.not_eq_true', decide_eq_true_eq] at h5
  obtain ⟨⟨⟨⟨⟨g1, g2⟩, g3⟩, g4⟩, g5⟩, g6⟩ := h5
  simp [Cond.before, Cond.holds, Cond.value, h1, h2, h3, h4, g1, g2, g3, g4, g5, g6]
def isCode : Jvm.Cond → Bool
  | .code _ _ _ _ => true
  | _ => false
theorem all_split {L : List Jvm.Cond} {P : Jvm.Cond → Bool} (h1 : L.all (fun c => isCode c || P c) = true) (h2 : ∀ c ∈ L.filter isCode, P c = true) : L.all P = true := by
  refine List.all_eq_true.mpr fun c hc => ?_
  have h := List.all_eq_true.mp h1 c hc
  rcases Bool.eq_false_or_eq_true (isCode c) with hi | hi
  · exact h2 c (List.mem_filter.mpr ⟨hc, hi⟩)
  · simpa [hi] using h
set_option maxRecDepth 65536 in
theorem w_c0 : (Jvm.Cond.code x code maxLocals ret).before args0 about1 = true := code_word (m := ⟨1, 2⟩) (meth := k1m2) (c := k1c2) (by decide +kernel) rfl rfl rfl (by decide +kernel)
set_option maxRecDepth 65536 in
theorem w_c1 : (Jvm.Cond.code ({ cls := "com/example/purlin/purlin/util/TextValues", name := "bool", desc := "(Ljava/lang/String;)Ljava/lang/Boolean;" } : Jvm.MethodName) prog_90_method_7_code (2 : Nat) (Option.some (Jvm.ClassFile.FieldType.object "java/lang/Boolean"))).before args0 about1 = true := code_word (m := ⟨2, 1⟩) (meth := k2m1) (c := k2c1) (by decide +kernel) rfl rfl rfl (by decide +kernel)
set_option maxRecDepth 65536 in
theorem w_c2 : (Jvm.Cond.code ({ cls := "java/lang/String", name := "equals", desc := "(Ljava/lang/Object;)Z" } : Jvm.MethodName) jdk_42_method_66_code (3 : Nat) (Option.some Jvm.ClassFile.FieldType.boolean)).before args0 about1 = true := code_word (m := ⟨8, 4⟩) (meth := k8m4) (c := k8c4) (by decide +kernel) rfl rfl rfl (by decide +kernel)
set_option maxRecDepth 65536 in
theorem w_c3 : (Jvm.Cond.code ({ cls := "java/lang/String", name := "length", desc := "()I" } : Jvm.MethodName) jdk_42_method_54_code (1 : Nat) (Option.some Jvm.ClassFile.FieldType.int)).before args0 about1 = true := code_word (m := ⟨8, 2⟩) (meth := k8m2) (c := k8c2) (by decide +kernel) rfl rfl rfl (by decide +kernel)
set_option maxRecDepth 65536 in
theorem w_c4 : (Jvm.Cond.code ({ cls := "java/lang/String", name := "coder", desc := "()B" } : Jvm.MethodName) jdk_42_method_152_code (1 : Nat) (Option.some Jvm.ClassFile.FieldType.byte)).before args0 about1 = true := code_word (m := ⟨8, 6⟩) (meth := k8m6) (c := k8c6) (by decide +kernel) rfl rfl rfl (by decide +kernel)
set_option maxRecDepth 65536 in
theorem w_c5 : (Jvm.Cond.code ({ cls := "java/lang/String", name := "charAt", desc := "(I)C" } : Jvm.MethodName) jdk_42_method_56_code (2 : Nat) (Option.some Jvm.ClassFile.FieldType.char)).before args0 about1 = true := code_word (m := ⟨8, 3⟩) (meth := k8m3) (c := k8c3) (by decide +kernel) rfl rfl rfl (by decide +kernel)
set_option maxRecDepth 65536 in
theorem w_c6 : (Jvm.Cond.code ({ cls := "java/lang/String", name := "isLatin1", desc := "()Z" } : Jvm.MethodName) jdk_42_method_154_code (1 : Nat) (Option.some Jvm.ClassFile.FieldType.boolean)).before args0 about1 = true := code_word (m := ⟨8, 7⟩) (meth := k8m7) (c := k8c7) (by decide +kernel) rfl rfl rfl (by decide +kernel)
set_option maxRecDepth 65536 in
theorem w_c7 : (Jvm.Cond.code ({ cls := "java/lang/StringLatin1", name := "charAt", desc := "([BI)C" } : Jvm.MethodName) jdk_43_method_2_code (2 : Nat) (Option.some Jvm.ClassFile.FieldType.char)).before args0 about1 = true := code_word (m := ⟨9, 1⟩) (meth := k9m1) (c := k9c1) (by decide +kernel) rfl rfl rfl (by decide +kernel)
set_option maxRecDepth 65536 in
theorem w_c8 : (Jvm.Cond.code ({ cls := "java/lang/String", name := "checkIndex", desc := "(II)V" } : Jvm.MethodName) jdk_42_method_155_code (2 : Nat) (Option.none : Option Jvm.ClassFile.FieldType)).before args0 about1 = true := code_word (m := ⟨8, 8⟩) (meth := k8m8) (c := k8c8) (by decide +kernel) rfl rfl rfl (by decide +kernel)
set_option maxRecDepth 65536 in
theorem w_c9 : (Jvm.Cond.code ({ cls := "jdk/internal/util/Preconditions", name := "checkIndex", desc := "(IILjava/util/function/BiFunction;)I" } : Jvm.MethodName) jdk_41_method_11_code (3 : Nat) (Option.some Jvm.ClassFile.FieldType.int)).before args0 about1 = true := code_word (m := ⟨10, 1⟩) (meth := k10m1) (c := k10c1) (by decide +kernel) rfl rfl rfl (by decide +kernel)
set_option maxRecDepth 65536 in
theorem w_c10 : (Jvm.Cond.code ({ cls := "com/example/purlin/purlin/util/TextValuesBoolPinLaw", name := "make", desc := "([CI)Ljava/lang/String;" } : Jvm.MethodName) method_2_code (2 : Nat) (Option.some (Jvm.ClassFile.FieldType.object "java/lang/String"))).before args0 about1 = true := code_word (m := ⟨1, 1⟩) (meth := k1m1) (c := k1c1) (by decide +kernel) rfl rfl rfl (by decide +kernel)
set_option maxRecDepth 65536 in
theorem w_c11 : (Jvm.Cond.code ({ cls := "java/lang/String", name := "<init>", desc := "([C)V" } : Jvm.MethodName) jdk_42_method_3_code (2 : Nat) (Option.none : Option Jvm.ClassFile.FieldType)).before args0 about1 = true := code_word (m := ⟨8, 1⟩) (meth := k8m1) (c := k8c1) (by decide +kernel) rfl rfl rfl (by decide +kernel)
set_option maxRecDepth 65536 in
theorem w_c12 : (Jvm.Cond.code ({ cls := "java/lang/String", name := "<init>", desc := "([CIILjava/lang/Void;)V" } : Jvm.MethodName) jdk_42_method_149_code (6 : Nat) (Option.none : Option Jvm.ClassFile.FieldType)).before args0 about1 = true := code_word (m := ⟨8, 5⟩) (meth := k8m5) (c := k8c5) (by decide +kernel) rfl rfl rfl (by decide +kernel)
set_option maxRecDepth 65536 in
theorem w_c13 : (Jvm.Cond.code ({ cls := "java/lang/Object", name := "<init>", desc := "()V" } : Jvm.MethodName) object_method_1_code (1 : Nat) (Option.none : Option Jvm.ClassFile.FieldType)).before args0 about1 = true := code_word (m := ⟨0, 0⟩) (meth := k0m0) (c := k0c0) (by decide +kernel) rfl rfl rfl (by decide +kernel)
set_option maxRecDepth 65536 in
theorem w_c14 : (Jvm.Cond.code ({ cls := "java/lang/StringUTF16", name := "compress", desc := "([CII)[B" } : Jvm.MethodName) jdk_52_method_16_code (6 : Nat) (Option.some (Jvm.ClassFile.FieldType.array Jvm.ClassFile.FieldType.byte))).before args0 about1 = true := code_word (m := ⟨11, 2⟩) (meth := k11m2) (c := k11c2) (by decide +kernel) rfl rfl rfl (by decide +kernel)
set_option maxRecDepth 65536 in
theorem w_c15 : (Jvm.Cond.code ({ cls := "java/lang/StringUTF16", name := "compress", desc := "([CI[BII)I" } : Jvm.MethodName) jdk_52_method_21_code (7 : Nat) (Option.some Jvm.ClassFile.FieldType.int)).before args0 about1 = true := code_word (m := ⟨11, 3⟩) (meth := k11m3) (c := k11c3) (by decide +kernel) rfl rfl rfl (by decide +kernel)
set_option maxRecDepth 65536 in
theorem w_c16 : (Jvm.Cond.code ({ cls := "java/lang/StringUTF16", name := "coderFromArrayLen", desc := "([BI)B" } : Jvm.MethodName) jdk_52_method_15_code (2 : Nat) (Option.some Jvm.ClassFile.FieldType.byte)).before args0 about1 = true := code_word (m := ⟨11, 1⟩) (meth := k11m1) (c := k11c1) (by decide +kernel) rfl rfl rfl (by decide +kernel)
set_option maxRecDepth 65536 in
theorem w_c17 : (Jvm.Cond.code ({ cls := "java/lang/StringLatin1", name := "equals", desc := "([B[B)Z" } : Jvm.MethodName) jdk_43_method_13_code (3 : Nat) (Option.some Jvm.ClassFile.FieldType.boolean)).before args0 about1 = true := code_word (m := ⟨9, 2⟩) (meth := k9m2) (c := k9c2) (by decide +kernel) rfl rfl rfl (by decide +kernel)
set_option maxRecDepth 65536 in
theorem w_c18 : (Jvm.Cond.code ({ cls := "java/lang/Boolean", name := "booleanValue", desc := "()Z" } : Jvm.MethodName) jdk_2055_method_4_code (1 : Nat) (Option.some Jvm.ClassFile.FieldType.boolean)).before args0 about1 = true := code_word (m := ⟨12, 0⟩) (meth := k12m0) (c := k12c0) (by decide +kernel) rfl rfl rfl (by decide +kernel)
def codes1 : List Jvm.Cond := [Jvm.Cond.code x code maxLocals ret, Jvm.Cond.code ({ cls := "com/example/purlin/purlin/util/TextValues", name := "bool", desc := "(Ljava/lang/String;)Ljava/lang/Boolean;" } : Jvm.MethodName) prog_90_method_7_code (2 : Nat) (Option.some (Jvm.ClassFile.FieldType.object "java/lang/Boolean")), Jvm.Cond.code ({ cls := "java/lang/String", name := "equals", desc := "(Ljava/lang/Object;)Z" } : Jvm.MethodName) jdk_42_method_66_code (3 : Nat) (Option.some Jvm.ClassFile.FieldType.boolean), Jvm.Cond.code ({ cls := "java/lang/String", name := "length", desc := "()I" } : Jvm.MethodName) jdk_42_method_54_code (1 : Nat) (Option.some Jvm.ClassFile.FieldType.int), Jvm.Cond.code ({ cls := "java/lang/String", name := "coder", desc := "()B" } : Jvm.MethodName) jdk_42_method_152_code (1 : Nat) (Option.some Jvm.ClassFile.FieldType.byte), Jvm.Cond.code ({ cls := "java/lang/String", name := "charAt", desc := "(I)C" } : Jvm.MethodName) jdk_42_method_56_code (2 : Nat) (Option.some Jvm.ClassFile.FieldType.char), Jvm.Cond.code ({ cls := "java/lang/String", name := "isLatin1", desc := "()Z" } : Jvm.MethodName) jdk_42_method_154_code (1 : Nat) (Option.some Jvm.ClassFile.FieldType.boolean), Jvm.Cond.code ({ cls := "java/lang/StringLatin1", name := "charAt", desc := "([BI)C" } : Jvm.MethodName) jdk_43_method_2_code (2 : Nat) (Option.some Jvm.ClassFile.FieldType.char), Jvm.Cond.code ({ cls := "java/lang/String", name := "checkIndex", desc := "(II)V" } : Jvm.MethodName) jdk_42_method_155_code (2 : Nat) (Option.none : Option Jvm.ClassFile.FieldType), Jvm.Cond.code ({ cls := "jdk/internal/util/Preconditions", name := "checkIndex", desc := "(IILjava/util/function/BiFunction;)I" } : Jvm.MethodName) jdk_41_method_11_code (3 : Nat) (Option.some Jvm.ClassFile.FieldType.int), Jvm.Cond.code ({ cls := "com/example/purlin/purlin/util/TextValuesBoolPinLaw", name := "make", desc := "([CI)Ljava/lang/String;" } : Jvm.MethodName) method_2_code (2 : Nat) (Option.some (Jvm.ClassFile.FieldType.object "java/lang/String")), Jvm.Cond.code ({ cls := "java/lang/String", name := "<init>", desc := "([C)V" } : Jvm.MethodName) jdk_42_method_3_code (2 : Nat) (Option.none : Option Jvm.ClassFile.FieldType), Jvm.Cond.code ({ cls := "java/lang/String", name := "<init>", desc := "([CIILjava/lang/Void;)V" } : Jvm.MethodName) jdk_42_method_149_code (6 : Nat) (Option.none : Option Jvm.ClassFile.FieldType), Jvm.Cond.code ({ cls := "java/lang/Object", name := "<init>", desc := "()V" } : Jvm.MethodName) object_method_1_code (1 : Nat) (Option.none : Option Jvm.ClassFile.FieldType), Jvm.Cond.code ({ cls := "java/lang/StringUTF16", name := "compress", desc := "([CII)[B" } : Jvm.MethodName) jdk_52_method_16_code (6 : Nat) (Option.some (Jvm.ClassFile.FieldType.array Jvm.ClassFile.FieldType.byte)), Jvm.Cond.code ({ cls := "java/lang/StringUTF16", name := "compress", desc := "([CI[BII)I" } : Jvm.MethodName) jdk_52_method_21_code (7 : Nat) (Option.some Jvm.ClassFile.FieldType.int), Jvm.Cond.code ({ cls := "java/lang/StringUTF16", name := "coderFromArrayLen", desc := "([BI)B" } : Jvm.MethodName) jdk_52_method_15_code (2 : Nat) (Option.some Jvm.ClassFile.FieldType.byte), Jvm.Cond.code ({ cls := "java/lang/StringLatin1", name := "equals", desc := "([B[B)Z" } : Jvm.MethodName) jdk_43_method_13_code (3 : Nat) (Option.some Jvm.ClassFile.FieldType.boolean), Jvm.Cond.code ({ cls := "java/lang/Boolean", name := "booleanValue", desc := "()Z" } : Jvm.MethodName) jdk_2055_method_4_code (1 : Nat) (Option.some Jvm.ClassFile.FieldType.boolean)]
set_option maxRecDepth 65536 in
theorem codes_eq : words1.filter isCode = codes1 := rfl
theorem w_codes : ∀ c ∈ words1.filter isCode, c.before args0 about1 = true := by
  rw [codes_eq]
  intro c hc
  simp only [codes1, List.mem_cons, List.not_mem_nil, or_false] at hc
  rcases hc with rfl | rfl | rfl | rfl | rfl | rfl | rfl | rfl | rfl | rfl | rfl | rfl | rfl | rfl | rfl | rfl | rfl | rfl | rfl
  · exact w_c0
  · exact w_c1
  · exact w_c2
  · exact w_c3
  · exact w_c4
  · exact w_c5
  · exact w_c6
  · exact w_c7
  · exact w_c8
  · exact w_c9
  · exact w_c10
  · exact w_c11
  · exact w_c12
  · exact w_c13
  · exact w_c14
  · exact w_c15
  · exact w_c16
  · exact w_c17
  · exact w_c18
set_option maxRecDepth 65536 in
theorem w_t1 : (words1.take 24).all (fun c => isCode c || c.before args0 about1) = true := by decide +kernel
set_option maxRecDepth 65536 in
theorem w_t2 : ((words1.drop 24).take 24).all (fun c => isCode c || c.before args0 about1) = true := by decide +kernel
set_option maxRecDepth 65536 in
theorem w_t3 : (((words1.drop 24).drop 24).take 24).all (fun c => isCode c || c.before args0 about1) = true := by decide +kernel
set_option maxRecDepth 65536 in
theorem w_t4 : ((((words1.drop 24).drop 24).drop 24).take 24).all (fun c => isCode c || c.before args0 about1) = true := by decide +kernel
set_option maxRecDepth 65536 in
theorem w_t5 : ((((words1.drop 24).drop 24).drop 24).drop 24).all (fun c => isCode c || c.before args0 about1) = true := by decide +kernel
theorem w_tables : (allAtoms (Jvm.Cond.code x code maxLocals ret :: tables_1)).before args0 about1 = true := by
  rw [allAtoms_all]
  show words1.all (fun c => c.before args0 about1) = true
  refine all_split ?_ w_codes
  rw [← List.take_append_drop 24 words1, List.all_append, w_t1, ← List.take_append_drop 24 (words1.drop 24), List.all_append, w_t2, ← List.take_append_drop 24 ((words1.drop 24).drop 24), List.all_append, w_t3, ← List.take_append_drop 24 (((words1.drop 24).drop 24).drop 24), List.all_append, w_t4, w_t5]
  rfl
set_option maxRecDepth 65536 in
theorem w_rest : rest_1_c.before args0 about1 = true := by decide +kernel
set_option maxRecDepth 65536 in
theorem w_case : (Jvm.Cond.and given_1 narrow_1).before args0 about1 = true := by decide +kernel
set_option maxRecDepth 65536 in
theorem w_consts : constsHeld consts_1 about1 := Jvm.Lit.constsHeldB_iff.mp (by decide +kernel)
theorem w_applies : (headSpec (Jvm.Cond.code x code maxLocals ret :: tables_1) room_1).applies x e0.platform about1 = true :=
  (Spec.applies_iff w_frames).mpr ⟨w_running, w_runnable, w_alone, w_named, w_hears, w_ripe, w_room, w_tables⟩
theorem atStart : AtStart classFile x code maxLocals ret World_1 tables_1 room_1 Calls_1 rest_1 Pre_1 launch0 p0 e0 about1 theMethod args0 below0 :=
  ⟨lists_1, trivial, launch0.admits_env _ _ _, launch0.least_env, fairChoices_fair.cas, fairChoices_fair.clock, w_frames, w_args, w_heap, w_applies, ⟨w_consts, trivial⟩, w_rest, w_case⟩
end start1
theorem witness_1 : WitnessClaimed_1 := ⟨start1.p0, start1.e0, start1.about1, start1.theMethod, start1.args0, start1.below0, start1.atStart⟩
end Jvm.Pilot.@@N@@
