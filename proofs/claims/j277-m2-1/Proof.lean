import JvmDerived
import JvmDerived.Pilot.@@N@@Statement
import JvmDerived.Pilot.@@N@@Code
set_option linter.unusedVariables false
set_option linter.unusedSimpArgs false
/-! The walk's calculus (own text): W says: from any state that stands in this method with heap h (k cells, n slots made, the addresses in M still to be written), the frame (pc, L, S) runs to a good end. -/
namespace Jvm.Pilot.@@N@@.Wk
open Jvm Jvm.ClassFile Sem Op Lib Jvm.Free Jvm.Stand Jvm.LawKit Jvm.RoadKit Bundle Jvm.Free.SB Jvm.Free.SBG
/-! ### the intern table's texts, apart from what is still written -/
def SlM (M : List Addr) (U : State) (a : Addr) (units : Array UInt16) : Prop :=
  ∃ (q : SQ) (cS : ClassId), q.sa = a ∧ Sl q cS U ∧ (∃ kS : Class, U.vm.classes[cS]? = some kS ∧ kS.kind = .ordinary ∧ q.sC.slots.size = kS.instanceTypes.size) ∧ U.vm.findClass "[B" = some q.SA.cls ∧ q.SA.slots = stringBytes units ∧ q.sa ∉ M ∧ q.sd ∉ M
theorem SlM.mono {M M' : List Addr} {U : State} {a : Addr} {u : Array UInt16} (h : SlM M U a u) (hM : ∀ b ∈ M', b ∈ M ∨ U.heap.size ≤ b) : SlM M' U a u := by
  obtain ⟨q, cS, h1, h2, h3, h4, h5, h6, h7⟩ := h
  have l1 := (Array.getElem?_eq_some_iff.mp h2.1.1).1
  have l2 := (Array.getElem?_eq_some_iff.mp h2.1.2.2.2.2.2.2.2.2.2.1).1
  exact ⟨q, cS, h1, h2, h3, h4, h5, fun r => (hM _ r).elim h6 fun z => absurd l1 (Nat.not_lt.mpr z), fun r => (hM _ r).elim h7 fun z => absurd l2 (Nat.not_lt.mpr z)⟩
theorem SlM.move {M : List Addr} {U U' : State} {a : Addr} {u : Array UInt16} (h : SlM M U a u) (hal : U.vm.Alike U'.vm) (hk : ∀ (b : Addr) (c : Cell), U.heap[b]? = some c → b ∉ M → U'.heap[b]? = some c) : SlM M U' a u := by
  obtain ⟨q, cS, h1, h2, ⟨kS, k1, k2, k3⟩, h4, h5, h6, h7⟩ := h
  obtain ⟨kS', hk', ek⟩ := hal.2.2 _ _ k1
  exact ⟨q, cS, h1, h2.carry hal (hk _ _ h2.1.1 h6) (hk _ _ h2.1.2.2.2.2.2.2.2.2.2.1 h7), ⟨kS', hk', by rw [ek]; exact k2, by rw [ek]; exact k3⟩, by rw [hal.findClass]; exact h4, h5, h6, h7⟩
def IOk (Z : State) (M : List Addr) (U : State) : Prop := ∀ (units : Array UInt16) (a : Addr), units.all (· < 256) = true → U.vm.interned.find? (fun p => p.1 == units) = some (units, a) → Z.vm.interned.find? (fun p => p.1 == units) = some (units, a) ∨ SlM M U a units
/-- what every method finds and leaves: the tables warmed, the texts sound, the first heap as it was -/
def Bg (Z : State) (M : List Addr) (U : State) : Prop := Z.Warmed39 U.vm ∧ IOk Z M U ∧ Ext Z.heap U.heap ∧ (∀ b ∈ M, Z.heap.size ≤ b) ∧ ∀ b ∈ M, b < U.heap.size
def Kept (M : List Addr) (h h' : Heap) : Prop := h.size ≤ h'.size ∧ ∀ (b : Addr) (c : Cell), h[b]? = some c → b ∉ M → h'[b]? = some c
theorem Kept.refl (M : List Addr) (h : Heap) : Kept M h h := ⟨Nat.le_refl _, fun _ _ q _ => q⟩
theorem Kept.ext {M : List Addr} {h h' : Heap} (E : Ext h h') : Kept M h h' := ⟨E.1, fun b c q _ => E.2 b c q⟩
theorem Kept.keep {M ws : List Addr} {h h' : Heap} (K : Keep h h' ws) (hw : ∀ w ∈ ws, w ∈ M) : Kept M h h' := ⟨K.1, fun b c q r => K.2.1 b c q fun z => r (hw b z)⟩
theorem Kept.wr {M : List Addr} {h h' : Heap} {a : Addr} {sl : Nat} {v : Value} (W : Wr h h' a sl v) (ha : a ∈ M) : Kept M h h' := Kept.keep (Keep.of_wr W) (fun w hw => by cases List.mem_singleton.mp hw; exact ha)
theorem Bg.move {Z : State} {M : List Addr} {U U' : State} (b : Bg Z M U) (hW : Z.Warmed39 U'.vm) (hi : U'.vm.interned = U.vm.interned) (hk : Kept M U.heap U'.heap) : Bg Z M U' := by
  obtain ⟨b1, b2, b3, b4, b5⟩ := b
  have hal : U.vm.Alike U'.vm := b1.alike.symm.trans hW.alike
  refine ⟨hW, fun units a hl hf => ?_, ⟨Nat.le_trans b3.1 hk.1, fun x c q => hk.2 x c (b3.2 x c q) fun z => absurd (Array.getElem?_eq_some_iff.mp q).1 (Nat.not_lt.mpr (b4 x z))⟩, b4, fun x z => Nat.lt_of_lt_of_le (b5 x z) hk.1⟩
  rw [hi] at hf
  exact (b2 units a hl hf).imp id fun s => s.move hal hk.2
theorem Bg.shrink {Z : State} {M M' : List Addr} {U : State} (b : Bg Z M U) (hM : ∀ x ∈ M', x ∈ M) : Bg Z M' U :=
  ⟨b.1, fun units a hl hf => (b.2.1 units a hl hf).imp id fun s => s.mono fun x hx => Or.inl (hM x hx), b.2.2.1, fun x hx => b.2.2.2.1 x (hM x hx), fun x hx => b.2.2.2.2 x (hM x hx)⟩
/-- a new address may be written: it was not there when b held -/
theorem Bg.grow {Z : State} {M M' : List Addr} {U U' : State} (b : Bg Z M U) (hW : Z.Warmed39 U'.vm) (hi : U'.vm.interned = U.vm.interned) (hk : Kept M U.heap U'.heap) (hM : ∀ x ∈ M', x ∈ M ∨ (U.heap.size ≤ x ∧ x < U'.heap.size)) : Bg Z M' U' := by
  obtain ⟨b1, b2, b3, b4, b5⟩ := b
  have hal : U.vm.Alike U'.vm := b1.alike.symm.trans hW.alike
  refine ⟨hW, fun units a hl hf => ?_, ⟨Nat.le_trans b3.1 hk.1, fun x c q => hk.2 x c (b3.2 x c q) fun z => absurd (Array.getElem?_eq_some_iff.mp q).1 (Nat.not_lt.mpr (b4 x z))⟩, fun x z => (hM x z).elim (b4 x) fun q => Nat.le_trans b3.1 q.1, fun x z => (hM x z).elim (fun q => Nat.lt_of_lt_of_le (b5 x q) hk.1) fun q => q.2⟩
  rw [hi] at hf
  refine (b2 units a hl hf).imp id fun s => ?_
  have s' : SlM M' U a units := s.mono fun x hx => (hM x hx).imp id fun q => q.1
  obtain ⟨q, cS, h1, h2, ⟨kS, k1, k2, k3⟩, h4, h5, h6, h7⟩ := s
  obtain ⟨kS', hk', ek⟩ := hal.2.2 _ _ k1
  have l1 := (Array.getElem?_eq_some_iff.mp h2.1.1).1
  have l2 := (Array.getElem?_eq_some_iff.mp h2.1.2.2.2.2.2.2.2.2.2.1).1
  exact ⟨q, cS, h1, h2.carry hal (hk.2 _ _ h2.1.1 h6) (hk.2 _ _ h2.1.2.2.2.2.2.2.2.2.2.1 h7), ⟨kS', hk', by rw [ek]; exact k2, by rw [ek]; exact k3⟩, by rw [hal.findClass]; exact h4, h5, fun r => (hM _ r).elim h6 fun z => absurd l1 (Nat.not_lt.mpr z.1), fun r => (hM _ r).elim h7 fun z => absurd l2 (Nat.not_lt.mpr z.1)⟩
/-! ### the context of a walk -/
abbrev Cx : Type _ := Program × Launch × Env × Room × State × MethodId × Array Value × List Frame × Method × Code × State × Bool × List Addr × List Addr × Bool × (Option Value → Heap → Prop)
abbrev Cx.p (B : Cx) : Program := B.1
abbrev Cx.l (B : Cx) : Launch := B.2.1
abbrev Cx.e (B : Cx) : Env := B.2.2.1
abbrev Cx.R (B : Cx) : Room := B.2.2.2.1
abbrev Cx.s (B : Cx) : State := B.2.2.2.2.1
abbrev Cx.m (B : Cx) : MethodId := B.2.2.2.2.2.1
abbrev Cx.args (B : Cx) : Array Value := B.2.2.2.2.2.2.1
abbrev Cx.below (B : Cx) : List Frame := B.2.2.2.2.2.2.2.1
abbrev Cx.meth (B : Cx) : Method := B.2.2.2.2.2.2.2.2.1
abbrev Cx.c (B : Cx) : Code := B.2.2.2.2.2.2.2.2.2.1
abbrev Cx.Z (B : Cx) : State := B.2.2.2.2.2.2.2.2.2.2.1
abbrev Cx.nar (B : Cx) : Bool := B.2.2.2.2.2.2.2.2.2.2.2.1
abbrev Cx.ws (B : Cx) : List Addr := B.2.2.2.2.2.2.2.2.2.2.2.2.1
abbrev Cx.Me (B : Cx) : List Addr := B.2.2.2.2.2.2.2.2.2.2.2.2.2.1
abbrev Cx.fr (B : Cx) : Bool := B.2.2.2.2.2.2.2.2.2.2.2.2.2.2.1
abbrev Cx.Q (B : Cx) : Option Value → Heap → Prop := B.2.2.2.2.2.2.2.2.2.2.2.2.2.2.2
def refs (fr : Bool) (v : Option Value) : List Addr := match fr, v with
  | true, some (.ref a) => [a]
  | _, _ => []
/-- cl.1: no cell that stood at the method's start has been written; cl.2: String entries that are resolved -/
abbrev Cl : Type := Bool × List (String × Nat)
def Pos (B : Cx) (T : State) (h : Heap) (k n : Nat) (M : List Addr) (cl : Cl) : Prop :=
  ∃ (vm0 : Vm) (k0 : Nat) (locs : List Loc), Stand B.p B.l B.e B.R (B.s.setVm vm0) B.m B.args B.below B.meth B.c T locs k n ∧ B.s.Since vm0 k0 ∧ k0 ≤ T.heap.size ∧ (B.nar = true → B.s.WarmedH vm0) ∧
    (∀ y ∈ locs, y.base ∈ B.ws ∨ B.s.heap.size ≤ y.base) ∧ (cl.1 = true → ∀ y ∈ locs, B.s.heap.size ≤ y.base) ∧ (∀ e ∈ cl.2, ∃ a, Lit (B.s.setVm vm0) e.1 e.2 a) ∧ T.heap = h ∧ Bg B.Z M T
def Gd (B : Cx) (U : State) : Prop :=
  ∃ t o, Steps B.p.tables B.e B.below U t ∧ t.status = .running ∧ Ended t B.below o ∧ ∃ v L, o = .returned v ∧ B.Q v t.heap ∧ Keep B.s.heap t.heap B.ws ∧ Bg B.Z (refs B.fr v ++ B.Me) t ∧ (∀ y ∈ L, y.base ∈ B.ws ∨ B.s.heap.size ≤ y.base) ∧ ReturnedEndW B.s o t L B.R.cells B.R.slots ∧ (B.nar = true → B.s.WarmedH t.vm)
theorem Gd.step {B : Cx} {U U' : State} (st : ∀ t, Steps B.p.tables B.e B.below U' t → Steps B.p.tables B.e B.below U t) (g : Gd B U') : Gd B U := by
  obtain ⟨t, o, q, r⟩ := g
  exact ⟨t, o, st t q, r⟩
def W (B : Cx) (h : Heap) (k n : Nat) (M : List Addr) (cl : Cl) (pc : Nat) (L : Array Slot) (S : List Value) : Prop := ∀ T, Pos B T h k n M cl → Gd B (T.setTop (mkF B.m pc L S))
def Ok (B : Cx) (l : Launch) (Z : State) (nar : Bool) (own nm : String) (code : ByteArray) (ml : Nat) (ret : Option FieldType) (R : Room) (h0 : Heap) (ws : List Addr) (fr : Bool) (Q : Option Value → Heap → Prop) (M : List Addr) : Prop :=
  B.p.tables.exec = Jvm.exec ∧ B.c.code = code ∧ B.c.maxLocals = ml ∧ B.s.vm.findClass own = some B.m.cls ∧ B.meth.name = nm ∧ B.meth.sig.returnType = ret ∧ B.meth.locks = false ∧ Z.Warmed39 B.s.vm ∧ B.l = l ∧ B.R = R ∧ B.Z = Z ∧ B.nar = nar ∧ B.ws = ws ∧ B.Me = M ∧ B.fr = fr ∧ B.Q = Q ∧ B.s.heap = h0
section Acc
variable {B : Cx} {l : Launch} {Z : State} {nar : Bool} {own nm : String} {code : ByteArray} {ml : Nat} {ret : Option FieldType} {R : Room} {h0 : Heap} {ws : List Addr} {fr : Bool} {Q : Option Value → Heap → Prop} {Me : List Addr}
theorem Ok.x (ok : Ok B l Z nar own nm code ml ret R h0 ws fr Q Me) : B.p.tables.exec = Jvm.exec := ok.1
theorem Ok.by_ (ok : Ok B l Z nar own nm code ml ret R h0 ws fr Q Me) : B.c.code = code := ok.2.1
theorem Ok.ml_ (ok : Ok B l Z nar own nm code ml ret R h0 ws fr Q Me) : B.c.maxLocals = ml := ok.2.2.1
theorem Ok.own_ (ok : Ok B l Z nar own nm code ml ret R h0 ws fr Q Me) : B.s.vm.findClass own = some B.m.cls := ok.2.2.2.1
theorem Ok.nm_ (ok : Ok B l Z nar own nm code ml ret R h0 ws fr Q Me) : B.meth.name = nm := ok.2.2.2.2.1
theorem Ok.ret_ (ok : Ok B l Z nar own nm code ml ret R h0 ws fr Q Me) : B.meth.sig.returnType = ret := ok.2.2.2.2.2.1
theorem Ok.lk (ok : Ok B l Z nar own nm code ml ret R h0 ws fr Q Me) : B.meth.locks = false := ok.2.2.2.2.2.2.1
theorem Ok.zs (ok : Ok B l Z nar own nm code ml ret R h0 ws fr Q Me) : Z.Warmed39 B.s.vm := ok.2.2.2.2.2.2.2.1
theorem Ok.l_ (ok : Ok B l Z nar own nm code ml ret R h0 ws fr Q Me) : B.l = l := ok.2.2.2.2.2.2.2.2.1
theorem Ok.R_ (ok : Ok B l Z nar own nm code ml ret R h0 ws fr Q Me) : B.R = R := ok.2.2.2.2.2.2.2.2.2.1
theorem Ok.Z_ (ok : Ok B l Z nar own nm code ml ret R h0 ws fr Q Me) : B.Z = Z := ok.2.2.2.2.2.2.2.2.2.2.1
theorem Ok.nar_ (ok : Ok B l Z nar own nm code ml ret R h0 ws fr Q Me) : B.nar = nar := ok.2.2.2.2.2.2.2.2.2.2.2.1
theorem Ok.ws_ (ok : Ok B l Z nar own nm code ml ret R h0 ws fr Q Me) : B.ws = ws := ok.2.2.2.2.2.2.2.2.2.2.2.2.1
theorem Ok.Me_ (ok : Ok B l Z nar own nm code ml ret R h0 ws fr Q Me) : B.Me = Me := ok.2.2.2.2.2.2.2.2.2.2.2.2.2.1
theorem Ok.fr_ (ok : Ok B l Z nar own nm code ml ret R h0 ws fr Q Me) : B.fr = fr := ok.2.2.2.2.2.2.2.2.2.2.2.2.2.2.1
theorem Ok.Q_ (ok : Ok B l Z nar own nm code ml ret R h0 ws fr Q Me) : B.Q = Q := ok.2.2.2.2.2.2.2.2.2.2.2.2.2.2.2.1
theorem Ok.h_ (ok : Ok B l Z nar own nm code ml ret R h0 ws fr Q Me) : B.s.heap = h0 := ok.2.2.2.2.2.2.2.2.2.2.2.2.2.2.2.2
theorem Ok.zv (ok : Ok B l Z nar own nm code ml ret R h0 ws fr Q Me) {vm0 : Vm} {k0 : Nat} (hS : B.s.Since vm0 k0) : Z.Warmed39 (B.s.setVm vm0).vm := State.Warmed39.trans (t := B.s) ok.zs hS.1
theorem Ok.ownv (ok : Ok B l Z nar own nm code ml ret R h0 ws fr Q Me) {vm0 : Vm} {k0 : Nat} (hS : B.s.Since vm0 k0) : (B.s.setVm vm0).vm.findClass own = some B.m.cls := (hS.1.alike.findClass _ _).trans ok.own_
end Acc
/-- behind a step that leaves the start's tables narrow-warm -/
theorem Bg.next {p : Program} {l : Launch} {e : Env} {R : Room} {s : State} {m : MethodId} {args : Array Value} {below : List Frame} {meth : Method} {c : Code} {T T' Z : State} {locs locs' : List Loc} {k n k' n' : Nat} {M : List Addr}
    (bg : Bg Z M T) (hZ : Z.Warmed39 s.vm) (X : Stand p l e R s m args below meth c T locs k n) (X' : Stand p l e R s m args below meth c T' locs' k' n') (hk : Kept M T.heap T'.heap) : Bg Z M T' :=
  bg.move (wtrans hZ X'.warmed) ((X'.warmed.interned_eq).trans X.warmed.interned_eq.symm) hk
theorem Bg.nextN {p : Program} {l : Launch} {e : Env} {R : Room} {s : State} {m : MethodId} {args : Array Value} {below : List Frame} {meth : Method} {c : Code} {T T' Z : State} {locs locs' : List Loc} {k n k' n' : Nat} {M M' : List Addr}
    (bg : Bg Z M T) (hZ : Z.Warmed39 s.vm) (X : Stand p l e R s m args below meth c T locs k n) (X' : Stand p l e R s m args below meth c T' locs' k' n') (hk : Kept M T.heap T'.heap) (hM : ∀ x ∈ M', x ∈ M ∨ (T.heap.size ≤ x ∧ x < T'.heap.size)) : Bg Z M' T' :=
  bg.grow (wtrans hZ X'.warmed) ((X'.warmed.interned_eq).trans X.warmed.interned_eq.symm) hk hM
end Jvm.Pilot.@@N@@.Wk
namespace Jvm.Pilot.@@N@@.Wk
open Jvm Jvm.ClassFile Sem Op Lib Jvm.Free Jvm.Stand Jvm.LawKit Jvm.RoadKit Bundle
section Pure
variable {B : Cx} {l : Launch} {Z : State} {nar : Bool} {own nm : String} {code : ByteArray} {ml : Nat} {ret : Option FieldType} {R : Room} {h0 : Heap} {ws : List Addr} {fr : Bool} {Q : Option Value → Heap → Prop} {Me : List Addr}
variable {h : Heap} {k n : Nat} {M : List Addr} {cl : Cl} {pc pc' : Nat} {L L' : Array Slot} {S S' : List Value}
/-- Java's (char) x -/
def c16 (x : Int32) : Int32 := x.toUInt32.toUInt16.toUInt32.toInt32
/-- Java's (byte) x -/
def b8 (x : Int32) : Int32 := x.toInt8.toInt32
theorem W.pure (st : ∀ (T target : State), At T B.m B.c B.below → Steps B.p.tables B.e B.below (T.setTop (mkF B.m pc' L' S')) target → Steps B.p.tables B.e B.below (T.setTop (mkF B.m pc L S)) target) (K : W B h k n M cl pc' L' S') : W B h k n M cl pc L S :=
  fun T P => Gd.step (fun t q => st T t (by obtain ⟨_, _, _, X, _⟩ := P; exact X.here) q) (K T P)
theorem W.aload (ok : Ok B l Z nar own nm code ml ret R h0 ws fr Q Me) {i : Nat} {v : Value} (hd : decode code pc = .ok (.aload i, 2)) (hp : pc + 2 = pc') (hl : L[i]? = some (.val v)) (hv : v.isRef = true) (K : W B h k n M cl pc' L (v :: S)) : W B h k n M cl pc L S := by
  subst hp; exact W.pure (fun T t hA q => XS.aload hA ok.x rfl (hb ok.by_ hd) hl hv q) K
theorem W.aloadN (ok : Ok B l Z nar own nm code ml ret R h0 ws fr Q Me) {i : Fin 4} {v : Value} (hd : decode code pc = .ok (.aload_n i, 1)) (hp : pc + 1 = pc') (hl : L[i.val]? = some (.val v)) (hv : v.isRef = true) (K : W B h k n M cl pc' L (v :: S)) : W B h k n M cl pc L S := by
  subst hp; exact W.pure (fun T t hA q => XS.aloadN hA ok.x rfl (hb ok.by_ hd) hl hv q) K
theorem W.iload (ok : Ok B l Z nar own nm code ml ret R h0 ws fr Q Me) {i : Nat} {v : Int32} (hd : decode code pc = .ok (.iload i, 2)) (hp : pc + 2 = pc') (hl : L[i]? = some (.val (.int v))) (K : W B h k n M cl pc' L (.int v :: S)) : W B h k n M cl pc L S := by
  subst hp; exact W.pure (fun T t hA q => XS.iload hA ok.x rfl (hb ok.by_ hd) hl q) K
theorem W.iloadN (ok : Ok B l Z nar own nm code ml ret R h0 ws fr Q Me) {i : Fin 4} {v : Int32} (hd : decode code pc = .ok (.iload_n i, 1)) (hp : pc + 1 = pc') (hl : L[i.val]? = some (.val (.int v))) (K : W B h k n M cl pc' L (.int v :: S)) : W B h k n M cl pc L S := by
  subst hp; exact W.pure (fun T t hA q => XS.iloadN hA ok.x rfl (hb ok.by_ hd) hl q) K
theorem W.lload (ok : Ok B l Z nar own nm code ml ret R h0 ws fr Q Me) {i : Nat} {v : Int64} (hd : decode code pc = .ok (.lload i, 2)) (hp : pc + 2 = pc') (hl : L[i]? = some (.val (.long v))) (K : W B h k n M cl pc' L (.long v :: S)) : W B h k n M cl pc L S := by
  subst hp; exact W.pure (fun T t hA q => XT.lload hA ok.x rfl (hb ok.by_ hd) hl q) K
theorem W.lloadN (ok : Ok B l Z nar own nm code ml ret R h0 ws fr Q Me) {i : Fin 4} {v : Int64} (hd : decode code pc = .ok (.lload_n i, 1)) (hp : pc + 1 = pc') (hl : L[i.val]? = some (.val (.long v))) (K : W B h k n M cl pc' L (.long v :: S)) : W B h k n M cl pc L S := by
  subst hp; exact W.pure (fun T t hA q => XT.lloadN hA ok.x rfl (hb ok.by_ hd) hl q) K
theorem W.iconst (ok : Ok B l Z nar own nm code ml ret R h0 ws fr Q Me) {i : Int} (v : Int32) (hd : decode code pc = .ok (.iconst i, 1)) (hp : pc + 1 = pc') (hv : Int32.ofInt i = v) (K : W B h k n M cl pc' L (.int v :: S)) : W B h k n M cl pc L S := by
  subst hp; exact W.pure (fun T t hA q => XT.iconstV hA ok.x rfl v (hb ok.by_ hd) hv q) K
theorem W.bipush (ok : Ok B l Z nar own nm code ml ret R h0 ws fr Q Me) {i : Int} (v : Int32) (hd : decode code pc = .ok (.bipush i, 2)) (hp : pc + 2 = pc') (hv : (Int8.ofInt i).toInt32 = v) (K : W B h k n M cl pc' L (.int v :: S)) : W B h k n M cl pc L S := by
  subst hp; exact W.pure (fun T t hA q => XT.bipushV hA ok.x rfl v (hb ok.by_ hd) hv q) K
theorem W.sipush (ok : Ok B l Z nar own nm code ml ret R h0 ws fr Q Me) {i : Int} (v : Int32) (hd : decode code pc = .ok (.sipush i, 3)) (hp : pc + 3 = pc') (hv : (Int16.ofInt i).toInt32 = v) (K : W B h k n M cl pc' L (.int v :: S)) : W B h k n M cl pc L S := by
  subst hp; exact W.pure (fun T t hA q => XT.sipushV hA ok.x rfl v (hb ok.by_ hd) hv q) K
theorem W.lconst (ok : Ok B l Z nar own nm code ml ret R h0 ws fr Q Me) {i : Fin 2} (v : Int64) (hd : decode code pc = .ok (.lconst i, 1)) (hp : pc + 1 = pc') (hv : Int64.ofNat i = v) (K : W B h k n M cl pc' L (.long v :: S)) : W B h k n M cl pc L S := by
  subst hp; exact W.pure (fun T t hA q => XT.lconstV hA ok.x rfl v (hb ok.by_ hd) hv q) K
theorem W.aconstNull (ok : Ok B l Z nar own nm code ml ret R h0 ws fr Q Me)  (hd : decode code pc = .ok (.aconst_null, 1)) (hp : pc + 1 = pc')  (K : W B h k n M cl pc' L (.null :: S)) : W B h k n M cl pc L S := by
  subst hp; exact W.pure (fun T t hA q => XS.aconstNull hA ok.x rfl (hb ok.by_ hd) q) K
theorem W.iadd (ok : Ok B l Z nar own nm code ml ret R h0 ws fr Q Me) {x y : Int32} (hd : decode code pc = .ok (.iadd, 1)) (hp : pc + 1 = pc')  (K : W B h k n M cl pc' L (.int (x + y) :: S)) : W B h k n M cl pc L (.int y :: .int x :: S) := by
  subst hp; exact W.pure (fun T t hA q => XS.iadd hA ok.x rfl (hb ok.by_ hd) rfl q) K
theorem W.isub (ok : Ok B l Z nar own nm code ml ret R h0 ws fr Q Me) {x y : Int32} (hd : decode code pc = .ok (.isub, 1)) (hp : pc + 1 = pc')  (K : W B h k n M cl pc' L (.int (x - y) :: S)) : W B h k n M cl pc L (.int y :: .int x :: S) := by
  subst hp; exact W.pure (fun T t hA q => XS.isub hA ok.x rfl (hb ok.by_ hd) rfl q) K
theorem W.iand (ok : Ok B l Z nar own nm code ml ret R h0 ws fr Q Me) {x y : Int32} (hd : decode code pc = .ok (.iand, 1)) (hp : pc + 1 = pc')  (K : W B h k n M cl pc' L (.int (x &&& y) :: S)) : W B h k n M cl pc L (.int y :: .int x :: S) := by
  subst hp; exact W.pure (fun T t hA q => XS.iand hA ok.x rfl (hb ok.by_ hd) rfl q) K
theorem W.imul (ok : Ok B l Z nar own nm code ml ret R h0 ws fr Q Me) {x y : Int32} (hd : decode code pc = .ok (.imul, 1)) (hp : pc + 1 = pc')  (K : W B h k n M cl pc' L (.int (x * y) :: S)) : W B h k n M cl pc L (.int y :: .int x :: S) := by
  subst hp; exact W.pure (fun T t hA q => XS.imul hA ok.x rfl (hb ok.by_ hd) rfl q) K
theorem W.ior (ok : Ok B l Z nar own nm code ml ret R h0 ws fr Q Me) {x y : Int32} (hd : decode code pc = .ok (.ior, 1)) (hp : pc + 1 = pc')  (K : W B h k n M cl pc' L (.int (x ||| y) :: S)) : W B h k n M cl pc L (.int y :: .int x :: S) := by
  subst hp; exact W.pure (fun T t hA q => XT.ior hA ok.x rfl (hb ok.by_ hd) rfl q) K
theorem W.ixor (ok : Ok B l Z nar own nm code ml ret R h0 ws fr Q Me) {x y : Int32} (hd : decode code pc = .ok (.ixor, 1)) (hp : pc + 1 = pc')  (K : W B h k n M cl pc' L (.int (x ^^^ y) :: S)) : W B h k n M cl pc L (.int y :: .int x :: S) := by
  subst hp; exact W.pure (fun T t hA q => XT.ixor hA ok.x rfl (hb ok.by_ hd) rfl q) K
theorem W.ishl (ok : Ok B l Z nar own nm code ml ret R h0 ws fr Q Me) {x y : Int32} (hd : decode code pc = .ok (.ishl, 1)) (hp : pc + 1 = pc')  (K : W B h k n M cl pc' L (.int (x <<< (y &&& 31)) :: S)) : W B h k n M cl pc L (.int y :: .int x :: S) := by
  subst hp; exact W.pure (fun T t hA q => XT.ishl hA ok.x rfl (hb ok.by_ hd) rfl q) K
theorem W.ishr (ok : Ok B l Z nar own nm code ml ret R h0 ws fr Q Me) {x y : Int32} (hd : decode code pc = .ok (.ishr, 1)) (hp : pc + 1 = pc')  (K : W B h k n M cl pc' L (.int (x >>> (y &&& 31)) :: S)) : W B h k n M cl pc L (.int y :: .int x :: S) := by
  subst hp; exact W.pure (fun T t hA q => XT.ishr hA ok.x rfl (hb ok.by_ hd) rfl q) K
theorem W.iushr (ok : Ok B l Z nar own nm code ml ret R h0 ws fr Q Me) {x y : Int32} (hd : decode code pc = .ok (.iushr, 1)) (hp : pc + 1 = pc')  (K : W B h k n M cl pc' L (.int (XT.ushr x y) :: S)) : W B h k n M cl pc L (.int y :: .int x :: S) := by
  subst hp; exact W.pure (fun T t hA q => XT.iushr hA ok.x rfl (hb ok.by_ hd) rfl q) K
theorem W.irem (ok : Ok B l Z nar own nm code ml ret R h0 ws fr Q Me) {x y : Int32} (hd : decode code pc = .ok (.irem, 1)) (hp : pc + 1 = pc') (hy : y ≠ 0) (K : W B h k n M cl pc' L (.int (x % y) :: S)) : W B h k n M cl pc L (.int y :: .int x :: S) := by
  subst hp; exact W.pure (fun T t hA q => XS.irem hA ok.x rfl (hb ok.by_ hd) rfl hy (by rw [show x - x / y * y = x % y from irem_eq_mod x y]; exact q)) K
theorem W.idiv (ok : Ok B l Z nar own nm code ml ret R h0 ws fr Q Me) {x y : Int32} (hd : decode code pc = .ok (.idiv, 1)) (hp : pc + 1 = pc') (hy : y ≠ 0) (K : W B h k n M cl pc' L (.int (x / y) :: S)) : W B h k n M cl pc L (.int y :: .int x :: S) := by
  subst hp; exact W.pure (fun T t hA q => XS.idiv hA ok.x rfl (hb ok.by_ hd) rfl hy q) K
theorem W.ineg (ok : Ok B l Z nar own nm code ml ret R h0 ws fr Q Me) {x : Int32} (hd : decode code pc = .ok (.ineg, 1)) (hp : pc + 1 = pc')  (K : W B h k n M cl pc' L (.int (-x) :: S)) : W B h k n M cl pc L (.int x :: S) := by
  subst hp; exact W.pure (fun T t hA q => XS.ineg hA ok.x rfl (hb ok.by_ hd) rfl q) K
theorem W.land (ok : Ok B l Z nar own nm code ml ret R h0 ws fr Q Me) {x y : Int64} (hd : decode code pc = .ok (.land, 1)) (hp : pc + 1 = pc')  (K : W B h k n M cl pc' L (.long (x &&& y) :: S)) : W B h k n M cl pc L (.long y :: .long x :: S) := by
  subst hp; exact W.pure (fun T t hA q => XT.land hA ok.x rfl (hb ok.by_ hd) rfl q) K
theorem W.lor (ok : Ok B l Z nar own nm code ml ret R h0 ws fr Q Me) {x y : Int64} (hd : decode code pc = .ok (.lor, 1)) (hp : pc + 1 = pc')  (K : W B h k n M cl pc' L (.long (x ||| y) :: S)) : W B h k n M cl pc L (.long y :: .long x :: S) := by
  subst hp; exact W.pure (fun T t hA q => XT.lor hA ok.x rfl (hb ok.by_ hd) rfl q) K
theorem W.lxor (ok : Ok B l Z nar own nm code ml ret R h0 ws fr Q Me) {x y : Int64} (hd : decode code pc = .ok (.lxor, 1)) (hp : pc + 1 = pc')  (K : W B h k n M cl pc' L (.long (x ^^^ y) :: S)) : W B h k n M cl pc L (.long y :: .long x :: S) := by
  subst hp; exact W.pure (fun T t hA q => XT.lxor hA ok.x rfl (hb ok.by_ hd) rfl q) K
theorem W.ladd (ok : Ok B l Z nar own nm code ml ret R h0 ws fr Q Me) {x y : Int64} (hd : decode code pc = .ok (.ladd, 1)) (hp : pc + 1 = pc')  (K : W B h k n M cl pc' L (.long (x + y) :: S)) : W B h k n M cl pc L (.long y :: .long x :: S) := by
  subst hp; exact W.pure (fun T t hA q => XT.ladd hA ok.x rfl (hb ok.by_ hd) rfl q) K
theorem W.lsub (ok : Ok B l Z nar own nm code ml ret R h0 ws fr Q Me) {x y : Int64} (hd : decode code pc = .ok (.lsub, 1)) (hp : pc + 1 = pc')  (K : W B h k n M cl pc' L (.long (x - y) :: S)) : W B h k n M cl pc L (.long y :: .long x :: S) := by
  subst hp; exact W.pure (fun T t hA q => XT.lsub hA ok.x rfl (hb ok.by_ hd) rfl q) K
theorem W.lushr (ok : Ok B l Z nar own nm code ml ret R h0 ws fr Q Me) {x : Int64} {y : Int32} (hd : decode code pc = .ok (.lushr, 1)) (hp : pc + 1 = pc')  (K : W B h k n M cl pc' L (.long (XT.ushrL x y) :: S)) : W B h k n M cl pc L (.int y :: .long x :: S) := by
  subst hp; exact W.pure (fun T t hA q => XT.lushr hA ok.x rfl (hb ok.by_ hd) rfl q) K
theorem W.lshr (ok : Ok B l Z nar own nm code ml ret R h0 ws fr Q Me) {x : Int64} {y : Int32} (hd : decode code pc = .ok (.lshr, 1)) (hp : pc + 1 = pc')  (K : W B h k n M cl pc' L (.long (x >>> (y.toInt64 &&& 63)) :: S)) : W B h k n M cl pc L (.int y :: .long x :: S) := by
  subst hp; exact W.pure (fun T t hA q => XT.lshr hA ok.x rfl (hb ok.by_ hd) rfl q) K
theorem W.lshl (ok : Ok B l Z nar own nm code ml ret R h0 ws fr Q Me) {x : Int64} {y : Int32} (hd : decode code pc = .ok (.lshl, 1)) (hp : pc + 1 = pc')  (K : W B h k n M cl pc' L (.long (x <<< (y.toInt64 &&& 63)) :: S)) : W B h k n M cl pc L (.int y :: .long x :: S) := by
  subst hp; exact W.pure (fun T t hA q => XT.lshl hA ok.x rfl (hb ok.by_ hd) rfl q) K
theorem W.i2l (ok : Ok B l Z nar own nm code ml ret R h0 ws fr Q Me) {x : Int32} (hd : decode code pc = .ok (.i2l, 1)) (hp : pc + 1 = pc')  (K : W B h k n M cl pc' L (.long x.toInt64 :: S)) : W B h k n M cl pc L (.int x :: S) := by
  subst hp; exact W.pure (fun T t hA q => XT.i2l hA ok.x rfl (hb ok.by_ hd) rfl q) K
theorem W.l2i (ok : Ok B l Z nar own nm code ml ret R h0 ws fr Q Me) {x : Int64} (hd : decode code pc = .ok (.l2i, 1)) (hp : pc + 1 = pc')  (K : W B h k n M cl pc' L (.int x.toInt32 :: S)) : W B h k n M cl pc L (.long x :: S) := by
  subst hp; exact W.pure (fun T t hA q => XT.l2i hA ok.x rfl (hb ok.by_ hd) rfl q) K
theorem W.i2b (ok : Ok B l Z nar own nm code ml ret R h0 ws fr Q Me) {x : Int32} (hd : decode code pc = .ok (.i2b, 1)) (hp : pc + 1 = pc')  (K : W B h k n M cl pc' L (.int (b8 x) :: S)) : W B h k n M cl pc L (.int x :: S) := by
  subst hp; exact W.pure (fun T t hA q => XT.i2b hA ok.x rfl (hb ok.by_ hd) rfl q) K
theorem W.i2c (ok : Ok B l Z nar own nm code ml ret R h0 ws fr Q Me) {x : Int32} (hd : decode code pc = .ok (.i2c, 1)) (hp : pc + 1 = pc')  (K : W B h k n M cl pc' L (.int (c16 x) :: S)) : W B h k n M cl pc L (.int x :: S) := by
  subst hp; exact W.pure (fun T t hA q => XT.i2c hA ok.x rfl (hb ok.by_ hd) rfl q) K
theorem W.dup (ok : Ok B l Z nar own nm code ml ret R h0 ws fr Q Me) {x : Value} (hd : decode code pc = .ok (.dup, 1)) (hp : pc + 1 = pc') (hc : x.category = 1) (K : W B h k n M cl pc' L (x :: x :: S)) : W B h k n M cl pc L (x :: S) := by
  subst hp; exact W.pure (fun T t hA q => XS.dup hA ok.x rfl (hb ok.by_ hd) rfl hc q) K
theorem W.dup2 (ok : Ok B l Z nar own nm code ml ret R h0 ws fr Q Me) {x y : Value} (hd : decode code pc = .ok (.dup2, 1)) (hp : pc + 1 = pc') (hc : x.category = 1) (hc' : y.category = 1) (K : W B h k n M cl pc' L (x :: y :: x :: y :: S)) : W B h k n M cl pc L (x :: y :: S) := by
  subst hp; exact W.pure (fun T t hA q => XT.dup2 hA ok.x rfl (hb ok.by_ hd) rfl hc hc' q) K
theorem W.dupX1 (ok : Ok B l Z nar own nm code ml ret R h0 ws fr Q Me) {x y : Value} (hd : decode code pc = .ok (.dup_x1, 1)) (hp : pc + 1 = pc') (hc : x.category = 1) (hc' : y.category = 1) (K : W B h k n M cl pc' L (x :: y :: x :: S)) : W B h k n M cl pc L (x :: y :: S) := by
  subst hp; exact W.pure (fun T t hA q => XT.dupX1 hA ok.x rfl (hb ok.by_ hd) rfl hc hc' q) K
theorem W.pop1 (ok : Ok B l Z nar own nm code ml ret R h0 ws fr Q Me) {x : Value} (hd : decode code pc = .ok (.pop, 1)) (hp : pc + 1 = pc') (hc : x.category = 1) (K : W B h k n M cl pc' L S) : W B h k n M cl pc L (x :: S) := by
  subst hp; exact W.pure (fun T t hA q => XT.pop hA ok.x rfl (hb ok.by_ hd) rfl hc q) K
theorem W.istore (ok : Ok B l Z nar own nm code ml ret R h0 ws fr Q Me) {i : Nat} {v : Int32} (hd : decode code pc = .ok (.istore i, 2)) (hp : pc + 2 = pc') (hl : storeLocals L i (.int v) = some L') (K : W B h k n M cl pc' L' S) : W B h k n M cl pc L (.int v :: S) := by
  subst hp; exact W.pure (fun T t hA q => XS.istore hA ok.x rfl (hb ok.by_ hd) rfl hl q) K
theorem W.istoreN (ok : Ok B l Z nar own nm code ml ret R h0 ws fr Q Me) {i : Fin 4} {v : Int32} (hd : decode code pc = .ok (.istore_n i, 1)) (hp : pc + 1 = pc') (hl : storeLocals L i.val (.int v) = some L') (K : W B h k n M cl pc' L' S) : W B h k n M cl pc L (.int v :: S) := by
  subst hp; exact W.pure (fun T t hA q => XS.istoreN hA ok.x rfl (hb ok.by_ hd) rfl hl q) K
theorem W.astore (ok : Ok B l Z nar own nm code ml ret R h0 ws fr Q Me) {i : Nat} {v : Value} (hd : decode code pc = .ok (.astore i, 2)) (hp : pc + 2 = pc') (hv : v.isRef = true) (hl : storeLocals L i v = some L') (K : W B h k n M cl pc' L' S) : W B h k n M cl pc L (v :: S) := by
  subst hp; exact W.pure (fun T t hA q => XS.astore hA ok.x rfl (hb ok.by_ hd) rfl hv hl q) K
theorem W.astoreN (ok : Ok B l Z nar own nm code ml ret R h0 ws fr Q Me) {i : Fin 4} {v : Value} (hd : decode code pc = .ok (.astore_n i, 1)) (hp : pc + 1 = pc') (hv : v.isRef = true) (hl : storeLocals L i.val v = some L') (K : W B h k n M cl pc' L' S) : W B h k n M cl pc L (v :: S) := by
  subst hp; exact W.pure (fun T t hA q => XS.astoreN hA ok.x rfl (hb ok.by_ hd) rfl hv hl q) K
theorem W.lstore (ok : Ok B l Z nar own nm code ml ret R h0 ws fr Q Me) {i : Nat} {v : Int64} (hd : decode code pc = .ok (.lstore i, 2)) (hp : pc + 2 = pc') (hl : storeLocals L i (.long v) = some L') (K : W B h k n M cl pc' L' S) : W B h k n M cl pc L (.long v :: S) := by
  subst hp; exact W.pure (fun T t hA q => XT.lstore hA ok.x rfl (hb ok.by_ hd) rfl hl q) K
theorem W.lstoreN (ok : Ok B l Z nar own nm code ml ret R h0 ws fr Q Me) {i : Fin 4} {v : Int64} (hd : decode code pc = .ok (.lstore_n i, 1)) (hp : pc + 1 = pc') (hl : storeLocals L i.val (.long v) = some L') (K : W B h k n M cl pc' L' S) : W B h k n M cl pc L (.long v :: S) := by
  subst hp; exact W.pure (fun T t hA q => XT.lstoreN hA ok.x rfl (hb ok.by_ hd) rfl hl q) K
theorem W.astoreS (ok : Ok B l Z nar own nm code ml ret R h0 ws fr Q Me) {i : Nat} {v : Value} {o : Slot} (hd : decode code pc = .ok (.astore i, 2)) (hp : pc + 2 = pc') (hv : v.isRef = true) (hl : L[i]? = some o) (ho : One o) (e : L.setIfInBounds i (.val v) = L') (K : W B h k n M cl pc' L' S) : W B h k n M cl pc L (v :: S) := by
  subst hp; exact W.pure (fun T t hA q => XS.astore hA ok.x rfl (hb ok.by_ hd) rfl hv ((XS.store1 hl ho (XT.cat1 hv)).trans (congrArg some e)) q) K
theorem W.astoreNS (ok : Ok B l Z nar own nm code ml ret R h0 ws fr Q Me) {i : Fin 4} {v : Value} {o : Slot} (hd : decode code pc = .ok (.astore_n i, 1)) (hp : pc + 1 = pc') (hv : v.isRef = true) (hl : L[i.val]? = some o) (ho : One o) (e : L.setIfInBounds i.val (.val v) = L') (K : W B h k n M cl pc' L' S) : W B h k n M cl pc L (v :: S) := by
  subst hp; exact W.pure (fun T t hA q => XS.astoreN hA ok.x rfl (hb ok.by_ hd) rfl hv ((XS.store1 hl ho (XT.cat1 hv)).trans (congrArg some e)) q) K
theorem W.istoreS (ok : Ok B l Z nar own nm code ml ret R h0 ws fr Q Me) {i : Nat} {v : Int32} {o : Slot} (hd : decode code pc = .ok (.istore i, 2)) (hp : pc + 2 = pc') (hl : L[i]? = some o) (ho : One o) (e : L.setIfInBounds i (.val (.int v)) = L') (K : W B h k n M cl pc' L' S) : W B h k n M cl pc L (.int v :: S) := by
  subst hp; exact W.pure (fun T t hA q => XS.istore hA ok.x rfl (hb ok.by_ hd) rfl ((XS.store1 hl ho rfl).trans (congrArg some e)) q) K
theorem W.istoreNS (ok : Ok B l Z nar own nm code ml ret R h0 ws fr Q Me) {i : Fin 4} {v : Int32} {o : Slot} (hd : decode code pc = .ok (.istore_n i, 1)) (hp : pc + 1 = pc') (hl : L[i.val]? = some o) (ho : One o) (e : L.setIfInBounds i.val (.val (.int v)) = L') (K : W B h k n M cl pc' L' S) : W B h k n M cl pc L (.int v :: S) := by
  subst hp; exact W.pure (fun T t hA q => XS.istoreN hA ok.x rfl (hb ok.by_ hd) rfl ((XS.store1 hl ho rfl).trans (congrArg some e)) q) K
theorem W.iinc (ok : Ok B l Z nar own nm code ml ret R h0 ws fr Q Me) {i : Nat} {cst : Int} {x : Int32} (v : Int32) (hd : decode code pc = .ok (.iinc i cst, 3)) (hp : pc + 3 = pc') (hv : Int32.ofInt cst = v) (hl : L[i]? = some (.val (.int x))) (hl' : storeLocals L i (.int (x + v)) = some L') (K : W B h k n M cl pc' L' S) : W B h k n M cl pc L S := by
  subst hp; exact W.pure (fun T t hA q => XT.iincV hA ok.x rfl v (hb ok.by_ hd) hv hl hl' q) K
theorem W.goto (ok : Ok B l Z nar own nm code ml ret R h0 ws fr Q Me) {o : Int} (hd : decode code pc = .ok (.goto o, 3)) (ho : 0 ≤ (pc : Int) + o) (hp : ((pc : Int) + o).toNat = pc') (K : W B h k n M cl pc' L S) : W B h k n M cl pc L S :=
  W.pure (fun T t hA q => XS.goto hA ok.x rfl (pc0 := pc) rfl (hb ok.by_ hd) ho hp q) K
theorem W.ifeq (ok : Ok B l Z nar own nm code ml ret R h0 ws fr Q Me) {x : Int32} {o : Int} {pcY pcN : Nat} (hd : decode code pc = .ok (.ifCond .eq o, 3)) (hp : pc + 3 = pcN) (ho : 0 ≤ (pc : Int) + o) (hj : ((pc : Int) + o).toNat = pcY) (KT : x = 0 → W B h k n M cl pcY L S) (KF : ¬ x = 0 → W B h k n M cl pcN L S) : W B h k n M cl pc L (.int x :: S) := by
  subst hp; by_cases c : x = 0
  · exact W.pure (fun T t hA q => XS.ifYes hA ok.x rfl (pc0 := pc) rfl (hb ok.by_ hd) rfl (XT.i0_eq_t c) ho hj q) (KT c)
  · exact W.pure (fun T t hA q => XS.ifNo hA ok.x rfl (hb ok.by_ hd) rfl (XT.i0_eq_f c) q) (KF c)
theorem W.ifne (ok : Ok B l Z nar own nm code ml ret R h0 ws fr Q Me) {x : Int32} {o : Int} {pcY pcN : Nat} (hd : decode code pc = .ok (.ifCond .ne o, 3)) (hp : pc + 3 = pcN) (ho : 0 ≤ (pc : Int) + o) (hj : ((pc : Int) + o).toNat = pcY) (KT : x = 0 → W B h k n M cl pcN L S) (KF : ¬ x = 0 → W B h k n M cl pcY L S) : W B h k n M cl pc L (.int x :: S) := by
  subst hp; by_cases c : x = 0
  · exact W.pure (fun T t hA q => XS.ifNo hA ok.x rfl (hb ok.by_ hd) rfl (XT.i0_ne_f c) q) (KT c)
  · exact W.pure (fun T t hA q => XS.ifYes hA ok.x rfl (pc0 := pc) rfl (hb ok.by_ hd) rfl (XT.i0_ne_t c) ho hj q) (KF c)
theorem W.iflt (ok : Ok B l Z nar own nm code ml ret R h0 ws fr Q Me) {x : Int32} {o : Int} {pcY pcN : Nat} (hd : decode code pc = .ok (.ifCond .lt o, 3)) (hp : pc + 3 = pcN) (ho : 0 ≤ (pc : Int) + o) (hj : ((pc : Int) + o).toNat = pcY) (KT : x < 0 → W B h k n M cl pcY L S) (KF : ¬ x < 0 → W B h k n M cl pcN L S) : W B h k n M cl pc L (.int x :: S) := by
  subst hp; by_cases c : x < 0
  · exact W.pure (fun T t hA q => XS.ifYes hA ok.x rfl (pc0 := pc) rfl (hb ok.by_ hd) rfl (XT.i0_lt_t c) ho hj q) (KT c)
  · exact W.pure (fun T t hA q => XS.ifNo hA ok.x rfl (hb ok.by_ hd) rfl (XT.i0_lt_f c) q) (KF c)
theorem W.ifge (ok : Ok B l Z nar own nm code ml ret R h0 ws fr Q Me) {x : Int32} {o : Int} {pcY pcN : Nat} (hd : decode code pc = .ok (.ifCond .ge o, 3)) (hp : pc + 3 = pcN) (ho : 0 ≤ (pc : Int) + o) (hj : ((pc : Int) + o).toNat = pcY) (KT : x < 0 → W B h k n M cl pcN L S) (KF : ¬ x < 0 → W B h k n M cl pcY L S) : W B h k n M cl pc L (.int x :: S) := by
  subst hp; by_cases c : x < 0
  · exact W.pure (fun T t hA q => XS.ifNo hA ok.x rfl (hb ok.by_ hd) rfl (XT.i0_ge_f c) q) (KT c)
  · exact W.pure (fun T t hA q => XS.ifYes hA ok.x rfl (pc0 := pc) rfl (hb ok.by_ hd) rfl (XT.i0_ge_t c) ho hj q) (KF c)
theorem W.ifgt (ok : Ok B l Z nar own nm code ml ret R h0 ws fr Q Me) {x : Int32} {o : Int} {pcY pcN : Nat} (hd : decode code pc = .ok (.ifCond .gt o, 3)) (hp : pc + 3 = pcN) (ho : 0 ≤ (pc : Int) + o) (hj : ((pc : Int) + o).toNat = pcY) (KT : 0 < x → W B h k n M cl pcY L S) (KF : ¬ 0 < x → W B h k n M cl pcN L S) : W B h k n M cl pc L (.int x :: S) := by
  subst hp; by_cases c : 0 < x
  · exact W.pure (fun T t hA q => XS.ifYes hA ok.x rfl (pc0 := pc) rfl (hb ok.by_ hd) rfl (XT.i0_gt_t c) ho hj q) (KT c)
  · exact W.pure (fun T t hA q => XS.ifNo hA ok.x rfl (hb ok.by_ hd) rfl (XT.i0_gt_f c) q) (KF c)
theorem W.ifle (ok : Ok B l Z nar own nm code ml ret R h0 ws fr Q Me) {x : Int32} {o : Int} {pcY pcN : Nat} (hd : decode code pc = .ok (.ifCond .le o, 3)) (hp : pc + 3 = pcN) (ho : 0 ≤ (pc : Int) + o) (hj : ((pc : Int) + o).toNat = pcY) (KT : 0 < x → W B h k n M cl pcN L S) (KF : ¬ 0 < x → W B h k n M cl pcY L S) : W B h k n M cl pc L (.int x :: S) := by
  subst hp; by_cases c : 0 < x
  · exact W.pure (fun T t hA q => XS.ifNo hA ok.x rfl (hb ok.by_ hd) rfl (XT.i0_le_f c) q) (KT c)
  · exact W.pure (fun T t hA q => XS.ifYes hA ok.x rfl (pc0 := pc) rfl (hb ok.by_ hd) rfl (XT.i0_le_t c) ho hj q) (KF c)
theorem W.icmpeq (ok : Ok B l Z nar own nm code ml ret R h0 ws fr Q Me) {x y : Int32} {o : Int} {pcY pcN : Nat} (hd : decode code pc = .ok (.if_icmp .eq o, 3)) (hp : pc + 3 = pcN) (ho : 0 ≤ (pc : Int) + o) (hj : ((pc : Int) + o).toNat = pcY) (KT : x = y → W B h k n M cl pcY L S) (KF : ¬ x = y → W B h k n M cl pcN L S) : W B h k n M cl pc L (.int y :: .int x :: S) := by
  subst hp; by_cases c : x = y
  · exact W.pure (fun T t hA q => XS.icmpYes hA ok.x rfl (pc0 := pc) rfl (hb ok.by_ hd) rfl (XT.ii_eq_t c) ho hj q) (KT c)
  · exact W.pure (fun T t hA q => XS.icmpNo hA ok.x rfl (hb ok.by_ hd) rfl (XT.ii_eq_f c) q) (KF c)
theorem W.icmpne (ok : Ok B l Z nar own nm code ml ret R h0 ws fr Q Me) {x y : Int32} {o : Int} {pcY pcN : Nat} (hd : decode code pc = .ok (.if_icmp .ne o, 3)) (hp : pc + 3 = pcN) (ho : 0 ≤ (pc : Int) + o) (hj : ((pc : Int) + o).toNat = pcY) (KT : x = y → W B h k n M cl pcN L S) (KF : ¬ x = y → W B h k n M cl pcY L S) : W B h k n M cl pc L (.int y :: .int x :: S) := by
  subst hp; by_cases c : x = y
  · exact W.pure (fun T t hA q => XS.icmpNo hA ok.x rfl (hb ok.by_ hd) rfl (XT.ii_ne_f c) q) (KT c)
  · exact W.pure (fun T t hA q => XS.icmpYes hA ok.x rfl (pc0 := pc) rfl (hb ok.by_ hd) rfl (XT.ii_ne_t c) ho hj q) (KF c)
theorem W.icmplt (ok : Ok B l Z nar own nm code ml ret R h0 ws fr Q Me) {x y : Int32} {o : Int} {pcY pcN : Nat} (hd : decode code pc = .ok (.if_icmp .lt o, 3)) (hp : pc + 3 = pcN) (ho : 0 ≤ (pc : Int) + o) (hj : ((pc : Int) + o).toNat = pcY) (KT : x < y → W B h k n M cl pcY L S) (KF : ¬ x < y → W B h k n M cl pcN L S) : W B h k n M cl pc L (.int y :: .int x :: S) := by
  subst hp; by_cases c : x < y
  · exact W.pure (fun T t hA q => XS.icmpYes hA ok.x rfl (pc0 := pc) rfl (hb ok.by_ hd) rfl (XT.ii_lt_t c) ho hj q) (KT c)
  · exact W.pure (fun T t hA q => XS.icmpNo hA ok.x rfl (hb ok.by_ hd) rfl (XT.ii_lt_f c) q) (KF c)
theorem W.icmpge (ok : Ok B l Z nar own nm code ml ret R h0 ws fr Q Me) {x y : Int32} {o : Int} {pcY pcN : Nat} (hd : decode code pc = .ok (.if_icmp .ge o, 3)) (hp : pc + 3 = pcN) (ho : 0 ≤ (pc : Int) + o) (hj : ((pc : Int) + o).toNat = pcY) (KT : x < y → W B h k n M cl pcN L S) (KF : ¬ x < y → W B h k n M cl pcY L S) : W B h k n M cl pc L (.int y :: .int x :: S) := by
  subst hp; by_cases c : x < y
  · exact W.pure (fun T t hA q => XS.icmpNo hA ok.x rfl (hb ok.by_ hd) rfl (XT.ii_ge_f c) q) (KT c)
  · exact W.pure (fun T t hA q => XS.icmpYes hA ok.x rfl (pc0 := pc) rfl (hb ok.by_ hd) rfl (XT.ii_ge_t c) ho hj q) (KF c)
theorem W.icmpgt (ok : Ok B l Z nar own nm code ml ret R h0 ws fr Q Me) {x y : Int32} {o : Int} {pcY pcN : Nat} (hd : decode code pc = .ok (.if_icmp .gt o, 3)) (hp : pc + 3 = pcN) (ho : 0 ≤ (pc : Int) + o) (hj : ((pc : Int) + o).toNat = pcY) (KT : y < x → W B h k n M cl pcY L S) (KF : ¬ y < x → W B h k n M cl pcN L S) : W B h k n M cl pc L (.int y :: .int x :: S) := by
  subst hp; by_cases c : y < x
  · exact W.pure (fun T t hA q => XS.icmpYes hA ok.x rfl (pc0 := pc) rfl (hb ok.by_ hd) rfl (XT.ii_gt_t c) ho hj q) (KT c)
  · exact W.pure (fun T t hA q => XS.icmpNo hA ok.x rfl (hb ok.by_ hd) rfl (XT.ii_gt_f c) q) (KF c)
theorem W.icmple (ok : Ok B l Z nar own nm code ml ret R h0 ws fr Q Me) {x y : Int32} {o : Int} {pcY pcN : Nat} (hd : decode code pc = .ok (.if_icmp .le o, 3)) (hp : pc + 3 = pcN) (ho : 0 ≤ (pc : Int) + o) (hj : ((pc : Int) + o).toNat = pcY) (KT : y < x → W B h k n M cl pcN L S) (KF : ¬ y < x → W B h k n M cl pcY L S) : W B h k n M cl pc L (.int y :: .int x :: S) := by
  subst hp; by_cases c : y < x
  · exact W.pure (fun T t hA q => XS.icmpNo hA ok.x rfl (hb ok.by_ hd) rfl (XT.ii_le_f c) q) (KT c)
  · exact W.pure (fun T t hA q => XS.icmpYes hA ok.x rfl (pc0 := pc) rfl (hb ok.by_ hd) rfl (XT.ii_le_t c) ho hj q) (KF c)
theorem W.acmpeq (ok : Ok B l Z nar own nm code ml ret R h0 ws fr Q Me) {x y : Value} {o : Int} {pcY pcN : Nat} (hd : decode code pc = .ok (.if_acmp .eq o, 3)) (hp : pc + 3 = pcN) (hx : x.isRef = true) (hy : y.isRef = true) (ho : 0 ≤ (pc : Int) + o) (hj : ((pc : Int) + o).toNat = pcY) (KT : x = y → W B h k n M cl pcY L S) (KF : ¬ x = y → W B h k n M cl pcN L S) : W B h k n M cl pc L (y :: x :: S) := by
  subst hp; by_cases c : x = y
  · exact W.pure (fun T t hA q => XT.acmpYes hA ok.x rfl (pc0 := pc) rfl (hb ok.by_ hd) rfl hx hy (XT.aa_eq_t c) ho hj q) (KT c)
  · exact W.pure (fun T t hA q => XT.acmpNo hA ok.x rfl (hb ok.by_ hd) rfl hx hy (XT.aa_eq_f c) q) (KF c)
theorem W.acmpne (ok : Ok B l Z nar own nm code ml ret R h0 ws fr Q Me) {x y : Value} {o : Int} {pcY pcN : Nat} (hd : decode code pc = .ok (.if_acmp .ne o, 3)) (hp : pc + 3 = pcN) (hx : x.isRef = true) (hy : y.isRef = true) (ho : 0 ≤ (pc : Int) + o) (hj : ((pc : Int) + o).toNat = pcY) (KT : x = y → W B h k n M cl pcN L S) (KF : ¬ x = y → W B h k n M cl pcY L S) : W B h k n M cl pc L (y :: x :: S) := by
  subst hp; by_cases c : x = y
  · exact W.pure (fun T t hA q => XT.acmpNo hA ok.x rfl (hb ok.by_ hd) rfl hx hy (XT.aa_ne_f c) q) (KT c)
  · exact W.pure (fun T t hA q => XT.acmpYes hA ok.x rfl (pc0 := pc) rfl (hb ok.by_ hd) rfl hx hy (XT.aa_ne_t c) ho hj q) (KF c)
theorem W.ifnull (ok : Ok B l Z nar own nm code ml ret R h0 ws fr Q Me) {v : Value} {o : Int} {pcY pcN : Nat} (hd : decode code pc = .ok (.ifnull o, 3)) (hp : pc + 3 = pcN) (hv : v.isRef = true) (ho : 0 ≤ (pc : Int) + o) (hj : ((pc : Int) + o).toNat = pcY) (KT : v = .null → W B h k n M cl pcY L S) (KF : ¬ v = .null → W B h k n M cl pcN L S) : W B h k n M cl pc L (v :: S) := by
  subst hp; by_cases c : v = .null
  · exact W.pure (fun T t hA q => XT.nullYes hA ok.x rfl (pc0 := pc) rfl (hb ok.by_ hd) rfl c ho hj q) (KT c)
  · exact W.pure (fun T t hA q => XT.nullNo hA ok.x rfl (hb ok.by_ hd) rfl hv c q) (KF c)
theorem W.ifnonnull (ok : Ok B l Z nar own nm code ml ret R h0 ws fr Q Me) {v : Value} {o : Int} {pcY pcN : Nat} (hd : decode code pc = .ok (.ifnonnull o, 3)) (hp : pc + 3 = pcN) (hv : v.isRef = true) (ho : 0 ≤ (pc : Int) + o) (hj : ((pc : Int) + o).toNat = pcY) (KT : v = .null → W B h k n M cl pcN L S) (KF : ¬ v = .null → W B h k n M cl pcY L S) : W B h k n M cl pc L (v :: S) := by
  subst hp; by_cases c : v = .null
  · exact W.pure (fun T t hA q => XT.nonnullNo hA ok.x rfl (hb ok.by_ hd) rfl c q) (KT c)
  · exact W.pure (fun T t hA q => XT.nonnullYes hA ok.x rfl (pc0 := pc) rfl (hb ok.by_ hd) rfl hv c ho hj q) (KF c)
end Pure
end Jvm.Pilot.@@N@@.Wk
namespace Jvm.Pilot.@@N@@.Wk
open Jvm Jvm.ClassFile Sem Op Lib Jvm.Free Jvm.Stand Jvm.LawKit Jvm.RoadKit Bundle
/-! ### arrays of int-like things, all components known -/
def ArI (Z : State) (h : Heap) (a : Addr) (ty : FieldType) (cs : List Int32) : Prop := ∃ c : Cell, Arr Z h a c ty ∧ c.slots = (cs.map Value.int).toArray ∧ ∀ x ∈ cs, fits ty (.int x) = true
theorem ArI.ext {Z : State} {h h' : Heap} {a : Addr} {ty : FieldType} {cs : List Int32} (F : ArI Z h a ty cs) (E : Ext h h') : ArI Z h' a ty cs := by obtain ⟨c, A, r⟩ := F; exact ⟨c, A.ext E, r⟩
theorem ArI.keep {Z : State} {h h' : Heap} {a : Addr} {ty : FieldType} {cs : List Int32} {ws : List Addr} (F : ArI Z h a ty cs) (K : Keep h h' ws) (q : a ∉ ws) : ArI Z h' a ty cs := by obtain ⟨c, A, r⟩ := F; exact ⟨c, ⟨K.2.1 a c A.1 q, A.2⟩, r⟩
theorem ArI.kept {Z : State} {h h' : Heap} {a : Addr} {ty : FieldType} {cs : List Int32} {M : List Addr} (F : ArI Z h a ty cs) (K : Kept M h h') (q : a ∉ M) : ArI Z h' a ty cs := by obtain ⟨c, A, r⟩ := F; exact ⟨c, ⟨K.2 a c A.1 q, A.2⟩, r⟩
theorem ArI.other {Z : State} {h h' : Heap} {a b : Addr} {ty : FieldType} {cs : List Int32} {sl : Nat} {v : Value} (F : ArI Z h b ty cs) (W : Wr h h' a sl v) (q : b ≠ a) : ArI Z h' b ty cs := by obtain ⟨c, A, r⟩ := F; exact ⟨c, A.other W q, r⟩
theorem ArI.lt {Z : State} {h : Heap} {a : Addr} {ty : FieldType} {cs : List Int32} (F : ArI Z h a ty cs) : a < h.size := by obtain ⟨c, A, -⟩ := F; exact A.lt
theorem ArI.gt {Z : State} {h : Heap} {a : Addr} {ty : FieldType} {cs : List Int32} (F : ArI Z h a ty cs) : h.size > a := F.lt
theorem gtE {Z : State} {h : Heap} {a : Addr} {C : String} (F : Exa Z h a C) : h.size > a := F.lt
theorem ArI.fit {Z : State} {h : Heap} {a : Addr} {ty : FieldType} {cs : List Int32} (F : ArI Z h a ty cs) : ∀ x ∈ cs, fits ty (.int x) = true := by obtain ⟨c, A, -, r⟩ := F; exact r
theorem ArI.cast {Z : State} {h : Heap} {a : Addr} {ty : FieldType} {cs cs' : List Int32} (F : ArI Z h a ty cs) (e : cs = cs') : ArI Z h a ty cs' := e ▸ F
theorem ArI.new {Z : State} {h : Heap} {a : Addr} {ty : FieldType} {cA : ClassId} {z : Int32} (A : Arr Z h a (newA cA ty z) ty) (hd : defaultValue ty = .int 0) (hf : fits ty (.int 0) = true) : ArI Z h a ty (List.replicate z.toNatClampNeg 0) := by
  refine ⟨_, A, ?_, fun x hx => ?_⟩
  · simp [newA, hd]
  · rw [List.eq_of_mem_replicate hx]; exact hf
theorem ArI.set {Z : State} {h h' : Heap} {a : Addr} {ty : FieldType} {cs : List Int32} {j : Nat} {x : Int32} (F : ArI Z h a ty cs) (W : Wr h h' a j (.int x)) (hx : fits ty (.int x) = true) : ArI Z h' a ty (cs.set j x) := by
  obtain ⟨c, A, e, r⟩ := F
  refine ⟨_, A.same W, ?_, fun y hy => ?_⟩
  · simp only [Cell.setSlot, e]
    apply Array.ext_getElem?
    intro i
    simp [List.map_set]
  · rcases List.mem_or_eq_of_mem_set hy with q | q
    · exact r y q
    · exact q ▸ hx
theorem Fld.kept {Z : State} {h h' : Heap} {a : Addr} {C f d : String} {v : Value} {M : List Addr} (F : Fld Z h a C f d v) (K : Kept M h h') (q : a ∉ M) : Fld Z h' a C f d v := by
  obtain ⟨cell, cf, k, i, f, h1, r⟩ := F; exact ⟨cell, cf, k, i, f, K.2 a cell h1 q, r⟩
theorem Exa.kept {Z : State} {h h' : Heap} {a : Addr} {C : String} {M : List Addr} (F : Exa Z h a C) (K : Kept M h h') (q : a ∉ M) : Exa Z h' a C := by
  obtain ⟨cell, k, h1, r⟩ := F; exact ⟨cell, k, K.2 a cell h1 q, r⟩
theorem ane {a b : Nat} (h : a < b ∨ b < a) : a ≠ b := by omega
theorem nin1 {a b : Nat} (h : a < b ∨ b < a) : a ∉ [b] := by simp; omega
theorem nin2 {a b c : Nat} (h : a < b ∨ b < a) (h2 : a < c ∨ c < a) : a ∉ [b, c] := by simp; omega
theorem ExtT {h h1 h2 : Heap} (E : Ext h h1) (E' : Ext h1 h2) : Ext h h2 := ⟨Nat.le_trans E.1 E'.1, fun a c q => E'.2 a c (E.2 a c q)⟩
theorem ExtK {h h1 h2 : Heap} {ws : List Addr} (E : Ext h h1) (K : Keep h1 h2 ws) (hw : ∀ w ∈ ws, h.size ≤ w) : Ext h h2 :=
  ⟨Nat.le_trans E.1 K.1, fun a c q => K.2.1 a c (E.2 a c q) fun z => absurd (Array.getElem?_eq_some_iff.mp q).1 (Nat.not_lt.mpr (hw a z))⟩
theorem ExtW {h h1 h2 : Heap} {b : Addr} {sl : Nat} {v : Value} (E : Ext h h1) (W : Wr h1 h2 b sl v) (hb : h.size ≤ b) : Ext h h2 := ExtK E (Keep.of_wr W) fun w hw => by cases List.mem_singleton.mp hw; exact hb
theorem ExtR (h : Heap) : Ext h h := ⟨Nat.le_refl _, fun _ _ q => q⟩
theorem Exa.neArI {Z : State} {h : Heap} {a b : Addr} {C : String} {ty : FieldType} {cs : List Int32} {a0 : Array Value} {k : Nat} (E : Exa Z h a C) (w : (Cond.instantiable C k).before a0 Z = true) (A : ArI Z h b ty cs) : a ≠ b := by
  obtain ⟨c, A, -⟩ := A
  exact ne_arr E w A
/-! ### one W-lemma a step that reads or turns the heap -/
section Heap
variable {B : Cx} {l : Launch} {Z : State} {nar : Bool} {own nm : String} {code : ByteArray} {ml : Nat} {ret : Option FieldType} {R : Room} {h0 : Heap} {ws : List Addr} {fr : Bool} {Q : Option Value → Heap → Prop} {Me : List Addr}
variable {h : Heap} {k n : Nat} {M : List Addr} {cl : Cl} {pc pc' : Nat} {L L' : Array Slot} {S S' : List Value} {a0 : Array Value}
theorem W.heap {Φ : Heap → Prop} {k' n' : Nat} {M' : List Addr} {cl' : Cl} (ok : Ok B l Z nar own nm code ml ret R h0 ws fr Q Me)
    (st : ∀ (T : State) (vm0 : Vm) (locs : List Loc), Stand B.p B.l B.e B.R (B.s.setVm vm0) B.m B.args B.below B.meth B.c T locs k n → Z.Warmed39 (B.s.setVm vm0).vm → (B.s.setVm vm0).vm.findClass own = some B.m.cls → T.heap = h → Ext Z.heap h → h0.size ≤ h.size →
      ∃ (T' : State) (locs2 : List Loc), Stand B.p B.l B.e B.R (B.s.setVm vm0) B.m B.args B.below B.meth B.c T' (locs ++ locs2) k' n' ∧ Kept M h T'.heap ∧ (∀ y ∈ locs2, y.base ∈ ws ∨ h0.size ≤ y.base) ∧ (cl'.1 = true → cl.1 = true ∧ ∀ y ∈ locs2, h0.size ≤ y.base) ∧ (∀ x ∈ M', x ∈ M ∨ (h.size ≤ x ∧ x < T'.heap.size)) ∧ Φ T'.heap ∧
        ∀ t, Steps B.p.tables B.e B.below (T'.setTop (mkF B.m pc' L' S')) t → Steps B.p.tables B.e B.below (T.setTop (mkF B.m pc L S)) t)
    (hcs : cl'.2 = cl.2) (K : ∀ h', Φ h' → W B h' k' n' M' cl' pc' L' S') : W B h k n M cl pc L S := by
  intro T P
  obtain ⟨vm0, k0, locs, X, hS, hk0, hnar, hL, hcl, hlt, eT, bg⟩ := P
  have eZ := ok.Z_
  have hsz : h0.size ≤ h.size := by rw [← ok.h_, ← eT]; exact X.same.2.1
  obtain ⟨T', locs2, X', hk, hl2, hc2, hM, hΦ, hst⟩ := st T vm0 locs X (ok.zv hS) (ok.ownv hS) eT (by rw [← eT, ← eZ]; exact bg.2.2.1) hsz
  rw [← eT] at hk hM
  refine Gd.step hst (K _ hΦ T' ⟨vm0, k0, locs ++ locs2, X', hS, Nat.le_trans hk0 hk.1, hnar, fun y hy => ?_, fun hc y hy => ?_, by rw [hcs]; exact hlt, rfl, by rw [eZ] at bg ⊢; exact bg.nextN (ok.zv hS) X X' hk hM⟩)
  · rcases List.mem_append.mp hy with q | q
    · exact hL y q
    · rw [ok.ws_, ok.h_]; exact hl2 y q
  · rcases List.mem_append.mp hy with q | q
    · exact hcl (hc2 hc).1 y q
    · rw [ok.h_]; exact (hc2 hc).2 y q
/-- a step that moves no cell -/
theorem W.still (ok : Ok B l Z nar own nm code ml ret R h0 ws fr Q Me)
    (st : ∀ (T : State) (vm0 : Vm) (locs : List Loc), Stand B.p B.l B.e B.R (B.s.setVm vm0) B.m B.args B.below B.meth B.c T locs k n → Z.Warmed39 (B.s.setVm vm0).vm → (B.s.setVm vm0).vm.findClass own = some B.m.cls → T.heap = h → Ext Z.heap h →
      ∃ (T' : State), Stand B.p B.l B.e B.R (B.s.setVm vm0) B.m B.args B.below B.meth B.c T' locs k n ∧ T'.heap = h ∧ ∀ t, Steps B.p.tables B.e B.below (T'.setTop (mkF B.m pc' L' S')) t → Steps B.p.tables B.e B.below (T.setTop (mkF B.m pc L S)) t)
    (K : W B h k n M cl pc' L' S') : W B h k n M cl pc L S := by
  refine W.heap (Φ := fun h' => h' = h) ok (fun T vm0 locs X hz ho eT hE hsz => ?_) rfl (fun h' e => e ▸ K)
  obtain ⟨T', X', e', hst⟩ := st T vm0 locs X hz ho eT hE
  exact ⟨T', [], by rw [List.append_nil]; exact X', by rw [e']; exact Kept.refl _ _, fun _ q => (nomatch q), fun q => ⟨q, fun _ q => (nomatch q)⟩, fun x q => Or.inl q, e', hst⟩
theorem W.getF (ok : Ok B l Z nar own nm code ml ret R h0 ws fr Q Me) {idx : Nat} {R0 O f d : String} {a : Addr} {v : Value} (w : (Cond.fieldLink own idx R0 f d).before a0 Z = true) (via : Via Z R0 O f d) (F : Fld Z h a O f d v)
    (hd : decode code pc = .ok (.getfield idx, 3)) (hp : pc + 3 = pc') (K : W B h k n M cl pc' L (v :: S)) : W B h k n M cl pc L (.ref a :: S) := by
  subst hp
  refine W.still ok (fun T vm0 locs X hz ho eT _ => ?_) K
  exact RoadKit.getF X ok.x hz ho (host := "") (Or.inl w) via eT F (g := mkF B.m pc L (.ref a :: S)) rfl rfl (hb ok.by_ hd)
theorem W.getS (ok : Ok B l Z nar own nm code ml ret R h0 ws fr Q Me) {idx : Nat} {R0 O f d : String} {v : Value} (w : (Cond.fieldLink own idx R0 f d).before a0 Z = true) (via : Via Z R0 O f d) (F : Sta Z Z.heap O f d v)
    (hd : decode code pc = .ok (.getstatic idx, 3)) (hp : pc + 3 = pc') (K : W B h k n M cl pc' L (v :: S)) : W B h k n M cl pc L S := by
  subst hp
  refine W.still ok (fun T vm0 locs X hz ho eT hE => ?_) K
  exact RoadKit.getS X ok.x hz ho (host := "") w via eT (F.ext hE) (g := mkF B.m pc L S) rfl (hb ok.by_ hd)
theorem W.cast (ok : Ok B l Z nar own nm code ml ret R h0 ws fr Q Me) {idx : Nat} {C : String} {a : Addr} (w : (Cond.classLink own idx C).before a0 Z = true) (F : Ins Z h a C true)
    (hd : decode code pc = .ok (.checkcast idx, 3)) (hp : pc + 3 = pc') (K : W B h k n M cl pc' L (.ref a :: S)) : W B h k n M cl pc L (.ref a :: S) := by
  subst hp
  refine W.still ok (fun T vm0 locs X hz ho eT hE => ?_) K
  exact castY X ok.x hz ho w eT F (g := mkF B.m pc L (.ref a :: S)) rfl rfl (hb ok.by_ hd)
theorem W.instY (ok : Ok B l Z nar own nm code ml ret R h0 ws fr Q Me) {idx : Nat} {C : String} {a : Addr} (w : (Cond.classLink own idx C).before a0 Z = true) (F : Ins Z h a C true)
    (hd : decode code pc = .ok (.instanceof idx, 3)) (hp : pc + 3 = pc') (K : W B h k n M cl pc' L (.int 1 :: S)) : W B h k n M cl pc L (.ref a :: S) := by
  subst hp
  refine W.still ok (fun T vm0 locs X hz ho eT hE => ?_) K
  exact RoadKit.instY X ok.x hz ho w eT F (g := mkF B.m pc L (.ref a :: S)) rfl rfl (hb ok.by_ hd)
theorem W.instNull (ok : Ok B l Z nar own nm code ml ret R h0 ws fr Q Me) {idx : Nat} (hd : decode code pc = .ok (.instanceof idx, 3)) (hp : pc + 3 = pc') (K : W B h k n M cl pc' L (.int 0 :: S)) : W B h k n M cl pc L (.null :: S) := by
  subst hp
  refine W.still ok (fun T vm0 locs X hz ho eT hE => ⟨T, X, eT, fun t q => ?_⟩) K
  exact X.instanceofNull ok.x (g := mkF B.m pc L (.null :: S)) rfl rfl (hb ok.by_ hd) t q
theorem W.arraylength (ok : Ok B l Z nar own nm code ml ret R h0 ws fr Q Me) {a : Addr} {c : Cell} {ty : FieldType} (A : Arr Z h a c ty) (v : Int32) (hv : c.slots.size.toInt32 = v)
    (hd : decode code pc = .ok (.arraylength, 1)) (hp : pc + 1 = pc') (K : W B h k n M cl pc' L (.int v :: S)) : W B h k n M cl pc L (.ref a :: S) := by
  subst hp; subst hv
  refine W.still ok (fun T vm0 locs X hz ho eT hE => ⟨T, X, eT, fun t q => ?_⟩) K
  exact X.arraylength ok.x (by rw [eT]; exact A.1) (State.isArrayOf_alike hz.alike A.2.1) (g := mkF B.m pc L (.ref a :: S)) rfl rfl (hb ok.by_ hd) t q
theorem W.lenI (ok : Ok B l Z nar own nm code ml ret R h0 ws fr Q Me) {a : Addr} {cs : List Int32} {ty : FieldType} (A : ArI Z h a ty cs) (v : Int32) (hv : cs.length.toInt32 = v)
    (hd : decode code pc = .ok (.arraylength, 1)) (hp : pc + 1 = pc') (K : W B h k n M cl pc' L (.int v :: S)) : W B h k n M cl pc L (.ref a :: S) := by
  obtain ⟨c, A, e, -⟩ := A
  exact W.arraylength ok A v (by rw [e]; simpa using hv) hd hp K
theorem inb {c : Cell} {cs : List Int32} {j x : Int32} (e : c.slots = (cs.map Value.int).toArray) (h0 : ¬ j < 0) (hx : cs[j.toNatClampNeg]? = some x) : ¬ (j < 0 ∨ c.slots.size ≤ j.toNatClampNeg) := by
  rintro (q | q)
  · exact h0 q
  · have := (List.getElem?_eq_some_iff.mp hx).1
    rw [e] at q; simp at q; omega
theorem inbL {c : Cell} {cs : List Int32} {j : Int32} (e : c.slots = (cs.map Value.int).toArray) (h0 : ¬ j < 0) (hl : j.toNatClampNeg < cs.length) : ¬ (j < 0 ∨ c.slots.size ≤ j.toNatClampNeg) := by
  rintro (q | q)
  · exact h0 q
  · rw [e] at q; simp at q; omega
theorem W.caload (ok : Ok B l Z nar own nm code ml ret R h0 ws fr Q Me) {a : Addr} {cs : List Int32} {j : Int32} (A : ArI Z h a .char cs) (x : Int32) (hj : ¬ j < 0) (hx : cs[j.toNatClampNeg]? = some x)
    (hd : decode code pc = .ok (.caload, 1)) (hp : pc + 1 = pc') (K : W B h k n M cl pc' L (.int x :: S)) : W B h k n M cl pc L (.int j :: .ref a :: S) := by
  subst hp
  obtain ⟨c, A, e, -⟩ := A
  refine W.still ok (fun T vm0 locs X hz ho eT hE => ⟨T, X, eT, fun t q => ?_⟩) K
  exact X.caload ok.x (j := j) (v := .int x) (by rw [eT]; exact A.1) (State.isArrayOf_alike hz.alike A.2.1) A.2.2 (inb e hj hx) (by rw [e]; simp [hx]) (g := mkF B.m pc L (.int j :: .ref a :: S)) rfl rfl (hb ok.by_ hd) t q
theorem W.baload (ok : Ok B l Z nar own nm code ml ret R h0 ws fr Q Me) {a : Addr} {cs : List Int32} {j : Int32} (A : ArI Z h a .byte cs) (x : Int32) (hj : ¬ j < 0) (hx : cs[j.toNatClampNeg]? = some x)
    (hd : decode code pc = .ok (.baload, 1)) (hp : pc + 1 = pc') (K : W B h k n M cl pc' L (.int x :: S)) : W B h k n M cl pc L (.int j :: .ref a :: S) := by
  subst hp
  obtain ⟨c, A, e, -⟩ := A
  refine W.still ok (fun T vm0 locs X hz ho eT hE => ⟨T, X, eT, fun t q => ?_⟩) K
  exact X.baloadBytes ok.x (j := j) (v := .int x) (by rw [eT]; exact A.1) (State.isArrayOf_alike hz.alike A.2.1) A.2.2 (inb e hj hx) (by rw [e]; simp [hx]) (g := mkF B.m pc L (.int j :: .ref a :: S)) rfl rfl (hb ok.by_ hd) t q
/-- 'new C': the fields at their first values by D -/
theorem W.new (ok : Ok B l Z nar own nm code ml ret R h0 ws fr Q Me) {idx sz : Nat} {C : String} (w : (Cond.classLink own idx C).before a0 Z = true) (wi : (Cond.instantiable C sz).before a0 Z = true) (wz : (Cond.initialized C).before a0 Z = true)
    (hd : decode code pc = .ok (.new idx, 3)) (hp : pc + 3 = pc') (hc : k + 1 ≤ R.cells) (hn : n + sz ≤ R.slots)
    (K : ∀ (a : Addr) (h' : Heap), h0.size ≤ a → h.size = a → Ext h h' → Exa Z h' a C → (∀ {O f d : String} {ty : FieldType}, Laid Z a0 C O f d → parseFieldDescriptor d = some ty → Fld Z h' a O f d (defaultValue ty)) → Unt h' a → W B h' (k + 1) (n + sz) (a :: M) cl pc' L (.ref a :: S)) : W B h k n M cl pc L S := by
  subst hp
  refine W.heap (Φ := fun h' => h0.size ≤ h.size ∧ Ext h h' ∧ Exa Z h' h.size C ∧ (∀ {O f d : String} {ty : FieldType}, Laid Z a0 C O f d → parseFieldDescriptor d = some ty → Fld Z h' h.size O f d (defaultValue ty)) ∧ Unt h' h.size) (k' := k + 1) (n' := n + sz) (M' := h.size :: M) (cl' := cl) (L' := L) (S' := .ref h.size :: S) ok (fun T vm0 locs X hz ho eT hE hsz => ?_) rfl (fun h' ⟨p0, p1, p2, p3, p4⟩ => K _ h' p0 rfl p1 p2 p3 p4)
  have eR := ok.R_
  subst eR
  obtain ⟨T', h', X', e', E', A', D', U', st⟩ := newO X ok.x hz ho w wi wz eT (g := mkF B.m pc L S) rfl (hb ok.by_ hd) hc hn
  subst e'
  exact ⟨T', [], by rw [List.append_nil]; exact X', Kept.ext E', fun _ q => (nomatch q), fun q => ⟨q, fun _ q => (nomatch q)⟩, fun x q => (List.mem_cons.mp q).elim (fun q => Or.inr ⟨Nat.le_of_eq q.symm, q ▸ A'.lt⟩) Or.inl, ⟨hsz, E', A', D', U'⟩, st⟩
theorem W.newarray (ok : Ok B l Z nar own nm code ml ret R h0 ws fr Q Me) {aty : ArrayType} (w : (Cond.arrayClass (newarray.typeOf aty)).before a0 Z = true) {z : Int32} {cap : Nat} (hz0 : ¬ z < 0) (hcap : z.toNatClampNeg ≤ cap) (hb8 : cap * 8 ≤ 536870912)
    (hd : decode code pc = .ok (.newarray aty, 2)) (hp : pc + 2 = pc') (hc : k + 1 ≤ R.cells) (hn : n + cap ≤ R.slots)
    (K : ∀ (a : Addr) (h' : Heap) (cA : ClassId), h0.size ≤ a → h.size = a → Ext h h' → Arr Z h' a (newA cA (newarray.typeOf aty) z) (newarray.typeOf aty) → W B h' (k + 1) (n + cap) (a :: M) cl pc' L (.ref a :: S)) : W B h k n M cl pc L (.int z :: S) := by
  subst hp
  refine W.heap (Φ := fun h' => h0.size ≤ h.size ∧ Ext h h' ∧ ∃ cA, Arr Z h' h.size (newA cA (newarray.typeOf aty) z) (newarray.typeOf aty)) (k' := k + 1) (n' := n + cap) (M' := h.size :: M) (cl' := cl) (L' := L) (S' := .ref h.size :: S) ok (fun T vm0 locs X hz ho eT hE hsz => ?_) rfl (fun h' ⟨p0, p1, cA, p2⟩ => K _ h' cA p0 rfl p1 p2)
  have eR := ok.R_
  subst eR
  obtain ⟨T', h', cA, X', e', E', A', st⟩ := newP X ok.x hz w eT (g := mkF B.m pc L (.int z :: S)) rfl (hb ok.by_ hd) rfl hz0 hcap hb8 hc hn
  subst e'
  exact ⟨T', [], by rw [List.append_nil]; exact X', Kept.ext E', fun _ q => (nomatch q), fun q => ⟨q, fun _ q => (nomatch q)⟩, fun x q => (List.mem_cons.mp q).elim (fun q => Or.inr ⟨Nat.le_of_eq q.symm, q ▸ A'.lt⟩) Or.inl, ⟨hsz, E', cA, A'⟩, st⟩
theorem W.newC (ok : Ok B l Z nar own nm code ml ret R h0 ws fr Q Me) (w : (Cond.arrayClass .char).before a0 Z = true) {z : Int32} {cap : Nat} (hz0 : ¬ z < 0) (hcap : z.toNatClampNeg ≤ cap) (hb8 : cap * 8 ≤ 536870912)
    (hd : decode code pc = .ok (.newarray .char, 2)) (hp : pc + 2 = pc') (hc : k + 1 ≤ R.cells) (hn : n + cap ≤ R.slots)
    (K : ∀ (a : Addr) (h' : Heap), h0.size ≤ a → h.size = a → Ext h h' → ArI Z h' a .char (List.replicate z.toNatClampNeg 0) → W B h' (k + 1) (n + cap) (a :: M) cl pc' L (.ref a :: S)) : W B h k n M cl pc L (.int z :: S) :=
  W.newarray ok (aty := .char) w hz0 hcap hb8 hd hp hc hn fun a h' cA p0 p1 p2 p3 => K a h' p0 p1 p2 (ArI.new p3 rfl rfl)
theorem W.newB (ok : Ok B l Z nar own nm code ml ret R h0 ws fr Q Me) (w : (Cond.arrayClass .byte).before a0 Z = true) {z : Int32} {cap : Nat} (hz0 : ¬ z < 0) (hcap : z.toNatClampNeg ≤ cap) (hb8 : cap * 8 ≤ 536870912)
    (hd : decode code pc = .ok (.newarray .byte, 2)) (hp : pc + 2 = pc') (hc : k + 1 ≤ R.cells) (hn : n + cap ≤ R.slots)
    (K : ∀ (a : Addr) (h' : Heap), h0.size ≤ a → h.size = a → Ext h h' → ArI Z h' a .byte (List.replicate z.toNatClampNeg 0) → W B h' (k + 1) (n + cap) (a :: M) cl pc' L (.ref a :: S)) : W B h k n M cl pc L (.int z :: S) :=
  W.newarray ok (aty := .byte) w hz0 hcap hb8 hd hp hc hn fun a h' cA p0 p1 p2 p3 => K a h' p0 p1 p2 (ArI.new p3 rfl rfl)
/-- a store into an array that is still to be written: hold: cl' says whether old cells are untouched behind it -/
theorem W.castore (ok : Ok B l Z nar own nm code ml ret R h0 ws fr Q Me) {a : Addr} {cs : List Int32} {j x : Int32} {cl' : Cl} (A : ArI Z h a .char cs) (hj : ¬ j < 0) (hl : j.toNatClampNeg < cs.length) (ha : a ∈ M) (hw : a ∈ ws ∨ h0.size ≤ a) (hcl : cl'.1 = true → cl.1 = true ∧ h0.size ≤ a) (hcs : cl'.2 = cl.2)
    (hd : decode code pc = .ok (.castore, 1)) (hp : pc + 1 = pc') (K : ∀ h' : Heap, Wr h h' a j.toNatClampNeg (.int (c16 x)) → ArI Z h' a .char (cs.set j.toNatClampNeg (c16 x)) → W B h' k n M cl' pc' L S) : W B h k n M cl pc L (.int x :: .int j :: .ref a :: S) := by
  subst hp
  refine W.heap (Φ := fun h' => Wr h h' a j.toNatClampNeg (.int (c16 x))) (k' := k) (n' := n) (M' := M) (cl' := cl') (L' := L) (S' := S) ok (fun T vm0 locs X hz ho eT hE hsz => ?_) hcs (fun h' q => K h' q (A.set q (fits_nar_char x)))
  obtain ⟨c, A1, e, r⟩ := A
  obtain ⟨T', h', X', e', W', st⟩ := stC X ok.x hz eT A1 (j := j) (x := x) (inbL e hj hl) (g := mkF B.m pc L (.int x :: .int j :: .ref a :: S)) rfl rfl (hb ok.by_ hd)
  subst e'
  exact ⟨T', _, X', Kept.wr W' ha, fun y hy => by cases List.mem_singleton.mp hy; exact hw, fun q => ⟨(hcl q).1, fun y hy => by cases List.mem_singleton.mp hy; exact (hcl q).2⟩, fun x q => Or.inl q, W', st⟩
theorem W.bastore (ok : Ok B l Z nar own nm code ml ret R h0 ws fr Q Me) {a : Addr} {cs : List Int32} {j x : Int32} {cl' : Cl} (A : ArI Z h a .byte cs) (hj : ¬ j < 0) (hl : j.toNatClampNeg < cs.length) (ha : a ∈ M) (hw : a ∈ ws ∨ h0.size ≤ a) (hcl : cl'.1 = true → cl.1 = true ∧ h0.size ≤ a) (hcs : cl'.2 = cl.2)
    (hd : decode code pc = .ok (.bastore, 1)) (hp : pc + 1 = pc') (K : ∀ h' : Heap, Wr h h' a j.toNatClampNeg (.int (b8 x)) → ArI Z h' a .byte (cs.set j.toNatClampNeg (b8 x)) → W B h' k n M cl' pc' L S) : W B h k n M cl pc L (.int x :: .int j :: .ref a :: S) := by
  subst hp
  refine W.heap (Φ := fun h' => Wr h h' a j.toNatClampNeg (.int (b8 x))) (k' := k) (n' := n) (M' := M) (cl' := cl') (L' := L) (S' := S) ok (fun T vm0 locs X hz ho eT hE hsz => ?_) hcs (fun h' q => K h' q (A.set q (fits_nar_byte x)))
  obtain ⟨c, A1, e, r⟩ := A
  obtain ⟨T', h', X', e', W', st⟩ := stB X ok.x hz eT A1 (j := j) (x := x) (inbL e hj hl) (g := mkF B.m pc L (.int x :: .int j :: .ref a :: S)) rfl rfl (hb ok.by_ hd)
  subst e'
  exact ⟨T', _, X', Kept.wr W' ha, fun y hy => by cases List.mem_singleton.mp hy; exact hw, fun q => ⟨(hcl q).1, fun y hy => by cases List.mem_singleton.mp hy; exact (hcl q).2⟩, fun x q => Or.inl q, W', st⟩
theorem W.putF (ok : Ok B l Z nar own nm code ml ret R h0 ws fr Q Me) {idx kk : Nat} {R0 O f d C : String} {ty : FieldType} {a : Addr} {v v0 : Value} {cl' : Cl} (w : (Cond.fieldLink own idx R0 f d).before a0 Z = true) (via : Via Z R0 O f d) (F : Fld Z h a O f d v0) (E : Exa Z h a C)
    (La : (Cond.lays C O f d).before a0 Z = true ∨ ((Cond.laysFinal C O f d).before a0 Z = true ∧ own = O ∧ nm = "<init>")) (wi : (Cond.instantiable C kk).before a0 Z = true) (hty : parseFieldDescriptor d = some ty) (hnr : narrow ty v = v) (hf : fits ty v = true)
    (ha : a ∈ M) (hw : a ∈ ws ∨ h0.size ≤ a) (hcl : cl'.1 = true → cl.1 = true ∧ h0.size ≤ a) (hcs : cl'.2 = cl.2)
    (hd : decode code pc = .ok (.putfield idx, 3)) (hp : pc + 3 = pc') (K : ∀ h' : Heap, Wr h h' a (RoadKit.slotOf Z O f d) v → W B h' k n M cl' pc' L S) : W B h k n M cl pc L (v :: .ref a :: S) := by
  subst hp
  refine W.heap (Φ := fun h' => Wr h h' a (RoadKit.slotOf Z O f d) v) (k' := k) (n' := n) (M' := M) (cl' := cl') (L' := L) (S' := S) ok (fun T vm0 locs X hz ho eT hE hsz => ?_) hcs (fun h' q => K h' q)
  obtain ⟨T', h', X', e', W', st⟩ := RoadKit.putF X ok.x hz ho (host := "") (Or.inl w) via eT F E (La.imp id fun q => ⟨q.1, q.2.1, ok.nm_.trans q.2.2⟩) wi hty hnr hf (g := mkF B.m pc L (v :: .ref a :: S)) rfl rfl (hb ok.by_ hd)
  subst e'
  exact ⟨T', _, X', Kept.wr W' ha, fun y hy => by cases List.mem_singleton.mp hy; exact hw, fun q => ⟨(hcl q).1, fun y hy => by cases List.mem_singleton.mp hy; exact (hcl q).2⟩, fun x q => Or.inl q, W', st⟩
theorem W.initO (ok : Ok B l Z nar own nm code ml ret R h0 ws fr Q Me) {idx : Nat} {a : Addr} (w1 : (Cond.methodLink own idx Lib.objectInit).before a0 Z = true) (w2 : (Cond.instanceMethod Lib.objectInit).before a0 Z = true) (w3 : (Cond.code Lib.objectInit ⟨#[0xb1]⟩ 1 none).before a0 Z = true)
    (hL : L.size = ml) (hfr : 1 ≤ R.frames) (hlo : (S.map fun v => v.category).sum + 12 ≤ R.locals) (hd : decode code pc = .ok (.invokespecial idx, 3)) (hp : pc + 3 = pc') (K : W B h k n M cl pc' L S) : W B h k n M cl pc L (.ref a :: S) := by
  subst hp
  refine W.still ok (fun T vm0 locs X hz ho eT hE => ?_) K
  have eR := ok.R_
  subst eR
  exact RoadKit.initO X ok.x hz ho w1 w2 w3 eT (g := mkF B.m pc L (.ref a :: S)) rfl (by rw [ok.ml_]; exact hL) rfl (hb ok.by_ hd) hfr (W := (S.map fun v => v.category).sum) (by show 2 * 0 + _ ≤ _; omega) hlo
theorem W.ldcI (ok : Ok B l Z nar own nm code ml ret R h0 ws fr Q Me) {idx : Nat} {v : Int32} (w : (Cond.constant own idx v).before a0 Z = true) (hd : decode code pc = .ok (.ldc idx, 2)) (hp : pc + 2 = pc') (K : W B h k n M cl pc' L (.int v :: S)) : W B h k n M cl pc L S := by
  subst hp
  refine W.still ok (fun T vm0 locs X hz ho eT hE => ⟨T, X, eT, fun t q => ?_⟩) K
  exact X.ldcI ok.x ho (mv hz w) (g := mkF B.m pc L S) rfl (hb ok.by_ hd) q
theorem W.ldc2J (ok : Ok B l Z nar own nm code ml ret R h0 ws fr Q Me) {idx : Nat} {v : Int64} (w : (Cond.constantLong own idx v).before a0 Z = true) (hd : decode code pc = .ok (.ldc2_w idx, 3)) (hp : pc + 3 = pc') (K : W B h k n M cl pc' L (.long v :: S)) : W B h k n M cl pc L S := by
  subst hp
  refine W.still ok (fun T vm0 locs X hz ho eT hE => ⟨T, X, eT, fun t q => ?_⟩) K
  exact X.ldc2J ok.x ho (mv hz w) (g := mkF B.m pc L S) rfl (hb ok.by_ hd) q
/-! ### the end -/
theorem keep_of {p : Program} {l : Launch} {e : Env} {R : Room} {s : State} {m : MethodId} {args : Array Value} {below : List Frame} {meth : Method} {c : Code} {T : State} {locs : List Loc} {k n : Nat} {ws : List Addr}
    (X : Stand p l e R s m args below meth c T locs k n) (hL : ∀ y ∈ locs, y.base ∈ ws ∨ s.heap.size ≤ y.base) : Keep s.heap T.heap ws := by
  refine ⟨X.same.2.1, fun b c hb hn => ?_, fun b c hb => ?_⟩
  · obtain ⟨c', h1, h2, -, h4⟩ := X.same.2.2.2.2.2 b c hb
    have hlt := (Array.getElem?_eq_some_iff.mp hb).1
    have hsl : c'.slots = c.slots := Array.ext_getElem? fun i => h4 i fun hm => (hL _ hm).elim hn fun q => absurd hlt (Nat.not_lt.mpr q)
    have hcc : c' = c := by rw [h2, hsl]
    rw [← hcc]; exact h1
  · obtain ⟨c', h1, h2, h3, -⟩ := X.same.2.2.2.2.2 b c hb
    exact ⟨c', h1, by rw [h2], by rw [h2], h3⟩
theorem W.end_ (ok : Ok B l Z nar own nm code ml ret R h0 ws fr Q Me) {v : Option Value} (hv : ret = none → v = none) (hk : k ≤ R.cells) (hn : n ≤ R.slots) (hM : ∀ x ∈ refs fr v ++ Me, x ∈ M) (hQ : Keep h0 h ws → Q v h)
    (st : ∀ (T : State) (vm0 : Vm) (locs : List Loc) (fs : List Frame), Stand B.p B.l B.e B.R (B.s.setVm vm0) B.m B.args B.below B.meth B.c T locs k n → (∀ (f : JFrame) (acts : List Action), f.method = B.m → f.locked = none → f.entered = [] → (doReturn B.e (T.setTop f) acts v).1 = T.setFrames fs) → Steps B.p.tables B.e B.below (T.setTop (mkF B.m pc L S)) (T.setFrames fs)) : W B h k n M cl pc L S := by
  intro T P
  obtain ⟨vm0, k0, locs, X, hS, hk0, hnar, hL, hcl, hlt, eT, bg⟩ := P
  obtain ⟨fs, hr, hrun, hend, hW⟩ := X.leaveW hS hk0 (v := v) (fun q => hv (ok.ret_ ▸ q)) ok.lk
  have kp : Keep B.s.heap T.heap B.ws := keep_of (s := B.s.setVm vm0) X hL
  refine ⟨_, _, st T vm0 locs fs X hr, hrun, hend, v, locs, rfl, ?_, kp, ?_, hL, ⟨hW.1, hW.2.1, hW.2.2.1, hW.2.2.2.mono (by rw [ok.R_]; exact hk) (by rw [ok.R_]; exact hn)⟩, fun q => ?_⟩
  · rw [ok.Q_]
    show Q v T.heap
    rw [eT]
    rw [ok.h_, ok.ws_, eT] at kp
    exact hQ kp
  · rw [ok.fr_, ok.Me_]
    exact (bg.shrink hM).move (U' := T.setFrames fs) bg.1 rfl (Kept.refl _ _)
  · exact State.WarmedH.trans (t := B.s.setVm vm0) (hnar q) X.warmed
theorem W.retW (ok : Ok B l Z nar own nm code ml ret R h0 ws fr Q Me) {w : Value} {t : FieldType} {i : Instr} (hret : ret = some t) (hd : decode code pc = .ok (i, 1)) (hnw : narrow t w = w)
    (hi : (i = .ireturn ∧ (t = .int ∨ t = .boolean ∨ t = .byte ∨ t = .char ∨ t = .short) ∧ ∃ z, w = .int z) ∨ (i = .lreturn ∧ t = .long ∧ ∃ z, w = .long z) ∨ (i = .dreturn ∧ t = .double ∧ ∃ z, w = .double z) ∨ (i = .freturn ∧ t = .float ∧ ∃ z, w = .float z) ∨ (i = .areturn ∧ t.isReference = true ∧ w.isRef = true))
    (hk : k ≤ R.cells) (hn : n ≤ R.slots) (hM : ∀ x ∈ refs fr (some w) ++ Me, x ∈ M) (hQ : Keep h0 h ws → Q (some w) h) : W B h k n M cl pc L (w :: S) :=
  W.end_ ok (fun q => by rw [hret] at q; cases q) hk hn hM hQ fun T vm0 locs fs X hr => retOut X ok.x (ok.ret_.trans hret) hnw hi (hb ok.by_ hd) hr
theorem W.retI (ok : Ok B l Z nar own nm code ml (some .int) R h0 ws fr Q Me) {z : Int32} (hd : decode code pc = .ok (.ireturn, 1)) (hk : k ≤ R.cells) (hn : n ≤ R.slots) (hM : ∀ x ∈ Me, x ∈ M) (hQ : Keep h0 h ws → Q (some (.int z)) h) : W B h k n M cl pc L (.int z :: S) :=
  W.retW ok rfl hd rfl (Or.inl ⟨rfl, Or.inl rfl, z, rfl⟩) hk hn (by cases fr <;> exact hM) hQ
theorem W.retZ (ok : Ok B l Z nar own nm code ml (some .boolean) R h0 ws fr Q Me) {z : Int32} (hd : decode code pc = .ok (.ireturn, 1)) (hz : z &&& 1 = z) (hk : k ≤ R.cells) (hn : n ≤ R.slots) (hM : ∀ x ∈ Me, x ∈ M) (hQ : Keep h0 h ws → Q (some (.int z)) h) : W B h k n M cl pc L (.int z :: S) :=
  W.retW ok rfl hd (by show Value.int (z &&& 1) = _; rw [hz]) (Or.inl ⟨rfl, Or.inr (Or.inl rfl), z, rfl⟩) hk hn (by cases fr <;> exact hM) hQ
theorem W.retB (ok : Ok B l Z nar own nm code ml (some .byte) R h0 ws fr Q Me) {z : Int32} (hd : decode code pc = .ok (.ireturn, 1)) (hz : b8 z = z) (hk : k ≤ R.cells) (hn : n ≤ R.slots) (hM : ∀ x ∈ Me, x ∈ M) (hQ : Keep h0 h ws → Q (some (.int z)) h) : W B h k n M cl pc L (.int z :: S) :=
  W.retW ok rfl hd (by show Value.int (b8 z) = _; rw [hz]) (Or.inl ⟨rfl, Or.inr (Or.inr (Or.inl rfl)), z, rfl⟩) hk hn (by cases fr <;> exact hM) hQ
theorem W.retC (ok : Ok B l Z nar own nm code ml (some .char) R h0 ws fr Q Me) {z : Int32} (hd : decode code pc = .ok (.ireturn, 1)) (hz : c16 z = z) (hk : k ≤ R.cells) (hn : n ≤ R.slots) (hM : ∀ x ∈ Me, x ∈ M) (hQ : Keep h0 h ws → Q (some (.int z)) h) : W B h k n M cl pc L (.int z :: S) :=
  W.retW ok rfl hd (by show Value.int (c16 z) = _; rw [hz]) (Or.inl ⟨rfl, Or.inr (Or.inr (Or.inr (Or.inl rfl))), z, rfl⟩) hk hn (by cases fr <;> exact hM) hQ
theorem W.retA {t : FieldType} (ok : Ok B l Z nar own nm code ml (some t) R h0 ws fr Q Me) {w : Value} (hd : decode code pc = .ok (.areturn, 1)) (ht : t.isReference = true) (hw : w.isRef = true) (hk : k ≤ R.cells) (hn : n ≤ R.slots) (hM : ∀ x ∈ refs fr (some w) ++ Me, x ∈ M) (hQ : Keep h0 h ws → Q (some w) h) : W B h k n M cl pc L (w :: S) :=
  W.retW ok rfl hd (by cases w <;> simp [Value.isRef] at hw <;> cases t <;> simp [FieldType.isReference] at ht <;> rfl) (Or.inr (Or.inr (Or.inr (Or.inr ⟨rfl, ht, hw⟩)))) hk hn hM hQ
theorem W.retV (ok : Ok B l Z nar own nm code ml none R h0 ws fr Q Me) (hd : decode code pc = .ok (.return_, 1)) (hk : k ≤ R.cells) (hn : n ≤ R.slots) (hM : ∀ x ∈ Me, x ∈ M) (hQ : Keep h0 h ws → Q none h) : W B h k n M cl pc L [] :=
  W.end_ ok (fun _ => rfl) hk hn (by cases fr <;> exact hM) hQ fun T vm0 locs fs X hr => X.returnOut ok.x ok.ret_ (hb ok.by_ hd) hr
end Heap
end Jvm.Pilot.@@N@@.Wk
namespace Jvm.Pilot.@@N@@.Wk
open Jvm Jvm.ClassFile Sem Op Lib Jvm.Free Jvm.Stand Jvm.LawKit Jvm.RoadKit Bundle
/-! ### a method's contract, and how a call spends it -/
def Con (l : Launch) (Z : State) (nar : Bool) (y : MethodName) (bytes : ByteArray) (maxL : Nat) (ret : Option FieldType) (rm : Room) (as' : List Value) (h : Heap) (ws : List Addr) (fr : Bool) (Q : List Addr → Option Value → Heap → Prop) : Prop :=
  ∀ (ws0 : List Jvm.Cond) (M : List Addr), (∀ w ∈ ws, w ∈ M) → MetFree l y (head1 (Jvm.Cond.code y bytes maxL ret :: ws0) rm) (fun a U => a = as'.toArray ∧ U.heap = h ∧ Bg Z M U) (fun _ _ _ _ _ => True)
    (fun _ U o U' => ∃ v Lc, o = .returned v ∧ Q M v U'.heap ∧ Keep h U'.heap ws ∧ Bg Z (refs fr v ++ M) U' ∧ (∀ y ∈ Lc, y.base ∈ ws ∨ h.size ≤ y.base) ∧ ReturnedEndW U o U' Lc rm.cells rm.slots ∧ (nar = true → U.WarmedH U'.vm))
theorem ef_of {m : MethodId} {as' : List Value} {n : Nat} {Ls : Array Slot} (h : Jvm.Sym.laidSlots as' ++ List.replicate (n - (Jvm.Sym.laidSlots as').length) .unset = Ls.toList) : entryFrame m as'.toArray n = mkF m 0 Ls [] := by
  have e : argsToLocals as'.toArray n = Ls := Array.toList_inj.mp (by rw [Jvm.Sym.argsToLocals_toList]; exact h)
  exact (rfl : entryFrame m as'.toArray n = mkF m 0 (argsToLocals as'.toArray n) []).trans (congrArg (fun L => mkF m 0 L []) e)
theorem Con.intro {l : Launch} {Z : State} {nar : Bool} {y : MethodName} {bytes : ByteArray} {maxL : Nat} {ret : Option FieldType} {rm : Room} {as' : List Value} {h : Heap} {ws : List Addr} {fr : Bool} {Q : List Addr → Option Value → Heap → Prop} {L0 : Array Slot}
    (hpl : plainFor y = true) (hef : ∀ m, entryFrame m as'.toArray maxL = mkF m 0 L0 []) (body : ∀ (B : Cx) (M : List Addr), (∀ w ∈ ws, w ∈ M) → Ok B l Z nar y.cls y.name bytes maxL ret rm h ws fr (Q M) M → W B h 0 0 M (true, []) 0 L0 []) : Con l Z nar y bytes maxL ret rm as' h ws fr Q := by
  intro ws0 M hM
  refine MetFree.of_bodySF hpl hisR ?_
  intro p e s m args below meth c s₁ Bd hml hP hK
  obtain ⟨rfl, hh, bg⟩ := hP
  have X : Stand p l e rm s m as'.toArray below meth c s₁ [] 0 0 := Stand.of_body Bd
  obtain ⟨t, o, g1, g2, g3, v, Lc, g4, g5, g6, g7, g8, g9, g10⟩ := body (p, l, e, rm, s, m, as'.toArray, below, meth, c, Z, nar, ws, M, fr, Q M) M hM
    ⟨Bd.exec, Bd.bytes, hml, findClass_of_methodNamed Bd.named, (name_of_methodNamed Bd.named Bd.method).1, Bd.returns, Bd.notSynchronized, bg.1, rfl, rfl, rfl, rfl, rfl, rfl, rfl, rfl, hh⟩ s₁
    ⟨s.vm, s.heap.size, [], by rw [State.setVm_self]; exact X, (State.WarmedH.refl s).since _, by rw [Bd.state]; exact Nat.le_refl _, fun _ => State.WarmedH.refl s, fun _ q => (nomatch q), fun _ _ q => (nomatch q), fun _ q => (nomatch q), by rw [Bd.state]; exact hh, by rw [Bd.state]; exact bg.move bg.1 rfl (Kept.refl _ _)⟩
  refine ⟨t, o, by rw [hef]; exact g1, g2, g3, v, Lc, g4, g5, ?_, g7, ?_, g9, g10⟩
  · rw [← hh]; exact g6
  · rw [← hh]; exact g8
theorem Con.mono {l : Launch} {Z : State} {nar : Bool} {y : MethodName} {bytes : ByteArray} {maxL : Nat} {ret : Option FieldType} {rm : Room} {as' : List Value} {h : Heap} {ws : List Addr} {fr : Bool} {Q Q' : List Addr → Option Value → Heap → Prop}
    (C : Con l Z nar y bytes maxL ret rm as' h ws fr Q) (hq : ∀ M v h', Keep h h' ws → Q M v h' → Q' M v h') : Con l Z nar y bytes maxL ret rm as' h ws fr Q' := by
  intro ws0 M hM p e ha hc hk s m args below hf happ hP hK
  obtain ⟨n, o, g1, g2, g3, v, Lc, g4, g5, g6, g7⟩ := C ws0 M hM p e ha hc hk s m args below hf happ hP hK
  exact ⟨n, o, g1, g2, g3, v, Lc, g4, hq _ _ _ g6 g5, g6, g7⟩
theorem Con.back {l : Launch} {Z : State} {nar : Bool} {y : MethodName} {bytes : ByteArray} {maxL : Nat} {ret : Option FieldType} {rm : Room} {as' : List Value} {h : Heap} {ws : List Addr} {fr : Bool} {Q : List Addr → Option Value → Heap → Prop} {M : List Addr} {a0 : Array Value}
    (C : Con l Z nar y bytes maxL ret rm as' h ws fr Q) (hM : ∀ w ∈ ws, w ∈ M) {p : Program} {e : Env} {below : List Frame} {s : State} {args : Array Value} {R : Room} {len Wd : Nat} (hZ : Z.Warmed39 s.vm)
    (wc : (Jvm.Cond.code y bytes maxL ret).before a0 Z = true) (wz : (Jvm.Cond.initialized y.cls).before a0 Z = true) (hf : rm.frames + 1 ≤ R.frames) (hl : Wd + (maxL + 11) + rm.locals ≤ R.locals) :
    BackS l R p e below s args y len Wd (fun A a => a = as'.toArray ∧ A.U.heap = h ∧ Bg Z M A.U ∧ A.cells + rm.cells ≤ R.cells ∧ A.slots + rm.slots ≤ R.slots)
      (fun A _ v B => ∃ Lc, Q M v B.U.heap ∧ Keep h B.U.heap ws ∧ Bg Z (refs fr v ++ M) B.U ∧ (∀ y ∈ Lc, y.base ∈ ws ∨ h.size ≤ y.base) ∧ B.locs = A.locs ++ Lc ∧ B.cells = A.cells + rm.cells ∧ B.slots = A.slots + rm.slots ∧ (nar = true → A.U.WarmedH B.U.vm)) :=
  BackS.of_freeW (bytes := bytes) (maxL := maxL) (ret := ret) (E := fun _ U o t Lc k n => k = rm.cells ∧ n = rm.slots ∧ ∃ v, o = .returned v ∧ Q M v t.heap ∧ Keep h t.heap ws ∧ Bg Z (refs fr v ++ M) t ∧ (∀ y ∈ Lc, y.base ∈ ws ∨ h.size ≤ y.base) ∧ (nar = true → U.WarmedH t.vm)) (C [] M hM) hf hl
    (fun m meth c A a Y hp => have hU : Z.Warmed39 A.U.vm := wtrans hZ Y.warmed
      ⟨by show (Jvm.Cond.and _ .tt).before a A.U = true; rw [Cond.before_and, mv hU wc]; rfl, mv hU wc, mv hU wz, hp.2.2.2.1, hp.2.2.2.2⟩)
    (fun m meth c A a g mk Y hp => ⟨hp.1, hp.2.1, hp.2.2.1.move (U' := A.U.calling g mk a) hp.2.2.1.1 rfl (Kept.refl _ _)⟩) (fun _ _ _ _ _ _ _ _ _ => trivial)
    (fun _ _ _ _ ⟨v, Lc, h1, h2, h3, h4, h5, h6, h7⟩ => ⟨Lc, _, _, h6, rfl, rfl, v, h1, h2, h3, h4, h5, h7⟩)
    (fun m meth c A a g mk v t Lc k n Y hp _ _ ⟨e1, e2, v', e3, e4, e5, e6, e7, e8⟩ => by
      cases e3; subst e1 e2
      exact ⟨Lc, e4, e5, e6.move (U' := ({ A.U with heap := t.heap, slotsUsed := t.slotsUsed } : State).setVm t.vm) e6.1 rfl (Kept.refl _ _), e7, rfl, rfl, rfl, e8⟩)
section Calls
variable {B : Cx} {l : Launch} {Z : State} {nar : Bool} {own nm : String} {code : ByteArray} {ml : Nat} {ret : Option FieldType} {R : Room} {h0 : Heap} {ws : List Addr} {fr : Bool} {Q : Option Value → Heap → Prop} {Me : List Addr}
variable {h : Heap} {k n : Nat} {M : List Addr} {cl : Cl} {pc pc' : Nat} {L : Array Slot} {S : List Value} {a0 : Array Value}
variable {idx : Nat} {y : MethodName} {bytes : ByteArray} {maxL : Nat} {ret' : Option FieldType} {rm' : Room} {as' rest : List Value} {ws' : List Addr} {fr' : Bool} {Q' : List Addr → Option Value → Heap → Prop} {ps : List FieldType} {r : Option FieldType} {cl' : Cl}
theorem W.call {len : Nat} (ok : Ok B l Z nar own nm code ml ret R h0 ws fr Q Me) (wc : (Jvm.Cond.code y bytes maxL ret').before a0 Z = true) (wz : (Jvm.Cond.initialized y.cls).before a0 Z = true) (C : Con l Z nar y bytes maxL ret' rm' as' h ws' fr' Q')
    (hws : ∀ w ∈ ws', w ∈ M ∧ (w ∈ ws ∨ h0.size ≤ w)) (hcl : cl'.1 = true → cl.1 = true ∧ ∀ w ∈ ws', h0.size ≤ w) (hcs : cl'.2 = cl.2) (hf : rm'.frames + 1 ≤ R.frames) (hlo : (rest.map fun v => v.category).sum + (maxL + 11) + rm'.locals ≤ R.locals) (hcc : k + rm'.cells ≤ R.cells) (hnn : n + rm'.slots ≤ R.slots)
    (core : ∀ (T : State) (vm0 : Vm) (locs : List Loc), Stand B.p B.l B.e B.R (B.s.setVm vm0) B.m B.args B.below B.meth B.c T locs k n → Z.Warmed39 (B.s.setVm vm0).vm → (B.s.setVm vm0).vm.findClass own = some B.m.cls → T.heap = h →
      ∀ {Pre : Pt → Array Value → Prop} {Post : Pt → Array Value → Option Value → Pt → Prop}, BackS B.l B.R B.p B.e B.below (B.s.setVm vm0) B.args y len (rest.map fun v => v.category).sum Pre Post → (∀ vm₁, (B.s.setVm vm0).WarmedH vm₁ → Pre ⟨T.setVm vm₁, locs, k, n⟩ as'.toArray) →
      ∃ (v : Option Value) (vm₁ : Vm) (A : Pt), (B.s.setVm vm0).WarmedH vm₁ ∧ Stand B.p B.l B.e B.R ((B.s.setVm vm0).setVm A.U.vm) B.m B.args B.below B.meth B.c A.U A.locs A.cells A.slots ∧ (B.s.setVm vm0).Since A.U.vm A.U.heap.size ∧ T.heap.size ≤ A.U.heap.size ∧ Post ⟨T.setVm vm₁, locs, k, n⟩ as'.toArray v A ∧
        Steps B.p.tables B.e B.below (T.setTop (mkF B.m pc L S)) (A.U.setTop (mkF B.m pc' L (v.toList ++ rest))))
    (K : ∀ (v : Option Value) (h' : Heap), Q' M v h' → Keep h h' ws' → W B h' (k + rm'.cells) (n + rm'.slots) (refs fr' v ++ M) cl' pc' L (v.toList ++ rest)) : W B h k n M cl pc L S := by
  intro T P
  obtain ⟨vm0, k0, locs, X, hS, hk0, hnar, hL, hc, hlt, eT, bg⟩ := P
  have eZ := ok.Z_
  subst eZ
  have eR := ok.R_
  subst eR
  have el := ok.l_
  subst el
  have hsz : h0.size ≤ h.size := by rw [← ok.h_, ← eT]; exact X.same.2.1
  have hz := ok.zv hS
  have hK := C.back (M := M) (p := B.p) (e := B.e) (below := B.below) (s := B.s.setVm vm0) (args := B.args) (len := len) (fun w hw => (hws w hw).1) hz wc wz hf hlo
  obtain ⟨v, vm1, ⟨T', L', k', n'⟩, hw1, X', hS', hgr, ⟨Lc, q1, q2, q3, q4, q5, q6, q7, q8⟩, st⟩ := core T vm0 locs X hz (ok.ownv hS) eT
    hK (fun vm1 hw => ⟨rfl, eT, bg.move (U' := T.setVm vm1) (wtrans hz hw) (hw.interned_eq.trans X.warmed.interned_eq.symm) (Kept.refl _ _), hcc, hnn⟩)
  dsimp only [Pt.U, Pt.locs, Pt.cells, Pt.slots] at X' hS' hgr q1 q2 q3 q4 q5 q6 q7 q8 st
  subst q5 q6 q7
  obtain ⟨hS2, hZ2⟩ : B.s.Since T'.vm T'.heap.size ∧ True := ⟨hS.trans hS' (Nat.le_trans hk0 hgr), trivial⟩
  refine Gd.step (fun t q => st.trans q) (K v T'.heap q1 q2 T' ⟨T'.vm, T'.heap.size, locs ++ Lc, X', hS2, Nat.le_refl _, fun q => ?_, fun x hx => ?_, fun q x hx => ?_, fun e he => ?_, rfl, q3⟩)
  · exact State.WarmedH.trans (t := T.setVm vm1) (State.WarmedH.trans (t := B.s.setVm vm0) (hnar q) hw1) (q8 (ok.nar_ ▸ q))
  · rcases List.mem_append.mp hx with z | z
    · exact hL x z
    · rw [ok.ws_, ok.h_]
      rcases q4 x z with u | u
      · exact (hws _ u).2
      · exact Or.inr (Nat.le_trans hsz u)
  · rcases List.mem_append.mp hx with z | z
    · exact hc (hcl q).1 x z
    · rw [ok.h_]
      rcases q4 x z with u | u
      · exact (hcl q).2 _ u
      · exact Nat.le_trans hsz u
  · rw [hcs] at he
    obtain ⟨a, ha⟩ := hlt e he
    exact ⟨a, Lit.stays ha hS'.1⟩
abbrev notMH (s : String) : Prop := s ≠ "java/lang/invoke/MethodHandle" ∧ s ≠ "java/lang/invoke/VarHandle"
theorem W.callS (ok : Ok B l Z nar own nm code ml ret R h0 ws fr Q Me) (w1 : (Jvm.Cond.methodLink own idx y).before a0 Z = true) (w2 : (Jvm.Cond.static y).before a0 Z = true) (wz : (Jvm.Cond.initialized y.cls).before a0 Z = true) (wc : (Jvm.Cond.code y bytes maxL ret').before a0 Z = true) (hy : notMH y.cls)
    (hds : parseMethodDescriptor y.desc = some ⟨ps, r⟩) (hlen : as'.length = ps.length) (C : Con l Z nar y bytes maxL ret' rm' as' h ws' fr' Q') (hws : ∀ w ∈ ws', w ∈ M ∧ (w ∈ ws ∨ h0.size ≤ w)) (hcl : cl'.1 = true → cl.1 = true ∧ ∀ w ∈ ws', h0.size ≤ w) (hcs : cl'.2 = cl.2) (hL : L.size = ml)
    (hf : rm'.frames + 1 ≤ R.frames) (hlo : (rest.map fun v => v.category).sum + (maxL + 11) + rm'.locals ≤ R.locals) (hcc : k + rm'.cells ≤ R.cells) (hnn : n + rm'.slots ≤ R.slots) (hd : decode code pc = .ok (.invokestatic idx, 3)) (hp : pc + 3 = pc') (hst : S = as'.reverse ++ rest)
    (K : ∀ (v : Option Value) (h' : Heap), Q' M v h' → Keep h h' ws' → W B h' (k + rm'.cells) (n + rm'.slots) (refs fr' v ++ M) cl' pc' L (v.toList ++ rest)) : W B h k n M cl pc L S := by
  subst hp
  refine W.call (len := 3) ok wc wz C hws hcl hcs hf hlo hcc hnn (fun T vm0 locs X hz ho eT Pre Post hK hpre => ?_) K
  exact callSS X ok.x ho (mv hz w1) (mv hz w2) (mv hz wz) (mv hz wc) hy hK (g := mkF B.m pc L S) rfl (by rw [ok.ml_]; exact hL) (argsL := as') (rest := rest) (lenOf hds hlen) hst (by show 2 * 0 + _ ≤ _; omega) (hb ok.by_ hd) hpre
theorem W.callI (ok : Ok B l Z nar own nm code ml ret R h0 ws fr Q Me) {a : Addr} (hy1 : y.name = "<init>") (w1 : (Jvm.Cond.methodLink own idx y).before a0 Z = true) (w2 : (Jvm.Cond.instanceMethod y).before a0 Z = true) (wz : (Jvm.Cond.initialized y.cls).before a0 Z = true) (wc : (Jvm.Cond.code y bytes maxL none).before a0 Z = true) (hy : notMH y.cls)
    (hds : parseMethodDescriptor y.desc = some ⟨ps, r⟩) (hlen : as'.length = ps.length) (C : Con l Z nar y bytes maxL none rm' (.ref a :: as') h ws' fr' Q') (hws : ∀ w ∈ ws', w ∈ M ∧ (w ∈ ws ∨ h0.size ≤ w)) (hcl : cl'.1 = true → cl.1 = true ∧ ∀ w ∈ ws', h0.size ≤ w) (hcs : cl'.2 = cl.2) (hL : L.size = ml)
    (hf : rm'.frames + 1 ≤ R.frames) (hlo : (rest.map fun v => v.category).sum + (maxL + 11) + rm'.locals ≤ R.locals) (hcc : k + rm'.cells ≤ R.cells) (hnn : n + rm'.slots ≤ R.slots) (hd : decode code pc = .ok (.invokespecial idx, 3)) (hp : pc + 3 = pc') (hst : S = as'.reverse ++ .ref a :: rest)
    (K : ∀ (v : Option Value) (h' : Heap), Q' M v h' → Keep h h' ws' → W B h' (k + rm'.cells) (n + rm'.slots) (refs fr' v ++ M) cl' pc' L (v.toList ++ rest)) : W B h k n M cl pc L S := by
  subst hp
  refine W.call (len := 3) ok wc wz C hws hcl hcs hf hlo hcc hnn (fun T vm0 locs X hz ho eT Pre Post hK hpre => ?_) K
  exact X.specialBackS ok.x hy1 ho (mv hz w1) (mv hz w2) (mv hz wc) hy hK (g := mkF B.m pc L S) rfl (by rw [ok.ml_]; exact hL) (Steps.refl _) (argsL := as') (rest := rest) (lenOf hds hlen) hst (by show 2 * 0 + _ ≤ _; omega) (hb ok.by_ hd) hpre
theorem W.callV (ok : Ok B l Z nar own nm code ml ret R h0 ws fr Q Me) {a : Addr} {C0 : String} (w1 : (Jvm.Cond.methodLink own idx y).before a0 Z = true) (w2 : (Jvm.Cond.declares y).before a0 Z = true) (w3 : (Jvm.Cond.selects C0 y y).before a0 Z = true) (w4 : (Jvm.Cond.instanceMethod y).before a0 Z = true) (wz : (Jvm.Cond.initialized y.cls).before a0 Z = true) (wc : (Jvm.Cond.code y bytes maxL ret').before a0 Z = true) (hy : notMH y.cls)
    (E : Exa Z h a C0) (hds : parseMethodDescriptor y.desc = some ⟨ps, r⟩) (hlen : as'.length = ps.length) (C : Con l Z nar y bytes maxL ret' rm' (.ref a :: as') h ws' fr' Q') (hws : ∀ w ∈ ws', w ∈ M ∧ (w ∈ ws ∨ h0.size ≤ w)) (hcl : cl'.1 = true → cl.1 = true ∧ ∀ w ∈ ws', h0.size ≤ w) (hcs : cl'.2 = cl.2) (hL : L.size = ml)
    (hf : rm'.frames + 1 ≤ R.frames) (hlo : (rest.map fun v => v.category).sum + (maxL + 11) + rm'.locals ≤ R.locals) (hcc : k + rm'.cells ≤ R.cells) (hnn : n + rm'.slots ≤ R.slots) (hd : decode code pc = .ok (.invokevirtual idx, 3)) (hp : pc + 3 = pc') (hst : S = as'.reverse ++ .ref a :: rest)
    (K : ∀ (v : Option Value) (h' : Heap), Q' M v h' → Keep h h' ws' → W B h' (k + rm'.cells) (n + rm'.slots) (refs fr' v ++ M) cl' pc' L (v.toList ++ rest)) : W B h k n M cl pc L S := by
  subst hp
  refine W.call (len := 3) ok wc wz C hws hcl hcs hf hlo hcc hnn (fun T vm0 locs X hz ho eT Pre Post hK hpre => ?_) K
  obtain ⟨cB, kB, q1, q2, q3⟩ := isOf hz eT E
  exact X.virtualBackS ok.x ho (mv hz w1) (mv hz w2) (notFace_of_selects (args := #[]) (mv hz w3)) (mv hz w3) (mv hz w4) hy hK q1 q3 (g := mkF B.m pc L S) rfl (by rw [ok.ml_]; exact hL) (Steps.refl _) (argsL := as') (rest := rest) (lenOf hds hlen) hst (by show 2 * 0 + _ ≤ _; omega) (hb ok.by_ hd) hpre
theorem W.callF (ok : Ok B l Z nar own nm code ml ret R h0 ws fr Q Me) {a : Addr} {C0 : String} {yr : MethodName} {count : Nat} (w1 : (Jvm.Cond.methodLink own idx yr).before a0 Z = true) (w2 : (Jvm.Cond.declares yr).before a0 Z = true) (w5 : (Jvm.Cond.interfaceMethod yr.cls yr.cls yr.name yr.desc).before a0 Z = true) (k5 : ((Jvm.Cond.interfaceMethod yr.cls yr.cls yr.name yr.desc).onTables && (Jvm.Cond.interfaceMethod yr.cls yr.cls yr.name yr.desc).keepsFace) = true) (w3 : (Jvm.Cond.selects C0 yr y).before a0 Z = true) (w4 : (Jvm.Cond.instanceMethod y).before a0 Z = true)
    (w6 : (Jvm.Cond.publicMethod y).before a0 Z = true) (w7 : (Jvm.Cond.unhidden C0 yr.name yr.desc).before a0 Z = true) (w8 : (Jvm.Cond.castable C0 yr.cls).before a0 Z = true) (wz : (Jvm.Cond.initialized y.cls).before a0 Z = true) (wc : (Jvm.Cond.code y bytes maxL ret').before a0 Z = true) (hy : notMH yr.cls)
    (E : Exa Z h a C0) (hds : parseMethodDescriptor yr.desc = some ⟨ps, r⟩) (hlen : as'.length = ps.length) (C : Con l Z nar y bytes maxL ret' rm' (.ref a :: as') h ws' fr' Q') (hws : ∀ w ∈ ws', w ∈ M ∧ (w ∈ ws ∨ h0.size ≤ w)) (hcl : cl'.1 = true → cl.1 = true ∧ ∀ w ∈ ws', h0.size ≤ w) (hcs : cl'.2 = cl.2) (hL : L.size = ml)
    (hf : rm'.frames + 1 ≤ R.frames) (hlo : (rest.map fun v => v.category).sum + (maxL + 11) + rm'.locals ≤ R.locals) (hcc : k + rm'.cells ≤ R.cells) (hnn : n + rm'.slots ≤ R.slots) (hd : decode code pc = .ok (.invokeinterface idx count, 5)) (hp : pc + 5 = pc') (hst : S = as'.reverse ++ .ref a :: rest)
    (K : ∀ (v : Option Value) (h' : Heap), Q' M v h' → Keep h h' ws' → W B h' (k + rm'.cells) (n + rm'.slots) (refs fr' v ++ M) cl' pc' L (v.toList ++ rest)) : W B h k n M cl pc L S := by
  subst hp
  refine W.call (len := 5) ok wc wz C hws hcl hcs hf hlo hcc hnn (fun T vm0 locs X hz ho eT Pre Post hK hpre => ?_) K
  obtain ⟨cB, kB, q1, q2, q3⟩ := isOf hz eT E
  exact X.interfaceBackS ok.x ho (mv hz w1) (mv hz w2) (mv hz w5 k5) (mv hz w3) (mv hz w4) (mv hz w6) (mv hz w7) (mv hz w8) hy hK q1 q2 q3 (g := mkF B.m pc L S) rfl (by rw [ok.ml_]; exact hL) (Steps.refl _) (argsL := as') (rest := rest) (lenOf hds hlen) hst (by show 2 * 0 + _ ≤ _; omega) (hb ok.by_ hd) hpre
theorem W.weaken {k' n' : Nat} {cl' : Cl} (hk : k ≤ k') (hn : n ≤ n') (hcl : cl'.1 = true → cl.1 = true) (hcs : ∀ e ∈ cl'.2, e ∈ cl.2) (K : W B h k' n' M cl' pc L S) : W B h k n M cl pc L S := fun T P => by
  obtain ⟨vm0, k0, locs, X, hS, hk0, hnar, hL, hc, hlt, eT, bg⟩ := P
  exact K T ⟨vm0, k0, locs, X.mono hk hn, hS, hk0, hnar, hL, fun q => hc (hcl q), fun e he => hlt e (hcs e he), eT, bg⟩
theorem W.drop {M' : List Addr} (hM : ∀ x ∈ M', x ∈ M) (K : W B h k n M' cl pc L S) : W B h k n M cl pc L S := fun T P => by
  obtain ⟨vm0, k0, locs, X, hS, hk0, hnar, hL, hc, hlt, eT, bg⟩ := P
  exact K T ⟨vm0, k0, locs, X, hS, hk0, hnar, hL, hc, hlt, eT, bg.shrink hM⟩
/-- what the walk knows of the addresses still to be written -/
theorem W.lt (K : (∀ b ∈ M, h.size > b) → W B h k n M cl pc L S) : W B h k n M cl pc L S := fun T P => by
  obtain ⟨vm0, k0, locs, X, hS, hk0, hnar, hL, hc, hlt, eT, bg⟩ := P
  exact K (fun b hb => by rw [← eT]; exact bg.2.2.2.2 b hb) T ⟨vm0, k0, locs, X, hS, hk0, hnar, hL, hc, hlt, eT, bg⟩
theorem W.old (ok : Ok B l Z nar own nm code ml ret R h0 ws fr Q Me) (K : Ext Z.heap h → h0.size ≤ h.size → W B h k n M cl pc L S) : W B h k n M cl pc L S := fun T P => by
  obtain ⟨vm0, k0, locs, X, hS, hk0, hnar, hL, hc, hlt, eT, bg⟩ := P
  exact K (by rw [← eT, ← ok.Z_]; exact bg.2.2.1) (by rw [← ok.h_, ← eT]; exact X.same.2.1) T ⟨vm0, k0, locs, X, hS, hk0, hnar, hL, hc, hlt, eT, bg⟩
theorem pureK {w : Value} {k' n' : Nat} (K : W B h k' n' M cl pc L (w :: rest)) : ∀ (v : Option Value) (h' : Heap), (v = some w ∧ h' = h) → Keep h h' ws' → W B h' k' n' (refs false v ++ M) cl pc L (v.toList ++ rest) := by
  rintro v h' ⟨rfl, rfl⟩ -
  exact K
theorem pureK0 {k' n' : Nat} (K : W B h k' n' M cl pc L rest) : ∀ (v : Option Value) (h' : Heap), (v = none ∧ h' = h) → Keep h h' ws' → W B h' k' n' (refs false v ++ M) cl pc L (v.toList ++ rest) := by
  rintro v h' ⟨rfl, rfl⟩ -
  exact K
theorem ext_keep {h h' : Heap} (K : Keep h h' []) : Ext h h' := ⟨K.1, fun a c q => K.2.1 a c q fun z => (nomatch z)⟩
end Calls
end Jvm.Pilot.@@N@@.Wk
namespace Jvm.Pilot.@@N@@.Wk
open Jvm Jvm.ClassFile Sem Op Lib Jvm.Free Jvm.Stand Jvm.LawKit Jvm.RoadKit Bundle Jvm.Free.SB Jvm.Free.SBG
/-! ### Strings: nobody writes them, all chars known -/
abbrev ST : String := "java/lang/String"
def wide : List Int32 → List Int32
  | [] => []
  | c :: r => b8 c :: b8 (c >>> ((8 : Int32) &&& 31)) :: wide r
def Cod (cd : Int32) (cs bs : List Int32) : Prop :=
  (cd = 0 ∧ bs = cs.map b8 ∧ ∀ c ∈ cs, 0 ≤ c.toInt ∧ c.toInt ≤ 255) ∨ (cd = 1 ∧ bs = wide cs ∧ (∀ c ∈ cs, 0 ≤ c.toInt ∧ c.toInt ≤ 65535) ∧ ∃ c ∈ cs, 255 < c.toInt)
def StrM (Z : State) (h : Heap) (M : List Addr) (a : Addr) (cs : List Int32) : Prop :=
  ∃ (t : Addr) (cd : Int32) (bs : List Int32), a ∉ M ∧ t ∉ M ∧ Exa Z h a ST ∧ Fld Z h a ST "value" "[B" (.ref t) ∧ Fld Z h a ST "coder" "B" (.int cd) ∧ ArI Z h t .byte bs ∧ Cod cd cs bs
theorem StrM.kept {Z : State} {h h' : Heap} {M : List Addr} {a : Addr} {cs : List Int32} (F : StrM Z h M a cs) (K : Kept M h h') : StrM Z h' M a cs := by
  obtain ⟨t, cd, bs, q1, q2, q3, q4, q5, q6, q7⟩ := F
  exact ⟨t, cd, bs, q1, q2, Exa.kept q3 K q1, Fld.kept q4 K q1, Fld.kept q5 K q1, q6.kept K q2, q7⟩
theorem StrM.ext {Z : State} {h h' : Heap} {M : List Addr} {a : Addr} {cs : List Int32} (F : StrM Z h M a cs) (E : Ext h h') : StrM Z h' M a cs := F.kept (Kept.ext E)
theorem StrM.keep {Z : State} {h h' : Heap} {M ws : List Addr} {a : Addr} {cs : List Int32} (F : StrM Z h M a cs) (K : Keep h h' ws) (hw : ∀ w ∈ ws, w ∈ M) : StrM Z h' M a cs := F.kept (Kept.keep K hw)
theorem StrM.wr {Z : State} {h h' : Heap} {M : List Addr} {a b : Addr} {cs : List Int32} {sl : Nat} {v : Value} (F : StrM Z h M a cs) (W : Wr h h' b sl v) (hb : b ∈ M) : StrM Z h' M a cs := F.kept (Kept.wr W hb)
theorem StrM.mono {Z : State} {h : Heap} {M M' : List Addr} {a : Addr} {cs : List Int32} (F : StrM Z h M a cs) (hM : ∀ b ∈ M', b ∈ M ∨ h.size ≤ b) : StrM Z h M' a cs := by
  obtain ⟨t, cd, bs, q1, q2, q3, q4, q5, q6, q7⟩ := F
  exact ⟨t, cd, bs, fun r => (hM _ r).elim q1 fun z => absurd q3.lt (Nat.not_lt.mpr z), fun r => (hM _ r).elim q2 fun z => absurd q6.lt (Nat.not_lt.mpr z), q3, q4, q5, q6, q7⟩
theorem StrM.cons {Z : State} {h h' : Heap} {M : List Addr} {a b : Addr} {cs : List Int32} (F : StrM Z h M a cs) (hb : h.size = b) (E : Ext h h') : StrM Z h' (b :: M) a cs :=
  (F.mono (M' := b :: M) fun x hx => (List.mem_cons.mp hx).elim (fun q => Or.inr (Nat.le_of_eq (hb.trans q.symm))) Or.inl).ext E
theorem StrM.exa {Z : State} {h : Heap} {M : List Addr} {a : Addr} {cs : List Int32} (F : StrM Z h M a cs) : Exa Z h a ST := by obtain ⟨t, cd, bs, q1, q2, q3, -⟩ := F; exact q3
theorem StrM.lt {Z : State} {h : Heap} {M : List Addr} {a : Addr} {cs : List Int32} (F : StrM Z h M a cs) : a < h.size := F.exa.lt
theorem StrM.gt {Z : State} {h : Heap} {M : List Addr} {a : Addr} {cs : List Int32} (F : StrM Z h M a cs) : h.size > a := F.lt
theorem StrM.nin {Z : State} {h : Heap} {M : List Addr} {a : Addr} {cs : List Int32} (F : StrM Z h M a cs) : a ∉ M := by obtain ⟨t, cd, bs, q1, -⟩ := F; exact q1
def Str (Z : State) (h : Heap) (a : Addr) (cs : List Int32) : Prop :=
  ∃ (t : Addr) (cd : Int32) (bs : List Int32), Exa Z h a ST ∧ Fld Z h a ST "value" "[B" (.ref t) ∧ Fld Z h a ST "coder" "B" (.int cd) ∧ ArI Z h t .byte bs ∧ Cod cd cs bs
theorem StrM.str {Z : State} {h : Heap} {M : List Addr} {a : Addr} {cs : List Int32} (F : StrM Z h M a cs) : Str Z h a cs := by obtain ⟨t, cd, bs, -, -, q⟩ := F; exact ⟨t, cd, bs, q⟩
theorem Str.ext {Z : State} {h h' : Heap} {a : Addr} {cs : List Int32} (F : Str Z h a cs) (E : Ext h h') : Str Z h' a cs := by obtain ⟨t, cd, bs, q1, q2, q3, q4, q5⟩ := F; exact ⟨t, cd, bs, q1.ext E, q2.ext E, q3.ext E, q4.ext E, q5⟩
theorem Str.cast {Z : State} {h : Heap} {a : Addr} {cs cs' : List Int32} (F : Str Z h a cs) (e : cs = cs') : Str Z h a cs' := e ▸ F
theorem Str.exa {Z : State} {h : Heap} {a : Addr} {cs : List Int32} (F : Str Z h a cs) : Exa Z h a ST := by obtain ⟨t, cd, bs, q, -⟩ := F; exact q
theorem StrM.cast {Z : State} {h : Heap} {M : List Addr} {a : Addr} {cs cs' : List Int32} (F : StrM Z h M a cs) (e : cs = cs') : StrM Z h M a cs' := e ▸ F
theorem Cod.rng {cd : Int32} {cs bs : List Int32} (h : Cod cd cs bs) : ∀ c ∈ cs, 0 ≤ c.toInt ∧ c.toInt ≤ 65535 := by
  rcases h with ⟨-, -, h⟩ | ⟨-, -, h, -⟩
  · exact fun c hc => ⟨(h c hc).1, by have := (h c hc).2; omega⟩
  · exact h
theorem StrM.rng {Z : State} {h : Heap} {M : List Addr} {a : Addr} {cs : List Int32} (F : StrM Z h M a cs) : ∀ c ∈ cs, 0 ≤ c.toInt ∧ c.toInt ≤ 65535 := by obtain ⟨t, cd, bs, -, -, -, -, -, -, q⟩ := F; exact q.rng
theorem wide_length : ∀ cs : List Int32, (wide cs).length = 2 * cs.length
  | [] => rfl
  | c :: r => by simp only [wide, List.length_cons, wide_length r]; omega
/-- the chars of a literal -/
def chs (t : String) : List Int32 := t.toList.map fun c => Int32.ofNat c.toNat
theorem b8_byteI : ∀ u : UInt16, u < 256 → b8 (Int32.ofNat u.toNat) = Jvm.Lit.byteI u ∧ 0 ≤ (Int32.ofNat u.toNat).toInt ∧ (Int32.ofNat u.toNat).toInt ≤ 255 := by
  have key : ∀ i : Fin 256, b8 (Int32.ofNat i.val) = Jvm.Lit.byteI (UInt16.ofNat i.val) ∧ 0 ≤ (Int32.ofNat i.val).toInt ∧ (Int32.ofNat i.val).toInt ≤ 255 := by decide +kernel
  intro u hu
  have h256 : u.toNat < 256 := UInt16.lt_iff_toNat_lt.mp hu
  have := key ⟨u.toNat, h256⟩
  simpa using this
theorem StrM.of_sl {Z U : State} {M : List Addr} {a : Addr} {units : Array UInt16} (hal : Z.vm.Alike U.vm) (hlat : units.all (· < 256) = true) (s : SlM M U a units) : StrM Z U.heap M a (units.toList.map fun u => Int32.ofNat u.toNat) := by
  obtain ⟨q, cS, hqa, ⟨⟨s1, s2, s3, ⟨cv, kv, iv, s4, s4'⟩, ⟨cc, kc, ic, s5, s5'⟩, s6, s7, s8, s9, s10, s11, s12, s13, s14, s15, s16⟩, hfS, hcS⟩, ⟨kS, k1, k2, k3⟩, hB, hbyt, n1, n2⟩ := s
  subst hqa
  obtain ⟨kv', z4⟩ := ff_back hal s4
  obtain ⟨kc', z5⟩ := ff_back hal s5
  have hfZ : Z.vm.findClass "java/lang/String" = some q.sC.cls := by rw [← hal.findClass, hcS]; exact hfS
  obtain ⟨kz, hkz, -⟩ := Vm.findClass_spec hfZ
  obtain ⟨kz', hkz', ekz⟩ := hal.2.2 _ _ hkz
  have ekS : kz' = kS := Option.some.inj (hkz'.symm.trans (hcS ▸ k1))
  have hBZ : Z.vm.findClass "[B" = some q.SA.cls := by rw [← hal.findClass]; exact hB
  obtain ⟨kb, hkb, -⟩ := Vm.findClass_spec hBZ
  obtain ⟨kb', hkb', ekb⟩ := hal.2.2 _ _ hkb
  obtain ⟨hst, k9, hk9, comp, hkind9⟩ := s11
  have ek9 : k9 = kb' := Option.some.inj (hk9.symm.trans hkb')
  have hAZ : Z.isArrayOf q.SA .byte := ⟨hst, kb, hkb, comp, by rw [ek9, ekb] at hkind9; exact hkind9⟩
  have hl : ∀ u ∈ units.toList, u < 256 := fun u hu => by
    have := (Array.all_eq_true_iff_forall_mem.mp hlat) u (Array.mem_toList_iff.mp hu)
    simpa using this
  have hsl : q.SA.slots = units.map fun u => Value.int (Jvm.Lit.byteI u) := by rw [hbyt, SBG.stringBytes_lat hlat]; rfl
  refine ⟨q.sd, 0, units.toList.map Jvm.Lit.byteI, n1, n2, ⟨q.sC, kz, s1, hfZ, hkz, s3, fun ho => by rw [k3, ← ekS, ekz]⟩, ⟨q.sC, cv, kv', iv, q.fSV, s1, z4, s6, s2, s3, by rw [← hal.assignable]; exact s4', s8⟩, ⟨q.sC, cc, kc', ic, q.fSC, s1, z5, s7, s2, s3, by rw [← hal.assignable]; exact s5', s9⟩, ⟨q.SA, ⟨s10, hAZ, s12⟩, ?_, fun x hx => ?_⟩, Or.inl ⟨rfl, ?_, fun c hc => ?_⟩⟩
  · rw [hsl]
    apply Array.toList_inj.mp
    simp
  · obtain ⟨u, -, rfl⟩ := List.mem_map.mp hx
    exact SBG.fits_of_int8 _
  · rw [List.map_map]
    exact List.map_congr_left fun u hu => ((b8_byteI u (hl u hu)).1).symm
  · obtain ⟨u, hu, rfl⟩ := List.mem_map.mp hc
    exact (b8_byteI u (hl u hu)).2
theorem chs_of {units : Array UInt16} {text : String} (h : utf16ToString? units = some text) (ht : ∀ c ∈ text.toList, c.toNat < 256) : (units.toList.map fun u => Int32.ofNat u.toNat) = chs text := by
  rw [Jvm.ClassFile.units_of_text h ht, List.map_map]
  refine List.map_congr_left fun c hc => ?_
  have := ht c hc
  simp only [Function.comp]
  congr 1
  simp [Nat.toUInt16]
  omega
/-- an old String of a case is one that nobody writes -/
theorem SlM.of_old {Z U : State} {M : List Addr} {a : Addr} {units : Array UInt16} (s : SlOf Z a units) (b : Bg Z M U) : SlM M U a units := by
  obtain ⟨q, cS, h1, h2, ⟨kS, k1, k2, k3⟩, h4, h5⟩ := s
  have hal := b.1.alike
  obtain ⟨kS', hk', ek⟩ := hal.2.2 _ _ k1
  have g1 := h2.1.1
  have g2 := h2.1.2.2.2.2.2.2.2.2.2.1
  exact ⟨q, cS, h1, h2.carry hal (b.2.2.1.2 _ _ g1) (b.2.2.1.2 _ _ g2), ⟨kS', hk', by rw [ek]; exact k2, by rw [ek]; exact k3⟩, by rw [hal.findClass]; exact h4, h5,
    fun r => absurd (Array.getElem?_eq_some_iff.mp g1).1 (Nat.not_lt.mpr (b.2.2.2.1 _ r)), fun r => absurd (Array.getElem?_eq_some_iff.mp g2).1 (Nat.not_lt.mpr (b.2.2.2.1 _ r))⟩
section Ldc
variable {B : Cx} {l : Launch} {Z : State} {nar : Bool} {own nm : String} {code : ByteArray} {ml : Nat} {ret : Option FieldType} {R : Room} {h0 : Heap} {ws : List Addr} {fr : Bool} {Q : Option Value → Heap → Prop} {Me : List Addr}
variable {h : Heap} {k n : Nat} {M : List Addr} {cl : Cl} {pc pc' : Nat} {L : Array Slot} {S : List Value} {a0 : Array Value}
theorem find_push {A : Array (Array UInt16 × Addr)} {u u' : Array UInt16} {a a' : Addr} (h : (A.push (u', a')).find? (fun p => p.1 == u) = some (u, a)) : A.find? (fun p => p.1 == u) = some (u, a) ∨ (A.find? (fun p => p.1 == u) = none ∧ u' = u ∧ a' = a) := by
  rw [Array.find?_push] at h
  cases hf : A.find? (fun p => p.1 == u) with
  | some x => rw [hf] at h; exact Or.inl (by simpa using h)
  | none =>
    rw [hf] at h
    simp at h
    exact Or.inr ⟨rfl, h.1, h.2⟩
theorem W.ldcS (ok : Ok B l Z nar own nm code ml ret R h0 ws fr Q Me) (hnar : nar = false) {idx : Nat} {text : String} (w : (Jvm.Cond.stringLink own idx text).before a0 Z = true) (wS : ∀ a ∈ Bundle.stringAtoms, a.before a0 Z = true) (hh : Jvm.Lit.constHeld Z own idx) (hcw : Jvm.Lit.compactW.before a0 Z = true)
    (ht : ∀ c ∈ text.toList, c.toNat < 256) (hcl : cl.1 = true ∨ (own, idx) ∈ cl.2) {sz : Nat} (hsz : 4 * text.toList.length ≤ sz) (hbig : sz ≤ 536870912) (hd : decode code pc = .ok (.ldc idx, 2)) (hp : pc + 2 = pc') (hc : k + 2 ≤ R.cells) (hn : n + (sz + 4) ≤ R.slots)
    (K : ∀ (a : Addr) (h' : Heap), Ext h h' → StrM Z h' M a (chs text) → W B h' (k + 2) (n + (sz + 4)) M (cl.1, (own, idx) :: cl.2) pc' L (.ref a :: S)) : W B h k n M cl pc L S := by
  subst hp
  intro T P
  obtain ⟨vm0, k0, locs, X, hS, hk0, hnr, hL, hcl', hlt, eT, bg⟩ := P
  have eZ := ok.Z_
  have eR := ok.R_
  rw [eZ] at bg
  have hz : Z.Warmed39 T.vm := bg.1
  have hal : Z.vm.Alike T.vm := hz.alike
  have X1 : Stand B.p B.l B.e B.R (B.s.setVm T.vm) B.m B.args B.below B.meth B.c T locs k n := X.retabled X.warmed.wide
  have hS1 : B.s.Since T.vm T.heap.size := hS.trans (X.warmed.since _) hk0
  have hown : (B.s.setVm T.vm).vm.findClass own = some B.m.cls := (hS1.1.alike.findClass _ _).trans ok.own_
  have wl : (Jvm.Cond.stringLink own idx text).before B.args (B.s.setVm T.vm) = true := mvS hz w
  obtain ⟨k1, cf, i, units, hk1, hcf, hcp, hu, hnm, htext, hres⟩ := Cond.stringLink_spec hown wl
  have hlat := Jvm.ClassFile.lat_of_text htext ht
  have q2 : k1.cf.bind (namesOf? ·.constantPool idx) = some (.string text) := by rw [hcf]; exact hnm
  have q3 : k1.cf.bind (·.constantPool[idx]?) = some (.string i) := by rw [hcf]; exact hcp
  have q4 : k1.cf.bind (·.constantPool.utf8? i) = some units := by rw [hcf]; simp [ConstantPool.utf8?, hu]
  have wi : (Jvm.Cond.instantiable "java/lang/String" 4).before a0 Z = true := wS _ (by simp [Bundle.stringAtoms, Bundle.sN])
  have wa : (Jvm.Cond.arrayClass .byte).before a0 Z = true := wS _ (by simp [Bundle.stringAtoms])
  have hH : ConstHeldL Z own idx := heldStart hh w ht hcw wa wi
  -- the class's record at the case's start
  have hownZ : Z.vm.findClass own = some B.m.cls := by rw [← hal.findClass]; exact hown
  obtain ⟨kz, cfz, iz, uz, hkz, hcfz, hcpz, huz, hnmz, htextz, hresz⟩ := Cond.stringLink_spec hownZ w
  obtain ⟨kT, hkT, ekT, -, hent, -⟩ := hz.2.2.2 _ _ hkz
  have e1 : kT = k1 := Option.some.inj (hkT.symm.trans hk1)
  subst e1
  have ecf : cfz = cf := by have : kT.cf = kz.cf := by rw [ekT]
                            rw [this, hcfz] at hcf; exact Option.some.inj hcf
  subst ecf
  have ei : iz = i := by have := hcpz.symm.trans hcp; simpa using this
  subst ei
  have eu : uz = units := by have := huz.symm.trans hu; simpa using this
  subst eu
  have held : ∀ a, T.vm.interned.find? (fun p => p.1 == uz) = some (uz, a) → SlM M T a uz ∨ Z.vm.interned.find? (fun p => p.1 == uz) = some (uz, a) := fun a hf => (bg.2.1 uz a hlat hf).symm
  have hownT : T.vm.findClass own = some B.m.cls := hown
  have hkT1 : T.vm.classes[B.m.cls]? = some kT := hk1
  have hltT : ∀ e ∈ cl.2, ∃ a, Lit (B.s.setVm T.vm) e.1 e.2 a := fun e he => by
    obtain ⟨a, ha⟩ := hlt e he
    exact ⟨a, Lit.stays ha X.warmed.wide⟩
  rcases hres with hopen | ⟨a, hres⟩
  · have hcl : cl.1 = true := hcl.elim id fun q => by
      obtain ⟨a, ha⟩ := hltT _ q
      simp [Lit, State.resolvedAt?, hownT, hkT1, hopen] at ha
    cases hf : T.vm.interned.find? (fun p => p.1 == uz) with
    | some pr =>
      obtain ⟨u', a⟩ := pr
      have hu' : u' = uz := by
        have := Array.find?_some hf
        simpa using this
      subst hu'
      have hW : (B.s.setVm T.vm).Warmed39 (T.vm.noted B.m.cls idx (.string a)) := X1.warmed.wide.notedString hk1 (Or.inl hopen) q2 q3 q4 hf
      have X2 := (X1.mono (Nat.le_add_right k 2) (Nat.le_add_right n (sz + 4))).retabled hW
      have sl : SlM M T a u' := by
        rcases held a hf with q | q
        · exact q
        · refine SlM.of_old ?_ bg
          rcases hent idx with e0 | ⟨hop, r, e1, -⟩
          · exact hH _ kz cfz iz u' a hownZ hkz hcfz hcpz huz (Or.inr ⟨e0 ▸ hopen, q⟩)
          · rw [hopen] at e1; simp at e1
      have bg2 : Bg Z M (T.setVm (T.vm.noted B.m.cls idx (.string a))) := bg.move (State.Warmed39.trans (t := B.s.setVm T.vm) hz hW) rfl (Kept.refl _ _)
      have st2 : StrM Z h M a (chs text) := by
        have := StrM.of_sl hal hlat sl
        rw [chs_of htext ht, eT] at this; exact this
      refine Gd.step (U' := (T.setVm (T.vm.noted B.m.cls idx (.string a))).setTop (mkF B.m (pc + 2) L (.ref a :: S))) (fun t q => ?_) (K a h ⟨Nat.le_refl _, fun _ _ q => q⟩ st2 _ ⟨T.vm.noted B.m.cls idx (.string a), T.heap.size, locs, X2, hS1.trans ⟨hW, State.Booked.step (T₂ := T.setVm (T.vm.noted B.m.cls idx (.string a))) (X1.warmed.no_new_pair _) X1.same.2.1 ⟨Nat.le_refl _, Or.inl rfl⟩⟩ (Nat.le_refl _), Nat.le_refl _, fun q => ?_, hL, hcl', fun e he => ?_, eT, by rw [eZ]; exact bg2⟩)
      · have hdd := hb ok.by_ hd
        jvm_step X1.here [ok.x, hdd, ldc.wp_string_found (e := B.e) (s := T) (f := mkF B.m pc L S) X1.here.top hk1 hcf hcp hu hopen hf]
        exact q
      · rw [ok.nar_, hnar] at q; cases q
      · rcases List.mem_cons.mp he with rfl | he
        · refine ⟨a, ?_⟩
          have hf2 : (T.vm.noted B.m.cls idx (.string a)).findClass own = some B.m.cls := (hW.alike.findClass _ _).trans hown
          obtain ⟨kk, hq1, hq2⟩ : ∃ k2 : Class, (T.vm.noted B.m.cls idx (.string a)).classes[B.m.cls]? = some k2 ∧ k2.resolved[idx]? = some (some (.string a)) := ⟨_, Vm.classes_note_self idx (.string a) hkT1, Class.resolved_note_self (.string a) hopen⟩
          simp [Lit, State.resolvedAt?, hf2, hq1, hq2]
        · obtain ⟨b, hb'⟩ := hltT e he
          exact ⟨b, Lit.stays hb' hW⟩
    | none =>
      have hheld : ConstHeldL (B.s.setVm T.vm) own idx := by
        intro c k2 cf2 i2 units2 a hc2 hk2 hcf2 hp2 hu2 hor
        cases hc2.symm.trans hown
        cases hk2.symm.trans hk1
        cases hcf2.symm.trans hcf
        cases hp2.symm.trans hcp
        cases hu2.symm.trans hu
        rcases hor with q | ⟨-, q⟩
        · rw [hopen] at q; simp at q
        · rw [show (B.s.setVm T.vm).vm.interned = T.vm.interned from rfl, hf] at q; cases q
      have hold : ∀ (b : Addr) (c : Cell), (B.s.setVm T.vm).heap[b]? = some c → T.heap[b]? = some c := oldF X1 (fun y hy => hcl' hcl y hy)
      obtain ⟨a, T2, X2, hS2, ⟨k2, hk2, hr2⟩, hkp, hi1, hint, ⟨units2, htext2, hin⟩, st⟩ := X1.ldcColdF hold ok.x (own := own) hown wl (fun d hd => by
        have q := wS d hd
        simp only [Bundle.stringAtoms, List.mem_cons, List.not_mem_nil, or_false] at hd
        rcases hd with rfl | rfl | rfl | rfl | rfl | rfl | rfl
        · exact mv (s := B.s.setVm T.vm) hz q
        · exact mv (s := B.s.setVm T.vm) hz q
        · exact mvA (s := B.s.setVm T.vm) hz q
        · exact mv (s := B.s.setVm T.vm) hz q
        · exact mv (s := B.s.setVm T.vm) hz q
        · exact mv (s := B.s.setVm T.vm) hz q
        · exact mv (s := B.s.setVm T.vm) hz q) hheld (fun us hus => Jvm.ClassFile.lat_of_text hus ht) (g := mkF B.m pc L S) rfl (hb ok.by_ hd) hsz hbig (by rw [eR]; exact hc) (by rw [eR]; exact hn)
      have same : ∀ us : Array UInt16, utf16ToString? us = some text → us = uz := fun us hus => Array.toList_inj.mp (by rw [Jvm.ClassFile.units_of_text hus ht, Jvm.ClassFile.units_of_text htext ht])
      have eu2 := same units2 htext2
      subst eu2
      have hz2 : Z.Warmed39 T2.vm := State.Warmed39.trans (t := B.s.setVm T.vm) hz hS2.1
      -- where the entry points now
      have hfa : T2.vm.interned.find? (fun p => p.1 == units2) = some (units2, a) := by
        obtain ⟨k2', hk2', -, -, ee, -⟩ := hS2.1.2.2.2 _ _ hk1
        cases hk2.symm.trans hk2'
        rcases ee idx with e0 | ⟨-, r, e1, hr | ⟨a3, t3, si, us, rfl, -, z3, z4, z5⟩⟩
        · rw [hr2, hopen] at e0; simp at e0
        · exfalso
          rw [hr2] at e1
          simp only [Option.some.injEq] at e1
          subst e1
          simp [State.rightAt, hk1, hcf, hnm] at hr
        · rw [hr2] at e1
          have ea : a = a3 := by simpa using e1
          subst ea
          rw [q3] at z3
          have : si = iz := by simpa using z3.symm
          subst this
          rw [q4] at z4
          have : us = units2 := by simpa using z4.symm
          subst this
          exact z5
      have hpush : T2.vm.interned = T.vm.interned.push (units2, a) ∧ T.heap.size ≤ a := by
        rcases hint with e0 | ⟨us, a', hus, e0⟩
        · rw [e0, hf] at hfa; cases hfa
        · have := same us hus
          subst this
          rw [e0] at hfa
          rcases find_push hfa with q | ⟨-, -, q⟩
          · rw [hf] at q; cases q
          · subst q
            refine ⟨e0, ?_⟩
            rcases hi1.2 with e2 | ⟨u3, a3, e2, e3, -⟩
            · rw [e0] at e2
              have := congrArg Array.size e2
              simp at this
            · have e4 := e0.symm.trans e2
              have e5 := congrArg Array.back? e4
              simp at e5
              rw [e5.2]; exact e3
      have Kp : Kept M T.heap T2.heap := ⟨hi1.1, fun b c q _ => by rw [hkp b (Array.getElem?_eq_some_iff.mp q).1]; exact q⟩
      have sl : SlM M T2 a units2 := by
        obtain ⟨q, cS, g1, g2, g3, g4, g5, g6⟩ := hin
        rcases g6 with ⟨g6, -⟩ | ⟨g6, g7⟩
        · exfalso
          have := X1.same.2.1
          rw [g1] at g6
          have h3 : (B.s.setVm T.vm).heap.size ≤ T.heap.size := this
          exact absurd g6 (Nat.not_lt.mpr (Nat.le_trans h3 hpush.2))
        · exact ⟨q, cS, g1, g2, g3, g4, g5, fun r => absurd (bg.2.2.2.2 _ r) (Nat.not_lt.mpr g6), fun r => absurd (bg.2.2.2.2 _ r) (Nat.not_lt.mpr g7)⟩
      have hal2 : T.vm.Alike T2.vm := hal.symm.trans hz2.alike
      have bg2 : Bg Z M T2 := by
        refine ⟨hz2, fun us b hl2 hf2 => ?_, ⟨Nat.le_trans bg.2.2.1.1 Kp.1, fun x c q => Kp.2 x c (bg.2.2.1.2 x c q) fun z => absurd (Array.getElem?_eq_some_iff.mp q).1 (Nat.not_lt.mpr (bg.2.2.2.1 x z))⟩, bg.2.2.2.1, fun x z => Nat.lt_of_lt_of_le (bg.2.2.2.2 x z) Kp.1⟩
        rw [hpush.1] at hf2
        rcases find_push hf2 with q | ⟨-, q, q'⟩
        · exact (bg.2.1 us b hl2 q).imp id fun s => s.move hal2 Kp.2
        · subst q q'; exact Or.inr sl
      have st2 : StrM Z T2.heap M a (chs text) := by
        have := StrM.of_sl hz2.alike hlat sl
        rw [chs_of htext ht] at this; exact this
      have E : Ext h T2.heap := by
        rw [← eT]
        exact ⟨hi1.1, fun b c q => by rw [hkp b (Array.getElem?_eq_some_iff.mp q).1]; exact q⟩
      refine Gd.step st (K a T2.heap E st2 T2 ⟨T2.vm, T2.heap.size, locs, X2, hS1.trans hS2 hi1.1, Nat.le_refl _, fun q => ?_, hL, hcl', fun e he => ?_, rfl, by rw [eZ]; exact bg2⟩)
      · rw [ok.nar_, hnar] at q; cases q
      · rcases List.mem_cons.mp he with rfl | he
        · refine ⟨a, ?_⟩
          have hf2 : T2.vm.findClass own = some B.m.cls := (hS2.1.alike.findClass _ _).trans hown
          simp [Lit, State.resolvedAt?, hf2, hk2, hr2]
        · obtain ⟨b, hb'⟩ := hltT e he
          exact ⟨b, Lit.stays hb' hS2.1⟩
  · have Li : Lit (B.s.setVm T.vm) own idx a := by simp [Lit, State.resolvedAt?, hownT, hkT1, hres]
    have sl : SlM M T a uz := by
      rcases hent idx with e0 | ⟨hop, r, e1, hr | ⟨a3, t3, si, us, rfl, -, z3, z4, z5⟩⟩
      · exact SlM.of_old (hH _ kz cfz iz uz a hownZ hkz hcfz hcpz huz (Or.inl (e0 ▸ hres))) bg
      · exfalso
        rw [hres] at e1
        simp only [Option.some.injEq] at e1
        subst e1
        simp [State.rightAt, hkz, hcfz, hnmz] at hr
      · rw [hres] at e1
        have ea : a = a3 := by simpa using e1
        subst ea
        have z3' : cfz.constantPool[idx]? = some (.string si) := by rw [hcfz] at z3; exact z3
        have : si = iz := by have := z3'.symm.trans hcpz; simpa using this
        subst this
        have z4' : us = uz := by rw [hcfz] at z4; simpa [ConstantPool.utf8?, huz] using z4.symm
        subst z4'
        rcases held a z5 with q | q
        · exact q
        · exact SlM.of_old (hH _ kz cfz si us a hownZ hkz hcfz hcpz huz (Or.inr ⟨hop, q⟩)) bg
    have st2 : StrM Z h M a (chs text) := by
      have := StrM.of_sl hal hlat sl
      rw [chs_of htext ht, eT] at this; exact this
    refine Gd.step (ldcAgain X1 ok.x hz hown w Li (g := mkF B.m pc L S) rfl (hb ok.by_ hd)) (K a h ⟨Nat.le_refl _, fun _ _ q => q⟩ st2 T ⟨T.vm, T.heap.size, locs, X1.mono (Nat.le_add_right k 2) (Nat.le_add_right n (sz + 4)), hS1, Nat.le_refl _, fun q => ?_, hL, hcl', fun e he => ?_, eT, by rw [eZ]; exact bg⟩)
    · rw [ok.nar_, hnar] at q; cases q
    · rcases List.mem_cons.mp he with rfl | he
      · exact ⟨a, Li⟩
      · exact hltT e he
end Ldc
end Jvm.Pilot.@@N@@.Wk
namespace Jvm.Pilot.@@N@@.Wk
open Jvm Jvm.ClassFile Sem Op Lib Jvm.Free Jvm.Stand Jvm.LawKit Jvm.RoadKit Bundle
/-! ### numbers -/
theorem c16_rng (x : Int32) : 0 ≤ (c16 x).toInt ∧ (c16 x).toInt ≤ 65535 := by have := c_i2c x; unfold c16; omega
theorem c16_mod (x : Int32) : (c16 x).toInt = x.toInt % 65536 := by have := c_i2c x; unfold c16; omega
theorem c16_of {c : Int32} (h : 0 ≤ c.toInt ∧ c.toInt ≤ 65535) : c16 c = c := Int32.toInt_inj.mp (by have := c16_mod c; omega)
theorem c16_c16 (x : Int32) : c16 (c16 x) = c16 x := c16_of (c16_rng x)
theorem b8_rng (x : Int32) : -128 ≤ (b8 x).toInt ∧ (b8 x).toInt ≤ 127 ∧ ((b8 x).toInt - x.toInt) % 256 = 0 := by have := c_i2b x; unfold b8; omega
theorem b8_of {c : Int32} (h : -128 ≤ c.toInt ∧ c.toInt ≤ 127) : b8 c = c := Int32.toInt_inj.mp (by have := b8_rng c; omega)
theorem b8_b8 (x : Int32) : b8 (b8 x) = b8 x := b8_of (by have := b8_rng x; omega)
theorem and255 (x : Int32) : (x &&& 255).toInt = x.toInt % 256 := c_mask x 255 8 (by decide) (by decide)
theorem b8_and {c : Int32} (h : 0 ≤ c.toInt ∧ c.toInt ≤ 255) : b8 c &&& 255 = c := Int32.toInt_inj.mp (by have := b8_rng c; have := and255 (b8 c); omega)
theorem shr8 (x : Int32) : (x >>> ((8 : Int32) &&& 31)).toInt = x.toInt / 256 := c_ishr x 8 8 (by decide)
theorem shr0 (x : Int32) : x >>> ((0 : Int32) &&& 31) = x := Int32.toInt_inj.mp (by have := c_ishr x 0 0 (by decide); simpa using this)
theorem shr1 (x : Int32) : (x >>> ((1 : Int32) &&& 31)).toInt = x.toInt / 2 := c_ishr x 1 1 (by decide)
theorem shl1 (x : Int32) : ((x <<< ((1 : Int32) &&& 31)).toInt - x.toInt * 2) % 4294967296 = 0 := c_ishl x 1 1 (by decide)
theorem pair {c : Int32} (h : 0 ≤ c.toInt ∧ c.toInt ≤ 65535) : c16 (((b8 c &&& 255) <<< ((0 : Int32) &&& 31)) ||| ((b8 (c >>> ((8 : Int32) &&& 31)) &&& 255) <<< ((8 : Int32) &&& 31))) = c := by
  have e1 := and255 (b8 c)
  have e2 := b8_rng c
  have e3 := and255 (b8 (c >>> ((8 : Int32) &&& 31)))
  have e4 := b8_rng (c >>> ((8 : Int32) &&& 31))
  have e5 := shr8 c
  generalize b8 c &&& 255 = u at *
  generalize b8 (c >>> ((8 : Int32) &&& 31)) &&& 255 = w at *
  have f1 := c_ishl u 0 0 (by decide)
  have f2 := c_ishl w 8 8 (by decide)
  have g1 := rng32 (u <<< ((0 : Int32) &&& 31))
  have g2 := rng32 (w <<< ((8 : Int32) &&& 31))
  generalize u <<< ((0 : Int32) &&& 31) = u' at *
  generalize w <<< ((8 : Int32) &&& 31) = w' at *
  have f3 := c_or' u' w' 8 (by decide) 256 (by decide) (by omega) (by omega) (by omega)
  have f4 := c16_mod (u' ||| w')
  have f5 := rng32 (u' ||| w')
  exact Int32.toInt_inj.mp (by omega)
theorem i32_len {n : Nat} (h : n < 2147483648) : (n.toInt32).toInt = n := len_toInt h
theorem Cod.len {cd : Int32} {cs bs : List Int32} (h : Cod cd cs bs) (hl : cs.length < 1000000) : bs.length.toInt32 >>> (cd &&& 31) = cs.length.toInt32 := by
  rcases h with ⟨rfl, rfl, -⟩ | ⟨rfl, rfl, -⟩
  · rw [shr0, List.length_map]
  · apply Int32.toInt_inj.mp
    rw [shr1, i32_len (by rw [wide_length]; omega), i32_len (by omega), wide_length]; omega
theorem Cod.cd01 {cd : Int32} {cs bs : List Int32} (h : Cod cd cs bs) : b8 cd = cd := by
  rcases h with ⟨rfl, -⟩ | ⟨rfl, -⟩ <;> rfl
theorem nat_i32 {n : Nat} (h : n < 2147483648) : (n.toInt32).toNatClampNeg = n := by
  simp only [Int32.toNatClampNeg, i32_len h]; omega
theorem wide_at : ∀ (cs : List Int32) (i : Nat) (c : Int32), cs[i]? = some c → (wide cs)[2 * i]? = some (b8 c) ∧ (wide cs)[2 * i + 1]? = some (b8 (c >>> ((8 : Int32) &&& 31)))
  | [], i, c, h => by simp at h
  | x :: r, 0, c, h => by simp at h; subst h; simp [wide]
  | x :: r, i + 1, c, h => by
    have := wide_at r i c (by simpa using h)
    have e : 2 * (i + 1) = 2 * i + 1 + 1 := by omega
    rw [e]
    simpa [wide] using this
theorem lt_of_at {cs : List Int32} {i : Nat} {c : Int32} (h : cs[i]? = some c) : i < cs.length := (List.getElem?_eq_some_iff.mp h).1
theorem mem_of_at {cs : List Int32} {i : Nat} {c : Int32} (h : cs[i]? = some c) : c ∈ cs := List.mem_of_getElem? h
theorem neg_iff (x : Int32) : x < 0 ↔ x.toInt < 0 := by rw [Int32.lt_iff_toInt_lt]; rfl
theorem fits_char_rng {x : Int32} (h : fits .char (.int x) = true) : 0 ≤ x.toInt ∧ x.toInt ≤ 65535 := by
  have := rng_char h
  rw [Int32.lt_iff_toInt_lt, Int32.lt_iff_toInt_lt] at this
  have e0 : (0 : Int32).toInt = 0 := rfl
  have e1 : (65535 : Int32).toInt = 65535 := rfl
  omega
theorem i32_succ (i : Nat) : i.toInt32 + 1 = (i + 1).toInt32 := by
  show Int32.ofNat i + 1 = Int32.ofNat (i + 1)
  rw [Int32.ofNat_add]; rfl
theorem fill_step {cs : List Int32} {i m : Nat} {c : Int32} (hc : cs[i]? = some c) : ((cs.take i).map b8 ++ List.replicate (m + 1) 0).set i (b8 c) = (cs.take (i + 1)).map b8 ++ List.replicate m 0 := by
  have hi := lt_of_at hc
  have hl : ((cs.take i).map b8).length = i := by simp; omega
  rw [List.set_append_right _ _ (by omega), hl, Nat.sub_self, List.replicate_succ, List.set_cons_zero, List.take_add_one, hc]
  simp
theorem take_all (cs : List Int32) (i : Nat) (h : i = cs.length) : (cs.take i).map b8 ++ List.replicate 0 0 = cs.map b8 := by simp [h]
theorem wide_app : ∀ (a b : List Int32), wide (a ++ b) = wide a ++ wide b
  | [], b => rfl
  | x :: a, b => by simp [wide, wide_app a b]
theorem wfill_step {cs : List Int32} {i m : Nat} {c : Int32} (hc : cs[i]? = some c) : ((wide (cs.take i) ++ List.replicate (2 * (m + 1)) 0).set (2 * i) (b8 c)).set (2 * i + 1) (b8 (c >>> ((8 : Int32) &&& 31))) = wide (cs.take (i + 1)) ++ List.replicate (2 * m) 0 := by
  have hi := lt_of_at hc
  have hl : (wide (cs.take i)).length = 2 * i := by rw [wide_length, List.length_take]; omega
  have e : 2 * (m + 1) = 2 * m + 1 + 1 := by omega
  rw [List.set_append_right _ _ (by omega), hl, Nat.sub_self, e, List.replicate_succ, List.set_cons_zero, List.set_append_right _ _ (by omega), hl, List.replicate_succ, List.take_add_one, hc, wide_app]
  have e2 : 2 * i + 1 - 2 * i = 1 := by omega
  rw [e2]
  simp [wide]
theorem i32_lt {a b : Nat} (ha : a < 2147483648) (hb : b < 2147483648) : a.toInt32 < b.toInt32 ↔ a < b := by rw [Int32.lt_iff_toInt_lt, i32_len ha, i32_len hb]; omega
theorem i32_inj {a b : Nat} (ha : a < 2147483648) (hb : b < 2147483648) : a.toInt32 = b.toInt32 ↔ a = b := by
  constructor
  · intro q
    have := congrArg Int32.toInt q
    rw [i32_len ha, i32_len hb] at this; omega
  · intro q; rw [q]
theorem i32_nn {a : Nat} (ha : a < 2147483648) : ¬ a.toInt32 < 0 := by rw [neg_iff, i32_len ha]; omega
theorem at_lt {cs : List Int32} {i : Nat} (h : i < cs.length) : ∃ c, cs[i]? = some c := ⟨cs[i], by simp⟩
theorem le255 {c : Int32} (h : c.toInt ≤ 255) : ¬ (255 : Int32) < c := by rw [Int32.lt_iff_toInt_lt]; have : (255 : Int32).toInt = 255 := rfl; omega
theorem gt255 {c : Int32} (h : 255 < c.toInt) : (255 : Int32) < c := by rw [Int32.lt_iff_toInt_lt]; have : (255 : Int32).toInt = 255 := rfl; omega
/-- a list of chars: none, all narrow, or a first wide one -/
theorem three (cs : List Int32) : (∀ c ∈ cs, c.toInt ≤ 255) ∨ ∃ (q : Nat) (cq : Int32), cs[q]? = some cq ∧ 255 < cq.toInt ∧ ∀ (j : Nat) (c : Int32), j < q → cs[j]? = some c → c.toInt ≤ 255 := by
  induction cs with
  | nil => exact Or.inl (fun c hc => by cases hc)
  | cons x r ih =>
    by_cases hx : x.toInt ≤ 255
    · rcases ih with h | ⟨q, cq, h1, h2, h3⟩
      · exact Or.inl (fun c hc => (List.mem_cons.mp hc).elim (fun e => e ▸ hx) (h c))
      · refine Or.inr ⟨q + 1, cq, by simpa using h1, h2, fun j c hj hc => ?_⟩
        cases j with
        | zero => simp at hc; subst hc; exact hx
        | succ j => exact h3 j c (by omega) (by simpa using hc)
    · exact Or.inr ⟨0, x, rfl, by omega, fun j c hj => by omega⟩
theorem i32_of {z : Int32} (h : 0 ≤ z.toInt) : ∃ n : Nat, z = n.toInt32 ∧ (n : Int) = z.toInt :=
  ⟨z.toInt.toNat, Int32.toInt_inj.mp (by rw [i32_len (by have := rng32 z; omega)]; omega), by omega⟩
theorem lowL (d : Int64) : 0 ≤ (c16 (d &&& 255).toInt32).toInt ∧ (c16 (d &&& 255).toInt32).toInt ≤ 255 := by
  have e1 : (d &&& 255).toInt = d.toInt % 256 := c_maskL d 255 8 (by decide) (by decide)
  have e2 := c_l2i (d &&& 255)
  have e3 := c16_mod (d &&& 255).toInt32
  have := rng32 (d &&& 255).toInt32
  omega
theorem lowI (x : Int32) : 0 ≤ (c16 (x &&& 255)).toInt ∧ (c16 (x &&& 255)).toInt ≤ 255 := by
  have e1 := and255 x
  have e3 := c16_mod (x &&& 255)
  omega
theorem maskI (x m : Int32) (k : Nat) (hk : k ≤ 31) (hm : m.toBitVec.toNat = 2 ^ k - 1) : 0 ≤ (x &&& m).toInt ∧ (x &&& m).toInt < (2 ^ k : Nat) := by
  have := c_mask x m k hk hm
  have h2 : (0 : Int) < ((2 ^ k : Nat) : Int) := by exact_mod_cast Nat.two_pow_pos k
  rw [this]
  exact ⟨Int.emod_nonneg _ (by omega), Int.emod_lt_of_pos _ h2⟩
theorem rem_rng {x y : Int32} {d : Int} (hy : y.toInt = d) (hd : 0 < d) (h : 0 ≤ x.toInt) : 0 ≤ (x % y).toInt ∧ (x % y).toInt < d := by
  have := (c_irem x y d hy).1 h
  rw [this]
  exact ⟨Int.emod_nonneg _ (by omega), Int.emod_lt_of_pos _ hd⟩
theorem unb8 : ∀ cs : List Int32, (∀ c ∈ cs, 0 ≤ c.toInt ∧ c.toInt ≤ 255) → (cs.map b8).map (· &&& 255) = cs
  | [], _ => rfl
  | c :: r, h => by
    simp only [List.map_cons]
    rw [b8_and (h c (List.mem_cons_self ..)), unb8 r fun x hx => h x (List.mem_cons_of_mem _ hx)]
def unw : List Int32 → List Int32
  | u :: w :: r => c16 (((u &&& 255) <<< ((0 : Int32) &&& 31)) ||| ((w &&& 255) <<< ((8 : Int32) &&& 31))) :: unw r
  | _ => []
theorem unw_wide : ∀ cs : List Int32, (∀ c ∈ cs, 0 ≤ c.toInt ∧ c.toInt ≤ 65535) → unw (wide cs) = cs
  | [], _ => rfl
  | c :: r, h => by
    simp only [wide, unw]
    rw [pair (h c (List.mem_cons_self ..)), unw_wide r fun x hx => h x (List.mem_cons_of_mem _ hx)]
theorem Cod.inj {cd : Int32} {cs ds bs es : List Int32} (h : Cod cd cs bs) (g : Cod cd ds es) : bs = es ↔ cs = ds := by
  rcases h with ⟨rfl, rfl, h⟩ | ⟨rfl, rfl, h, -⟩ <;> rcases g with ⟨g0, rfl, g⟩ | ⟨g0, rfl, g, -⟩
  · exact ⟨fun e => by rw [← unb8 cs h, ← unb8 ds g, e], fun e => by rw [e]⟩
  · simp at g0
  · simp at g0
  · exact ⟨fun e => by rw [← unw_wide cs h, ← unw_wide ds g, e], fun e => by rw [e]⟩
theorem Cod.apart {cd ce : Int32} {cs ds bs es : List Int32} (h : Cod cd cs bs) (g : Cod ce ds es) (hne : ¬ cd = ce) : ¬ cs = ds := by
  intro e
  subst e
  rcases h with ⟨rfl, -, h⟩ | ⟨rfl, -, -, x, hx, hx2⟩ <;> rcases g with ⟨rfl, -, g⟩ | ⟨rfl, -, -, y, hy, hy2⟩
  · exact hne rfl
  · have := h y hy; omega
  · have := g x hx; omega
  · exact hne rfl
theorem Fld.uniq {Z : State} {h : Heap} {a : Addr} {C f d : String} {v w : Value} (F : Fld Z h a C f d v) (G : Fld Z h a C f d w) : v = w := by
  by_cases q : v = w
  · exact q
  · exact absurd rfl (Fld.ne F G q)
theorem ArI.uniq {Z : State} {h : Heap} {a : Addr} {ty ty' : FieldType} {cs ds : List Int32} (F : ArI Z h a ty cs) (G : ArI Z h a ty' ds) : cs = ds := by
  obtain ⟨c, A, e, -⟩ := F
  obtain ⟨c', A', e', -⟩ := G
  cases A.1.symm.trans A'.1
  have : (cs.map Value.int).toArray = (ds.map Value.int).toArray := e.symm.trans e'
  have := congrArg Array.toList this
  simp at this
  exact (List.map_inj_right (fun x y q => by injection q)).mp this
theorem Str.inj {Z : State} {h : Heap} {a : Addr} {cs ds : List Int32} (F : Str Z h a cs) (G : Str Z h a ds) : cs = ds := by
  obtain ⟨t, cd, bs, -, f2, f3, f4, f5⟩ := F
  obtain ⟨u, ce, es, -, g2, g3, g4, g5⟩ := G
  have e1 := Fld.uniq f2 g2
  have e2 := Fld.uniq f3 g3
  simp only [Value.ref.injEq, Value.int.injEq] at e1 e2
  subst e1 e2
  exact (f5.inj g5).mp (f4.uniq g4)
theorem take_succ_eq {bs es : List Int32} {i : Nat} {x : Int32} (h : bs.take i = es.take i) (h1 : bs[i]? = some x) (h2 : es[i]? = some x) : bs.take (i + 1) = es.take (i + 1) := by
  rw [List.take_add_one, List.take_add_one, h, h1, h2]
theorem eq_int_v {args : Array Value} {s : State} {t : Term} {v : Int32} (h : (Jvm.Cond.eq t (.int v)).value args s none s [] = some true) : t.eval args s none [] s = some (.int v) := by
  simp only [Cond.value, Term.eval] at h
  cases ht : t.eval args s none [] s with
  | none => simp [ht] at h
  | some x => cases x <;> simp [ht] at h ⊢; exact h
theorem ushr31_zero : b8 (XT.ushr (0 : Int32) (31 : Int32)) = 0 := by decide +kernel
theorem ushr_len {n : Nat} (h0 : 0 < n) (h : n < 1000000) : b8 (XT.ushr (n.toInt32 - (2 * n).toInt32) (31 : Int32)) = 1 := by
  have e1 := c_isub n.toInt32 (2 * n).toInt32
  rw [i32_len (by omega), i32_len (by omega)] at e1
  have r := rng32 (n.toInt32 - (2 * n).toInt32)
  have e2 := c_iushr (n.toInt32 - (2 * n).toInt32) 31 31 (by decide) (by decide)
  have e3 : XT.ushr (n.toInt32 - (2 * n).toInt32) 31 = 1 := Int32.toInt_inj.mp (by
    have : (1 : Int32).toInt = 1 := rfl
    unfold XT.ushr
    rw [e2]; omega)
  rw [e3]; rfl
end Jvm.Pilot.@@N@@.Wk
namespace Jvm.Pilot.@@N@@.Wk
open Jvm Jvm.ClassFile Sem Op Lib Jvm.Free Jvm.Stand Jvm.LawKit Jvm.RoadKit Bundle
/-! ### arrays of references; what a case tells of its own objects -/
def ArR (Z : State) (h : Heap) (a : Addr) (ty : FieldType) (vs : List Value) : Prop := ∃ c : Cell, Arr Z h a c ty ∧ c.slots = vs.toArray
theorem ArR.ext {Z : State} {h h' : Heap} {a : Addr} {ty : FieldType} {vs : List Value} (F : ArR Z h a ty vs) (E : Ext h h') : ArR Z h' a ty vs := by obtain ⟨c, A, r⟩ := F; exact ⟨c, A.ext E, r⟩
theorem ArR.keep {Z : State} {h h' : Heap} {a : Addr} {ty : FieldType} {vs : List Value} {ws : List Addr} (F : ArR Z h a ty vs) (K : Keep h h' ws) (q : a ∉ ws) : ArR Z h' a ty vs := by obtain ⟨c, A, r⟩ := F; exact ⟨c, ⟨K.2.1 a c A.1 q, A.2⟩, r⟩
theorem ArR.other {Z : State} {h h' : Heap} {a b : Addr} {ty : FieldType} {vs : List Value} {sl : Nat} {v : Value} (F : ArR Z h b ty vs) (W : Wr h h' a sl v) (q : b ≠ a) : ArR Z h' b ty vs := by obtain ⟨c, A, r⟩ := F; exact ⟨c, A.other W q, r⟩
theorem ArR.gt {Z : State} {h : Heap} {a : Addr} {ty : FieldType} {vs : List Value} (F : ArR Z h a ty vs) : h.size > a := by obtain ⟨c, A, -⟩ := F; exact A.lt
theorem ArR.cast {Z : State} {h : Heap} {a : Addr} {ty : FieldType} {vs vs' : List Value} (F : ArR Z h a ty vs) (e : vs = vs') : ArR Z h a ty vs' := e ▸ F
theorem slots_eq {cl : Cell} {vs : List Value} (hs : cl.slots.size = vs.length) (H : HasL cl 0 vs) : cl.slots = vs.toArray := by
  apply Array.ext_getElem?
  intro i
  by_cases h : i < vs.length
  · have := HasL.at (dv := .null) vs 0 H i h
    rw [Nat.zero_add] at this
    rw [this]; simp [h]
  · rw [Array.getElem?_eq_none (by omega)]; simp; omega
theorem size_of {Z : State} {args : Array Value} {t : Term} {a : Addr} {cl : Cell} {ty : FieldType} {n : Int32} {m : Nat} (ev : t.eval args Z none [] Z = some (.ref a)) (A : Arr Z Z.heap a cl ty) (hl : (Term.length t).eval args Z none [] Z = some (.int n)) (hm : m.toInt32 = n) (hs : m < 1000) : cl.slots.size = m := by
  have h1 : Z.arrayAt? a = some cl := Arr.fin (Vm.Alike.refl _) A
  simp [Term.eval, ev, h1] at hl
  obtain ⟨q1, q2⟩ := hl
  exact (i32_inj (by omega) (by omega)).mp (q2.trans hm.symm)
theorem ArI.ofHas {Z : State} {a : Addr} {cl : Cell} {ty : FieldType} {cs : List Int32} (hf : Fit Z) (A : Arr Z Z.heap a cl ty) (hs : cl.slots.size = cs.length) (hb : cs.length < 1000) (H : HasL cl 0 (cs.map Value.int)) : ArI Z Z.heap a ty cs := by
  refine ⟨cl, A, slots_eq (by simpa using hs) H, fun x hx => ?_⟩
  obtain ⟨i, hi⟩ := List.getElem?_of_mem hx
  have li := lt_of_at hi
  have e : cl.slots = (cs.map Value.int).toArray := slots_eq (by simpa using hs) H
  refine elem_fits (j := i.toInt32) hf A (by rintro (q | q); exact i32_nn (by omega) q; rw [nat_i32 (by omega)] at q; omega) ?_
  rw [nat_i32 (by omega), e]; simp [hi]
theorem eq_ref_v {args : Array Value} {s : State} {t u : Term} {r : Addr} (h : (Jvm.Cond.eq t u).value args s none s [] = some true) (hu : u.eval args s none [] s = some (.ref r)) : t.eval args s none [] s = some (.ref r) := by
  simp only [Cond.value, hu] at h
  cases ht : t.eval args s none [] s with
  | none => simp [ht] at h
  | some x => cases x <;> simp [ht] at h ⊢; exact h
section Heap
variable {B : Cx} {l : Launch} {Z : State} {nar : Bool} {own nm : String} {code : ByteArray} {ml : Nat} {ret : Option FieldType} {R : Room} {h0 : Heap} {ws : List Addr} {fr : Bool} {Q : Option Value → Heap → Prop} {Me : List Addr}
variable {h : Heap} {k n : Nat} {M : List Addr} {cl : Cl} {pc pc' : Nat} {L L' : Array Slot} {S S' : List Value} {a0 : Array Value}
theorem W.lenR (ok : Ok B l Z nar own nm code ml ret R h0 ws fr Q Me) {a : Addr} {vs : List Value} {ty : FieldType} (A : ArR Z h a ty vs) (v : Int32) (hv : vs.length.toInt32 = v)
    (hd : decode code pc = .ok (.arraylength, 1)) (hp : pc + 1 = pc') (K : W B h k n M cl pc' L (.int v :: S)) : W B h k n M cl pc L (.ref a :: S) := by
  obtain ⟨c, A, e⟩ := A
  exact W.arraylength ok A v (by rw [e]; simpa using hv) hd hp K
theorem W.aaload (ok : Ok B l Z nar own nm code ml ret R h0 ws fr Q Me) {a : Addr} {vs : List Value} {ty : FieldType} {j : Int32} (A : ArR Z h a ty vs) (hty : ty.isReference = true) (x : Value) (hj : ¬ j < 0) (hx : vs[j.toNatClampNeg]? = some x)
    (hd : decode code pc = .ok (.aaload, 1)) (hp : pc + 1 = pc') (K : W B h k n M cl pc' L (x :: S)) : W B h k n M cl pc L (.int j :: .ref a :: S) := by
  subst hp
  obtain ⟨c, A, e⟩ := A
  have hin : ¬ (j < 0 ∨ c.slots.size ≤ j.toNatClampNeg) := by
    rintro (q | q)
    · exact hj q
    · have := (List.getElem?_eq_some_iff.mp hx).1
      rw [e] at q; simp at q; omega
  refine W.still ok (fun T vm0 locs X hz ho eT hE => ⟨T, X, eT, fun t q => ?_⟩) K
  exact X.aaload ok.x (j := j) (v := x) (by rw [eT]; exact A.1) (State.isArrayOf_alike hz.alike A.2.1) hty A.2.2 hin (by rw [e]; simpa using hx) (g := mkF B.m pc L (.int j :: .ref a :: S)) rfl rfl (hb ok.by_ hd) t q
theorem W.clone (ok : Ok B l Z nar own nm code ml ret R h0 ws fr Q Me) {idx cap : Nat} {ad : String} {a : Addr} {c : Cell} {ty : FieldType} {vs : List Value} (w1 : (Jvm.Cond.methodLink own idx ⟨ad, "clone", "()Ljava/lang/Object;"⟩).before a0 Z = true) (w2 : (Jvm.Cond.sameMethod ad "java/lang/Object" "clone" "()Ljava/lang/Object;").before a0 Z = true) (w3 : (Jvm.Cond.native ⟨"java/lang/Object", "clone", "()Ljava/lang/Object;"⟩).before a0 Z = true)
    (w4 : (Jvm.Cond.instanceMethod ⟨"java/lang/Object", "clone", "()Ljava/lang/Object;"⟩).before a0 Z = true) (w5 : (Jvm.Cond.selects ad ⟨ad, "clone", "()Ljava/lang/Object;"⟩ ⟨"java/lang/Object", "clone", "()Ljava/lang/Object;"⟩).before a0 Z = true) (w6 : (Jvm.Cond.castable ad "java/lang/Cloneable").before a0 Z = true)
    (A : Arr Z h a c ty) (hs : c.slots = vs.toArray) (E : Exa Z h a ad) (F : FitC Z c) (hL : L.size = ml) (hfr : 1 ≤ R.frames) (hlo : (S.map fun v => v.category).sum + 14 ≤ R.locals) (hcap : vs.length ≤ cap) (hc : k + 1 ≤ R.cells) (hn : n + cap ≤ R.slots)
    (hd : decode code pc = .ok (.invokevirtual idx, 3)) (hp : pc + 3 = pc') (K : ∀ (d : Addr) (h' : Heap), h0.size ≤ d → h.size = d → Ext h h' → ArR Z h' d ty vs → Exa Z h' d ad → W B h' (k + 1) (n + cap) (d :: M) cl pc' L (.ref d :: S)) : W B h k n M cl pc L (.ref a :: S) := by
  subst hp
  refine W.heap (Φ := fun h' => h0.size ≤ h.size ∧ Ext h h' ∧ ArR Z h' h.size ty vs ∧ Exa Z h' h.size ad) (k' := k + 1) (n' := n + cap) (M' := h.size :: M) (cl' := cl) (L' := L) (S' := .ref h.size :: S) ok (fun T vm0 locs X hz ho eT hE hsz => ?_) rfl (fun h' ⟨p0, p1, p2, p3⟩ => K _ h' p0 rfl p1 p2 p3)
  have eR := ok.R_
  subst eR
  obtain ⟨T', h', X', e', E', A', Ex, st⟩ := cloneA X ok.x hz ho w1 w2 w3 w4 w5 w6 eT A E F (g := mkF B.m pc L (.ref a :: S)) rfl (by rw [ok.ml_]; exact hL) rfl (hb ok.by_ hd) hfr (W := (S.map fun v => v.category).sum) (by show 2 * 0 + _ ≤ _; omega) hlo (by rw [hs]; simpa using hcap) hc hn
  subst e'
  exact ⟨T', [], by rw [List.append_nil]; exact X', Kept.ext E', fun _ q => (nomatch q), fun q => ⟨q, fun _ q => (nomatch q)⟩, fun x q => (List.mem_cons.mp q).elim (fun q => Or.inr ⟨Nat.le_of_eq q.symm, q ▸ A'.lt⟩) Or.inl, ⟨hsz, E', ⟨_, A', hs⟩, Ex⟩, st⟩
end Heap
end Jvm.Pilot.@@N@@.Wk
namespace Jvm.Pilot.@@N@@
open Jvm Jvm.ClassFile Sem Op Lib Jvm.Free Jvm.Stand Jvm.LawKit Jvm.RoadKit Bundle Jvm.Pilot.@@N@@.Jvm.D Jvm.Pilot.@@N@@.Wk
def KMs (Z : State) (va ra rb sa sb : Addr) (cl : Cell) : Prop := (Sta Z Z.heap "com/example/inkan/inkan/jose/KeyManagementAlgorithm" "$VALUES" "[Lcom/example/inkan/inkan/jose/KeyManagementAlgorithm;" (.ref va) ∧ Arr Z Z.heap va cl (.object "com/example/inkan/inkan/jose/KeyManagementAlgorithm") ∧ cl.slots = ([.ref ra, .ref rb] : List Value).toArray ∧ Exa Z Z.heap va "[Lcom/example/inkan/inkan/jose/KeyManagementAlgorithm;" ∧ FitC Z cl ∧ Sta Z Z.heap "com/example/inkan/inkan/jose/KeyManagementAlgorithm" "RSA_OAEP" "Lcom/example/inkan/inkan/jose/KeyManagementAlgorithm;" (.ref ra) ∧ Sta Z Z.heap "com/example/inkan/inkan/jose/KeyManagementAlgorithm" "RSA_OAEP_256" "Lcom/example/inkan/inkan/jose/KeyManagementAlgorithm;" (.ref rb) ∧ Exa Z Z.heap ra "com/example/inkan/inkan/jose/KeyManagementAlgorithm" ∧ Exa Z Z.heap rb "com/example/inkan/inkan/jose/KeyManagementAlgorithm" ∧ Fld Z Z.heap ra "com/example/inkan/inkan/jose/KeyManagementAlgorithm" "alg" "Ljava/lang/String;" (.ref sa) ∧ Fld Z Z.heap rb "com/example/inkan/inkan/jose/KeyManagementAlgorithm" "alg" "Ljava/lang/String;" (.ref sb) ∧ Str Z Z.heap sa [82, 83, 65, 45, 79, 65, 69, 80] ∧ Str Z Z.heap sb [82, 83, 65, 45, 79, 65, 69, 80, 45, 50, 53, 54])
def Ev (Z : State) (a0 : Array Value) : Prop := (∀ d ∈ tables_1, d.before a0 Z = true) ∧ (∃ g : Int32, ¬ g = 0 ∧ Sta Z Z.heap "java/lang/String" "COMPACT_STRINGS" "Z" (.int g)) ∧ (∃ g : Value, g.isRef = true ∧ Sta Z Z.heap "jdk/internal/util/Preconditions" "SIOOBE_FORMATTER" "Ljava/util/function/BiFunction;" g) ∧ (∀ q ∈ consts_1, Jvm.Lit.constHeld Z q.1 q.2) ∧ (Jvm.Lit.compactW.before a0 Z = true) ∧ (∃ (va ra rb sa sb : Addr) (cl : Cell), KMs Z va ra rb sa sb cl) ∧ (∃ eo : Addr, Sta Z Z.heap "java/util/Optional" "EMPTY" "Ljava/util/Optional;" (.ref eo) ∧ Exa Z Z.heap eo "java/util/Optional" ∧ Fld Z Z.heap eo "java/util/Optional" "value" "Ljava/lang/Object;" .null)
theorem Ev.compact {Z : State} {a0 : Array Value} (h : Ev Z a0) : (∃ g : Int32, ¬ g = 0 ∧ Sta Z Z.heap "java/lang/String" "COMPACT_STRINGS" "Z" (.int g)) := h.2.1
theorem Ev.fmt {Z : State} {a0 : Array Value} (h : Ev Z a0) : (∃ g : Value, g.isRef = true ∧ Sta Z Z.heap "jdk/internal/util/Preconditions" "SIOOBE_FORMATTER" "Ljava/util/function/BiFunction;" g) := h.2.2.1
theorem Ev.held {Z : State} {a0 : Array Value} (h : Ev Z a0) : (∀ q ∈ consts_1, Jvm.Lit.constHeld Z q.1 q.2) := h.2.2.2.1
theorem Ev.cw {Z : State} {a0 : Array Value} (h : Ev Z a0) : (Jvm.Lit.compactW.before a0 Z = true) := h.2.2.2.2.1
theorem Ev.kma {Z : State} {a0 : Array Value} (h : Ev Z a0) : (∃ (va ra rb sa sb : Addr) (cl : Cell), KMs Z va ra rb sa sb cl) := h.2.2.2.2.2.1
theorem Ev.opt {Z : State} {a0 : Array Value} (h : Ev Z a0) : (∃ eo : Addr, Sta Z Z.heap "java/util/Optional" "EMPTY" "Ljava/util/Optional;" (.ref eo) ∧ Exa Z Z.heap eo "java/util/Optional" ∧ Fld Z Z.heap eo "java/util/Optional" "value" "Ljava/lang/Object;" .null) := h.2.2.2.2.2.2
theorem w0 {Z : State} {a0 : Array Value} (hw : ∀ d ∈ tables_1, d.before a0 Z = true) : ((Jvm.Cond.arrayClass Jvm.ClassFile.FieldType.char)).before a0 Z = true := hw _ (List.mem_of_getElem? (i := 0) rfl)
theorem w1 {Z : State} {a0 : Array Value} (hw : ∀ d ∈ tables_1, d.before a0 Z = true) : ((Jvm.Cond.methodLink "com/example/inkan/inkan/jose/KeyManagementAlgorithmNamedPinLaw" (7 : Nat) ({ cls := "com/example/inkan/inkan/jose/KeyManagementAlgorithmNamedPinLaw", name := "pick", desc := "(ICII)C" } : Jvm.MethodName))).before a0 Z = true := hw _ (List.mem_of_getElem? (i := 1) rfl)
theorem w2 {Z : State} {a0 : Array Value} (hw : ∀ d ∈ tables_1, d.before a0 Z = true) : ((Jvm.Cond.static ({ cls := "com/example/inkan/inkan/jose/KeyManagementAlgorithmNamedPinLaw", name := "pick", desc := "(ICII)C" } : Jvm.MethodName))).before a0 Z = true := hw _ (List.mem_of_getElem? (i := 2) rfl)
theorem w3 {Z : State} {a0 : Array Value} (hw : ∀ d ∈ tables_1, d.before a0 Z = true) : ((Jvm.Cond.initialized "com/example/inkan/inkan/jose/KeyManagementAlgorithmNamedPinLaw")).before a0 Z = true := hw _ (List.mem_of_getElem? (i := 3) rfl)
theorem w4 {Z : State} {a0 : Array Value} (hw : ∀ d ∈ tables_1, d.before a0 Z = true) : ((Jvm.Cond.code ({ cls := "com/example/inkan/inkan/jose/KeyManagementAlgorithmNamedPinLaw", name := "pick", desc := "(ICII)C" } : Jvm.MethodName) method_3_code (4 : Nat) (Option.some Jvm.ClassFile.FieldType.char))).before a0 Z = true := hw _ (List.mem_of_getElem? (i := 4) rfl)
theorem w5 {Z : State} {a0 : Array Value} (hw : ∀ d ∈ tables_1, d.before a0 Z = true) : ((Jvm.Cond.methodLink "com/example/inkan/inkan/jose/KeyManagementAlgorithmNamedPinLaw" (13 : Nat) ({ cls := "com/example/inkan/inkan/jose/KeyManagementAlgorithmNamedPinLaw", name := "str", desc := "([CI)Ljava/lang/String;" } : Jvm.MethodName))).before a0 Z = true := hw _ (List.mem_of_getElem? (i := 5) rfl)
theorem w6 {Z : State} {a0 : Array Value} (hw : ∀ d ∈ tables_1, d.before a0 Z = true) : ((Jvm.Cond.static ({ cls := "com/example/inkan/inkan/jose/KeyManagementAlgorithmNamedPinLaw", name := "str", desc := "([CI)Ljava/lang/String;" } : Jvm.MethodName))).before a0 Z = true := hw _ (List.mem_of_getElem? (i := 6) rfl)
theorem w7 {Z : State} {a0 : Array Value} (hw : ∀ d ∈ tables_1, d.before a0 Z = true) : ((Jvm.Cond.code ({ cls := "com/example/inkan/inkan/jose/KeyManagementAlgorithmNamedPinLaw", name := "str", desc := "([CI)Ljava/lang/String;" } : Jvm.MethodName) method_4_code (2 : Nat) (Option.some (Jvm.ClassFile.FieldType.object "java/lang/String")))).before a0 Z = true := hw _ (List.mem_of_getElem? (i := 7) rfl)
theorem w8 {Z : State} {a0 : Array Value} (hw : ∀ d ∈ tables_1, d.before a0 Z = true) : ((Jvm.Cond.classLink "com/example/inkan/inkan/jose/KeyManagementAlgorithmNamedPinLaw" (20 : Nat) "java/lang/String")).before a0 Z = true := hw _ (List.mem_of_getElem? (i := 8) rfl)
theorem w9 {Z : State} {a0 : Array Value} (hw : ∀ d ∈ tables_1, d.before a0 Z = true) : ((Jvm.Cond.instantiable "java/lang/String" (4 : Nat))).before a0 Z = true := hw _ (List.mem_of_getElem? (i := 9) rfl)
theorem w10 {Z : State} {a0 : Array Value} (hw : ∀ d ∈ tables_1, d.before a0 Z = true) : ((Jvm.Cond.initialized "java/lang/String")).before a0 Z = true := hw _ (List.mem_of_getElem? (i := 10) rfl)
theorem w11 {Z : State} {a0 : Array Value} (hw : ∀ d ∈ tables_1, d.before a0 Z = true) : ((Jvm.Cond.methodLink "com/example/inkan/inkan/jose/KeyManagementAlgorithmNamedPinLaw" (46 : Nat) ({ cls := "java/lang/String", name := "<init>", desc := "([C)V" } : Jvm.MethodName))).before a0 Z = true := hw _ (List.mem_of_getElem? (i := 11) rfl)
theorem w12 {Z : State} {a0 : Array Value} (hw : ∀ d ∈ tables_1, d.before a0 Z = true) : ((Jvm.Cond.instanceMethod ({ cls := "java/lang/String", name := "<init>", desc := "([C)V" } : Jvm.MethodName))).before a0 Z = true := hw _ (List.mem_of_getElem? (i := 12) rfl)
theorem w13 {Z : State} {a0 : Array Value} (hw : ∀ d ∈ tables_1, d.before a0 Z = true) : ((Jvm.Cond.code ({ cls := "java/lang/String", name := "<init>", desc := "([C)V" } : Jvm.MethodName) jdk_42_method_3_code (2 : Nat) (Option.none : Option Jvm.ClassFile.FieldType))).before a0 Z = true := hw _ (List.mem_of_getElem? (i := 13) rfl)
theorem w14 {Z : State} {a0 : Array Value} (hw : ∀ d ∈ tables_1, d.before a0 Z = true) : ((Jvm.Cond.methodLink "java/lang/String" (27 : Nat) ({ cls := "java/lang/String", name := "<init>", desc := "([CIILjava/lang/Void;)V" } : Jvm.MethodName))).before a0 Z = true := hw _ (List.mem_of_getElem? (i := 14) rfl)
theorem w15 {Z : State} {a0 : Array Value} (hw : ∀ d ∈ tables_1, d.before a0 Z = true) : ((Jvm.Cond.instanceMethod ({ cls := "java/lang/String", name := "<init>", desc := "([CIILjava/lang/Void;)V" } : Jvm.MethodName))).before a0 Z = true := hw _ (List.mem_of_getElem? (i := 15) rfl)
theorem w17 {Z : State} {a0 : Array Value} (hw : ∀ d ∈ tables_1, d.before a0 Z = true) : ((Jvm.Cond.code ({ cls := "java/lang/String", name := "<init>", desc := "([CIILjava/lang/Void;)V" } : Jvm.MethodName) jdk_42_method_149_code (6 : Nat) (Option.none : Option Jvm.ClassFile.FieldType))).before a0 Z = true := hw _ (List.mem_of_getElem? (i := 17) rfl)
theorem w18 {Z : State} {a0 : Array Value} (hw : ∀ d ∈ tables_1, d.before a0 Z = true) : ((Jvm.Cond.methodLink "java/lang/String" (1 : Nat) ({ cls := "java/lang/Object", name := "<init>", desc := "()V" } : Jvm.MethodName))).before a0 Z = true := hw _ (List.mem_of_getElem? (i := 18) rfl)
theorem w19 {Z : State} {a0 : Array Value} (hw : ∀ d ∈ tables_1, d.before a0 Z = true) : ((Jvm.Cond.instanceMethod ({ cls := "java/lang/Object", name := "<init>", desc := "()V" } : Jvm.MethodName))).before a0 Z = true := hw _ (List.mem_of_getElem? (i := 19) rfl)
theorem w20 {Z : State} {a0 : Array Value} (hw : ∀ d ∈ tables_1, d.before a0 Z = true) : ((Jvm.Cond.code ({ cls := "java/lang/Object", name := "<init>", desc := "()V" } : Jvm.MethodName) object_method_1_code (1 : Nat) (Option.none : Option Jvm.ClassFile.FieldType))).before a0 Z = true := hw _ (List.mem_of_getElem? (i := 20) rfl)
theorem w21 {Z : State} {a0 : Array Value} (hw : ∀ d ∈ tables_1, d.before a0 Z = true) : ((Jvm.Cond.stringLink "java/lang/String" (7 : Nat) "")).before a0 Z = true := hw _ (List.mem_of_getElem? (i := 21) rfl)
theorem w22 {Z : State} {a0 : Array Value} (hw : ∀ d ∈ tables_1, d.before a0 Z = true) : ((Jvm.Cond.arrayClass Jvm.ClassFile.FieldType.byte)).before a0 Z = true := hw _ (List.mem_of_getElem? (i := 22) rfl)
theorem w23 {Z : State} {a0 : Array Value} (hw : ∀ d ∈ tables_1, d.before a0 Z = true) : ((Jvm.Cond.laysFinal "java/lang/String" "java/lang/String" "value" "[B")).before a0 Z = true := hw _ (List.mem_of_getElem? (i := 23) rfl)
theorem w24 {Z : State} {a0 : Array Value} (hw : ∀ d ∈ tables_1, d.before a0 Z = true) : ((Jvm.Cond.laysFinal "java/lang/String" "java/lang/String" "coder" "B")).before a0 Z = true := hw _ (List.mem_of_getElem? (i := 24) rfl)
theorem w27 {Z : State} {a0 : Array Value} (hw : ∀ d ∈ tables_1, d.before a0 Z = true) : ((Jvm.Cond.fieldLink "java/lang/String" (9 : Nat) "java/lang/String" "value" "[B")).before a0 Z = true := hw _ (List.mem_of_getElem? (i := 27) rfl)
theorem w28 {Z : State} {a0 : Array Value} (hw : ∀ d ∈ tables_1, d.before a0 Z = true) : ((Jvm.Cond.fieldLink "java/lang/String" (15 : Nat) "java/lang/String" "coder" "B")).before a0 Z = true := hw _ (List.mem_of_getElem? (i := 28) rfl)
theorem w29 {Z : State} {a0 : Array Value} (hw : ∀ d ∈ tables_1, d.before a0 Z = true) : ((Jvm.Cond.stringLink "com/example/inkan/inkan/jose/KeyManagementAlgorithmNamedPinLaw" (17 : Nat) "RSA-OAEP")).before a0 Z = true := hw _ (List.mem_of_getElem? (i := 29) rfl)
theorem w30 {Z : State} {a0 : Array Value} (hw : ∀ d ∈ tables_1, d.before a0 Z = true) : ((Jvm.Cond.methodLink "com/example/inkan/inkan/jose/KeyManagementAlgorithmNamedPinLaw" (19 : Nat) ({ cls := "java/lang/String", name := "equals", desc := "(Ljava/lang/Object;)Z" } : Jvm.MethodName))).before a0 Z = true := hw _ (List.mem_of_getElem? (i := 30) rfl)
theorem w31 {Z : State} {a0 : Array Value} (hw : ∀ d ∈ tables_1, d.before a0 Z = true) : ((Jvm.Cond.declares ({ cls := "java/lang/String", name := "equals", desc := "(Ljava/lang/Object;)Z" } : Jvm.MethodName))).before a0 Z = true := hw _ (List.mem_of_getElem? (i := 31) rfl)
theorem w32 {Z : State} {a0 : Array Value} (hw : ∀ d ∈ tables_1, d.before a0 Z = true) : ((Jvm.Cond.instanceMethod ({ cls := "java/lang/String", name := "equals", desc := "(Ljava/lang/Object;)Z" } : Jvm.MethodName))).before a0 Z = true := hw _ (List.mem_of_getElem? (i := 32) rfl)
theorem w33 {Z : State} {a0 : Array Value} (hw : ∀ d ∈ tables_1, d.before a0 Z = true) : ((Jvm.Cond.selects "java/lang/String" ({ cls := "java/lang/String", name := "equals", desc := "(Ljava/lang/Object;)Z" } : Jvm.MethodName) ({ cls := "java/lang/String", name := "equals", desc := "(Ljava/lang/Object;)Z" } : Jvm.MethodName))).before a0 Z = true := hw _ (List.mem_of_getElem? (i := 33) rfl)
theorem w34 {Z : State} {a0 : Array Value} (hw : ∀ d ∈ tables_1, d.before a0 Z = true) : ((Jvm.Cond.code ({ cls := "java/lang/String", name := "equals", desc := "(Ljava/lang/Object;)Z" } : Jvm.MethodName) jdk_42_method_66_code (3 : Nat) (Option.some Jvm.ClassFile.FieldType.boolean))).before a0 Z = true := hw _ (List.mem_of_getElem? (i := 34) rfl)
theorem w35 {Z : State} {a0 : Array Value} (hw : ∀ d ∈ tables_1, d.before a0 Z = true) : ((Jvm.Cond.classLink "java/lang/String" (10 : Nat) "java/lang/String")).before a0 Z = true := hw _ (List.mem_of_getElem? (i := 35) rfl)
theorem w36 {Z : State} {a0 : Array Value} (hw : ∀ d ∈ tables_1, d.before a0 Z = true) : ((Jvm.Cond.fieldLink "java/lang/String" (38 : Nat) "java/lang/String" "COMPACT_STRINGS" "Z")).before a0 Z = true := hw _ (List.mem_of_getElem? (i := 36) rfl)
theorem w37 {Z : State} {a0 : Array Value} (hw : ∀ d ∈ tables_1, d.before a0 Z = true) : ((Jvm.Cond.methodLink "java/lang/String" (541 : Nat) ({ cls := "java/lang/StringLatin1", name := "equals", desc := "([B[B)Z" } : Jvm.MethodName))).before a0 Z = true := hw _ (List.mem_of_getElem? (i := 37) rfl)
theorem w38 {Z : State} {a0 : Array Value} (hw : ∀ d ∈ tables_1, d.before a0 Z = true) : ((Jvm.Cond.static ({ cls := "java/lang/StringLatin1", name := "equals", desc := "([B[B)Z" } : Jvm.MethodName))).before a0 Z = true := hw _ (List.mem_of_getElem? (i := 38) rfl)
theorem w39 {Z : State} {a0 : Array Value} (hw : ∀ d ∈ tables_1, d.before a0 Z = true) : ((Jvm.Cond.initialized "java/lang/StringLatin1")).before a0 Z = true := hw _ (List.mem_of_getElem? (i := 39) rfl)
theorem w40 {Z : State} {a0 : Array Value} (hw : ∀ d ∈ tables_1, d.before a0 Z = true) : ((Jvm.Cond.code ({ cls := "java/lang/StringLatin1", name := "equals", desc := "([B[B)Z" } : Jvm.MethodName) jdk_43_method_13_code (3 : Nat) (Option.some Jvm.ClassFile.FieldType.boolean))).before a0 Z = true := hw _ (List.mem_of_getElem? (i := 40) rfl)
theorem w41 {Z : State} {a0 : Array Value} (hw : ∀ d ∈ tables_1, d.before a0 Z = true) : ((Jvm.Cond.stringLink "com/example/inkan/inkan/jose/KeyManagementAlgorithmNamedPinLaw" (31 : Nat) "RSA-OAEP-256")).before a0 Z = true := hw _ (List.mem_of_getElem? (i := 41) rfl)
theorem w42 {Z : State} {a0 : Array Value} (hw : ∀ d ∈ tables_1, d.before a0 Z = true) : ((Jvm.Cond.methodLink "com/example/inkan/inkan/jose/KeyManagementAlgorithmNamedPinLaw" (36 : Nat) ({ cls := "com/example/inkan/inkan/jose/KeyManagementAlgorithm", name := "named", desc := "(Ljava/lang/String;)Ljava/util/Optional;" } : Jvm.MethodName))).before a0 Z = true := hw _ (List.mem_of_getElem? (i := 42) rfl)
theorem w43 {Z : State} {a0 : Array Value} (hw : ∀ d ∈ tables_1, d.before a0 Z = true) : ((Jvm.Cond.static ({ cls := "com/example/inkan/inkan/jose/KeyManagementAlgorithm", name := "named", desc := "(Ljava/lang/String;)Ljava/util/Optional;" } : Jvm.MethodName))).before a0 Z = true := hw _ (List.mem_of_getElem? (i := 43) rfl)
theorem w44 {Z : State} {a0 : Array Value} (hw : ∀ d ∈ tables_1, d.before a0 Z = true) : ((Jvm.Cond.initialized "com/example/inkan/inkan/jose/KeyManagementAlgorithm")).before a0 Z = true := hw _ (List.mem_of_getElem? (i := 44) rfl)
theorem w45 {Z : State} {a0 : Array Value} (hw : ∀ d ∈ tables_1, d.before a0 Z = true) : ((Jvm.Cond.code ({ cls := "com/example/inkan/inkan/jose/KeyManagementAlgorithm", name := "named", desc := "(Ljava/lang/String;)Ljava/util/Optional;" } : Jvm.MethodName) prog_8_method_4_code (5 : Nat) (Option.some (Jvm.ClassFile.FieldType.object "java/util/Optional")))).before a0 Z = true := hw _ (List.mem_of_getElem? (i := 45) rfl)
theorem w46 {Z : State} {a0 : Array Value} (hw : ∀ d ∈ tables_1, d.before a0 Z = true) : ((Jvm.Cond.methodLink "com/example/inkan/inkan/jose/KeyManagementAlgorithm" (37 : Nat) ({ cls := "com/example/inkan/inkan/jose/KeyManagementAlgorithm", name := "values", desc := "()[Lcom/example/inkan/inkan/jose/KeyManagementAlgorithm;" } : Jvm.MethodName))).before a0 Z = true := hw _ (List.mem_of_getElem? (i := 46) rfl)
theorem w47 {Z : State} {a0 : Array Value} (hw : ∀ d ∈ tables_1, d.before a0 Z = true) : ((Jvm.Cond.static ({ cls := "com/example/inkan/inkan/jose/KeyManagementAlgorithm", name := "values", desc := "()[Lcom/example/inkan/inkan/jose/KeyManagementAlgorithm;" } : Jvm.MethodName))).before a0 Z = true := hw _ (List.mem_of_getElem? (i := 47) rfl)
theorem w48 {Z : State} {a0 : Array Value} (hw : ∀ d ∈ tables_1, d.before a0 Z = true) : ((Jvm.Cond.code ({ cls := "com/example/inkan/inkan/jose/KeyManagementAlgorithm", name := "values", desc := "()[Lcom/example/inkan/inkan/jose/KeyManagementAlgorithm;" } : Jvm.MethodName) prog_8_method_1_code (0 : Nat) (Option.some (Jvm.ClassFile.FieldType.array (Jvm.ClassFile.FieldType.object "com/example/inkan/inkan/jose/KeyManagementAlgorithm"))))).before a0 Z = true := hw _ (List.mem_of_getElem? (i := 48) rfl)
theorem w49 {Z : State} {a0 : Array Value} (hw : ∀ d ∈ tables_1, d.before a0 Z = true) : ((Jvm.Cond.fieldLink "com/example/inkan/inkan/jose/KeyManagementAlgorithm" (10 : Nat) "com/example/inkan/inkan/jose/KeyManagementAlgorithm" "$VALUES" "[Lcom/example/inkan/inkan/jose/KeyManagementAlgorithm;")).before a0 Z = true := hw _ (List.mem_of_getElem? (i := 49) rfl)
theorem w51 {Z : State} {a0 : Array Value} (hw : ∀ d ∈ tables_1, d.before a0 Z = true) : ((Jvm.Cond.methodLink "com/example/inkan/inkan/jose/KeyManagementAlgorithm" (14 : Nat) ({ cls := "[Lcom/example/inkan/inkan/jose/KeyManagementAlgorithm;", name := "clone", desc := "()Ljava/lang/Object;" } : Jvm.MethodName))).before a0 Z = true := hw _ (List.mem_of_getElem? (i := 51) rfl)
theorem w52 {Z : State} {a0 : Array Value} (hw : ∀ d ∈ tables_1, d.before a0 Z = true) : ((Jvm.Cond.sameMethod "[Lcom/example/inkan/inkan/jose/KeyManagementAlgorithm;" "java/lang/Object" "clone" "()Ljava/lang/Object;")).before a0 Z = true := hw _ (List.mem_of_getElem? (i := 52) rfl)
theorem w54 {Z : State} {a0 : Array Value} (hw : ∀ d ∈ tables_1, d.before a0 Z = true) : ((Jvm.Cond.instanceMethod ({ cls := "java/lang/Object", name := "clone", desc := "()Ljava/lang/Object;" } : Jvm.MethodName))).before a0 Z = true := hw _ (List.mem_of_getElem? (i := 54) rfl)
theorem w55 {Z : State} {a0 : Array Value} (hw : ∀ d ∈ tables_1, d.before a0 Z = true) : ((Jvm.Cond.selects "[Lcom/example/inkan/inkan/jose/KeyManagementAlgorithm;" ({ cls := "[Lcom/example/inkan/inkan/jose/KeyManagementAlgorithm;", name := "clone", desc := "()Ljava/lang/Object;" } : Jvm.MethodName) ({ cls := "java/lang/Object", name := "clone", desc := "()Ljava/lang/Object;" } : Jvm.MethodName))).before a0 Z = true := hw _ (List.mem_of_getElem? (i := 55) rfl)
theorem w56 {Z : State} {a0 : Array Value} (hw : ∀ d ∈ tables_1, d.before a0 Z = true) : ((Jvm.Cond.native ({ cls := "java/lang/Object", name := "clone", desc := "()Ljava/lang/Object;" } : Jvm.MethodName))).before a0 Z = true := hw _ (List.mem_of_getElem? (i := 56) rfl)
theorem w57 {Z : State} {a0 : Array Value} (hw : ∀ d ∈ tables_1, d.before a0 Z = true) : ((Jvm.Cond.castable "[Lcom/example/inkan/inkan/jose/KeyManagementAlgorithm;" "java/lang/Cloneable")).before a0 Z = true := hw _ (List.mem_of_getElem? (i := 57) rfl)
theorem w61 {Z : State} {a0 : Array Value} (hw : ∀ d ∈ tables_1, d.before a0 Z = true) : ((Jvm.Cond.classLink "com/example/inkan/inkan/jose/KeyManagementAlgorithm" (15 : Nat) "[Lcom/example/inkan/inkan/jose/KeyManagementAlgorithm;")).before a0 Z = true := hw _ (List.mem_of_getElem? (i := 61) rfl)
theorem w63 {Z : State} {a0 : Array Value} (hw : ∀ d ∈ tables_1, d.before a0 Z = true) : ((Jvm.Cond.fieldLink "com/example/inkan/inkan/jose/KeyManagementAlgorithm" (29 : Nat) "com/example/inkan/inkan/jose/KeyManagementAlgorithm" "alg" "Ljava/lang/String;")).before a0 Z = true := hw _ (List.mem_of_getElem? (i := 63) rfl)
theorem w65 {Z : State} {a0 : Array Value} (hw : ∀ d ∈ tables_1, d.before a0 Z = true) : ((Jvm.Cond.methodLink "com/example/inkan/inkan/jose/KeyManagementAlgorithm" (41 : Nat) ({ cls := "java/lang/String", name := "equals", desc := "(Ljava/lang/Object;)Z" } : Jvm.MethodName))).before a0 Z = true := hw _ (List.mem_of_getElem? (i := 65) rfl)
theorem w66 {Z : State} {a0 : Array Value} (hw : ∀ d ∈ tables_1, d.before a0 Z = true) : ((Jvm.Cond.methodLink "com/example/inkan/inkan/jose/KeyManagementAlgorithm" (53 : Nat) ({ cls := "java/util/Optional", name := "empty", desc := "()Ljava/util/Optional;" } : Jvm.MethodName))).before a0 Z = true := hw _ (List.mem_of_getElem? (i := 66) rfl)
theorem w67 {Z : State} {a0 : Array Value} (hw : ∀ d ∈ tables_1, d.before a0 Z = true) : ((Jvm.Cond.static ({ cls := "java/util/Optional", name := "empty", desc := "()Ljava/util/Optional;" } : Jvm.MethodName))).before a0 Z = true := hw _ (List.mem_of_getElem? (i := 67) rfl)
theorem w68 {Z : State} {a0 : Array Value} (hw : ∀ d ∈ tables_1, d.before a0 Z = true) : ((Jvm.Cond.initialized "java/util/Optional")).before a0 Z = true := hw _ (List.mem_of_getElem? (i := 68) rfl)
theorem w69 {Z : State} {a0 : Array Value} (hw : ∀ d ∈ tables_1, d.before a0 Z = true) : ((Jvm.Cond.code ({ cls := "java/util/Optional", name := "empty", desc := "()Ljava/util/Optional;" } : Jvm.MethodName) jdk_32_method_1_code (1 : Nat) (Option.some (Jvm.ClassFile.FieldType.object "java/util/Optional")))).before a0 Z = true := hw _ (List.mem_of_getElem? (i := 69) rfl)
theorem w70 {Z : State} {a0 : Array Value} (hw : ∀ d ∈ tables_1, d.before a0 Z = true) : ((Jvm.Cond.fieldLink "java/util/Optional" (1 : Nat) "java/util/Optional" "EMPTY" "Ljava/util/Optional;")).before a0 Z = true := hw _ (List.mem_of_getElem? (i := 70) rfl)
theorem w71 {Z : State} {a0 : Array Value} (hw : ∀ d ∈ tables_1, d.before a0 Z = true) : ((Jvm.Cond.methodLink "com/example/inkan/inkan/jose/KeyManagementAlgorithmNamedPinLaw" (40 : Nat) ({ cls := "java/util/Optional", name := "orElse", desc := "(Ljava/lang/Object;)Ljava/lang/Object;" } : Jvm.MethodName))).before a0 Z = true := hw _ (List.mem_of_getElem? (i := 71) rfl)
theorem w72 {Z : State} {a0 : Array Value} (hw : ∀ d ∈ tables_1, d.before a0 Z = true) : ((Jvm.Cond.declares ({ cls := "java/util/Optional", name := "orElse", desc := "(Ljava/lang/Object;)Ljava/lang/Object;" } : Jvm.MethodName))).before a0 Z = true := hw _ (List.mem_of_getElem? (i := 72) rfl)
theorem w73 {Z : State} {a0 : Array Value} (hw : ∀ d ∈ tables_1, d.before a0 Z = true) : ((Jvm.Cond.instanceMethod ({ cls := "java/util/Optional", name := "orElse", desc := "(Ljava/lang/Object;)Ljava/lang/Object;" } : Jvm.MethodName))).before a0 Z = true := hw _ (List.mem_of_getElem? (i := 73) rfl)
theorem w74 {Z : State} {a0 : Array Value} (hw : ∀ d ∈ tables_1, d.before a0 Z = true) : ((Jvm.Cond.selects "java/util/Optional" ({ cls := "java/util/Optional", name := "orElse", desc := "(Ljava/lang/Object;)Ljava/lang/Object;" } : Jvm.MethodName) ({ cls := "java/util/Optional", name := "orElse", desc := "(Ljava/lang/Object;)Ljava/lang/Object;" } : Jvm.MethodName))).before a0 Z = true := hw _ (List.mem_of_getElem? (i := 74) rfl)
theorem w75 {Z : State} {a0 : Array Value} (hw : ∀ d ∈ tables_1, d.before a0 Z = true) : ((Jvm.Cond.code ({ cls := "java/util/Optional", name := "orElse", desc := "(Ljava/lang/Object;)Ljava/lang/Object;" } : Jvm.MethodName) jdk_32_method_15_code (2 : Nat) (Option.some (Jvm.ClassFile.FieldType.object "java/lang/Object")))).before a0 Z = true := hw _ (List.mem_of_getElem? (i := 75) rfl)
theorem w76 {Z : State} {a0 : Array Value} (hw : ∀ d ∈ tables_1, d.before a0 Z = true) : ((Jvm.Cond.fieldLink "java/util/Optional" (13 : Nat) "java/util/Optional" "value" "Ljava/lang/Object;")).before a0 Z = true := hw _ (List.mem_of_getElem? (i := 76) rfl)
theorem w77 {Z : State} {a0 : Array Value} (hw : ∀ d ∈ tables_1, d.before a0 Z = true) : ((Jvm.Cond.laysFinal "java/util/Optional" "java/util/Optional" "value" "Ljava/lang/Object;")).before a0 Z = true := hw _ (List.mem_of_getElem? (i := 77) rfl)
theorem w78 {Z : State} {a0 : Array Value} (hw : ∀ d ∈ tables_1, d.before a0 Z = true) : ((Jvm.Cond.methodLink "java/lang/String" (177 : Nat) ({ cls := "java/lang/StringUTF16", name := "compress", desc := "([CII)[B" } : Jvm.MethodName))).before a0 Z = true := hw _ (List.mem_of_getElem? (i := 78) rfl)
theorem w79 {Z : State} {a0 : Array Value} (hw : ∀ d ∈ tables_1, d.before a0 Z = true) : ((Jvm.Cond.static ({ cls := "java/lang/StringUTF16", name := "compress", desc := "([CII)[B" } : Jvm.MethodName))).before a0 Z = true := hw _ (List.mem_of_getElem? (i := 79) rfl)
theorem w80 {Z : State} {a0 : Array Value} (hw : ∀ d ∈ tables_1, d.before a0 Z = true) : ((Jvm.Cond.initialized "java/lang/StringUTF16")).before a0 Z = true := hw _ (List.mem_of_getElem? (i := 80) rfl)
theorem w81 {Z : State} {a0 : Array Value} (hw : ∀ d ∈ tables_1, d.before a0 Z = true) : ((Jvm.Cond.code ({ cls := "java/lang/StringUTF16", name := "compress", desc := "([CII)[B" } : Jvm.MethodName) jdk_52_method_16_code (6 : Nat) (Option.some (Jvm.ClassFile.FieldType.array Jvm.ClassFile.FieldType.byte)))).before a0 Z = true := hw _ (List.mem_of_getElem? (i := 81) rfl)
theorem w82 {Z : State} {a0 : Array Value} (hw : ∀ d ∈ tables_1, d.before a0 Z = true) : ((Jvm.Cond.methodLink "java/lang/StringUTF16" (115 : Nat) ({ cls := "java/lang/StringUTF16", name := "compress", desc := "([CI[BII)I" } : Jvm.MethodName))).before a0 Z = true := hw _ (List.mem_of_getElem? (i := 82) rfl)
theorem w83 {Z : State} {a0 : Array Value} (hw : ∀ d ∈ tables_1, d.before a0 Z = true) : ((Jvm.Cond.static ({ cls := "java/lang/StringUTF16", name := "compress", desc := "([CI[BII)I" } : Jvm.MethodName))).before a0 Z = true := hw _ (List.mem_of_getElem? (i := 83) rfl)
theorem w84 {Z : State} {a0 : Array Value} (hw : ∀ d ∈ tables_1, d.before a0 Z = true) : ((Jvm.Cond.code ({ cls := "java/lang/StringUTF16", name := "compress", desc := "([CI[BII)I" } : Jvm.MethodName) jdk_52_method_21_code (7 : Nat) (Option.some Jvm.ClassFile.FieldType.int))).before a0 Z = true := hw _ (List.mem_of_getElem? (i := 84) rfl)
theorem w85 {Z : State} {a0 : Array Value} (hw : ∀ d ∈ tables_1, d.before a0 Z = true) : ((Jvm.Cond.methodLink "java/lang/String" (47 : Nat) ({ cls := "java/lang/StringUTF16", name := "coderFromArrayLen", desc := "([BI)B" } : Jvm.MethodName))).before a0 Z = true := hw _ (List.mem_of_getElem? (i := 85) rfl)
theorem w86 {Z : State} {a0 : Array Value} (hw : ∀ d ∈ tables_1, d.before a0 Z = true) : ((Jvm.Cond.static ({ cls := "java/lang/StringUTF16", name := "coderFromArrayLen", desc := "([BI)B" } : Jvm.MethodName))).before a0 Z = true := hw _ (List.mem_of_getElem? (i := 86) rfl)
theorem w87 {Z : State} {a0 : Array Value} (hw : ∀ d ∈ tables_1, d.before a0 Z = true) : ((Jvm.Cond.code ({ cls := "java/lang/StringUTF16", name := "coderFromArrayLen", desc := "([BI)B" } : Jvm.MethodName) jdk_52_method_15_code (2 : Nat) (Option.some Jvm.ClassFile.FieldType.byte))).before a0 Z = true := hw _ (List.mem_of_getElem? (i := 87) rfl)
theorem w88 {Z : State} {a0 : Array Value} (hw : ∀ d ∈ tables_1, d.before a0 Z = true) : ((Jvm.Cond.fieldLink "com/example/inkan/inkan/jose/KeyManagementAlgorithmNamedPinLaw" (33 : Nat) "com/example/inkan/inkan/jose/KeyManagementAlgorithm" "RSA_OAEP_256" "Lcom/example/inkan/inkan/jose/KeyManagementAlgorithm;")).before a0 Z = true := hw _ (List.mem_of_getElem? (i := 88) rfl)
theorem w89 {Z : State} {a0 : Array Value} (hw : ∀ d ∈ tables_1, d.before a0 Z = true) : ((Jvm.Cond.methodLink "com/example/inkan/inkan/jose/KeyManagementAlgorithm" (47 : Nat) ({ cls := "java/util/Optional", name := "of", desc := "(Ljava/lang/Object;)Ljava/util/Optional;" } : Jvm.MethodName))).before a0 Z = true := hw _ (List.mem_of_getElem? (i := 89) rfl)
theorem w90 {Z : State} {a0 : Array Value} (hw : ∀ d ∈ tables_1, d.before a0 Z = true) : ((Jvm.Cond.static ({ cls := "java/util/Optional", name := "of", desc := "(Ljava/lang/Object;)Ljava/util/Optional;" } : Jvm.MethodName))).before a0 Z = true := hw _ (List.mem_of_getElem? (i := 90) rfl)
theorem w91 {Z : State} {a0 : Array Value} (hw : ∀ d ∈ tables_1, d.before a0 Z = true) : ((Jvm.Cond.code ({ cls := "java/util/Optional", name := "of", desc := "(Ljava/lang/Object;)Ljava/util/Optional;" } : Jvm.MethodName) jdk_32_method_3_code (1 : Nat) (Option.some (Jvm.ClassFile.FieldType.object "java/util/Optional")))).before a0 Z = true := hw _ (List.mem_of_getElem? (i := 91) rfl)
theorem w92 {Z : State} {a0 : Array Value} (hw : ∀ d ∈ tables_1, d.before a0 Z = true) : ((Jvm.Cond.classLink "java/util/Optional" (2 : Nat) "java/util/Optional")).before a0 Z = true := hw _ (List.mem_of_getElem? (i := 92) rfl)
theorem w93 {Z : State} {a0 : Array Value} (hw : ∀ d ∈ tables_1, d.before a0 Z = true) : ((Jvm.Cond.instantiable "java/util/Optional" (1 : Nat))).before a0 Z = true := hw _ (List.mem_of_getElem? (i := 93) rfl)
theorem w94 {Z : State} {a0 : Array Value} (hw : ∀ d ∈ tables_1, d.before a0 Z = true) : ((Jvm.Cond.methodLink "java/util/Optional" (17 : Nat) ({ cls := "java/util/Objects", name := "requireNonNull", desc := "(Ljava/lang/Object;)Ljava/lang/Object;" } : Jvm.MethodName))).before a0 Z = true := hw _ (List.mem_of_getElem? (i := 94) rfl)
theorem w95 {Z : State} {a0 : Array Value} (hw : ∀ d ∈ tables_1, d.before a0 Z = true) : ((Jvm.Cond.static ({ cls := "java/util/Objects", name := "requireNonNull", desc := "(Ljava/lang/Object;)Ljava/lang/Object;" } : Jvm.MethodName))).before a0 Z = true := hw _ (List.mem_of_getElem? (i := 95) rfl)
theorem w96 {Z : State} {a0 : Array Value} (hw : ∀ d ∈ tables_1, d.before a0 Z = true) : ((Jvm.Cond.initialized "java/util/Objects")).before a0 Z = true := hw _ (List.mem_of_getElem? (i := 96) rfl)
theorem w97 {Z : State} {a0 : Array Value} (hw : ∀ d ∈ tables_1, d.before a0 Z = true) : ((Jvm.Cond.code ({ cls := "java/util/Objects", name := "requireNonNull", desc := "(Ljava/lang/Object;)Ljava/lang/Object;" } : Jvm.MethodName) jdk_31_method_10_code (1 : Nat) (Option.some (Jvm.ClassFile.FieldType.object "java/lang/Object")))).before a0 Z = true := hw _ (List.mem_of_getElem? (i := 97) rfl)
theorem w98 {Z : State} {a0 : Array Value} (hw : ∀ d ∈ tables_1, d.before a0 Z = true) : ((Jvm.Cond.methodLink "java/util/Optional" (23 : Nat) ({ cls := "java/util/Optional", name := "<init>", desc := "(Ljava/lang/Object;)V" } : Jvm.MethodName))).before a0 Z = true := hw _ (List.mem_of_getElem? (i := 98) rfl)
theorem w99 {Z : State} {a0 : Array Value} (hw : ∀ d ∈ tables_1, d.before a0 Z = true) : ((Jvm.Cond.instanceMethod ({ cls := "java/util/Optional", name := "<init>", desc := "(Ljava/lang/Object;)V" } : Jvm.MethodName))).before a0 Z = true := hw _ (List.mem_of_getElem? (i := 99) rfl)
theorem w101 {Z : State} {a0 : Array Value} (hw : ∀ d ∈ tables_1, d.before a0 Z = true) : ((Jvm.Cond.code ({ cls := "java/util/Optional", name := "<init>", desc := "(Ljava/lang/Object;)V" } : Jvm.MethodName) jdk_32_method_2_code (2 : Nat) (Option.none : Option Jvm.ClassFile.FieldType))).before a0 Z = true := hw _ (List.mem_of_getElem? (i := 101) rfl)
theorem w102 {Z : State} {a0 : Array Value} (hw : ∀ d ∈ tables_1, d.before a0 Z = true) : ((Jvm.Cond.methodLink "java/util/Optional" (7 : Nat) ({ cls := "java/lang/Object", name := "<init>", desc := "()V" } : Jvm.MethodName))).before a0 Z = true := hw _ (List.mem_of_getElem? (i := 102) rfl)
theorem w103 {Z : State} {a0 : Array Value} (hw : ∀ d ∈ tables_1, d.before a0 Z = true) : ((Jvm.Cond.fieldLink "com/example/inkan/inkan/jose/KeyManagementAlgorithmNamedPinLaw" (25 : Nat) "com/example/inkan/inkan/jose/KeyManagementAlgorithm" "RSA_OAEP" "Lcom/example/inkan/inkan/jose/KeyManagementAlgorithm;")).before a0 Z = true := hw _ (List.mem_of_getElem? (i := 103) rfl)
theorem d_jdk_43_method_13_0 : decode jdk_43_method_13_code 0 = .ok (.aload_n 0, 1) := by decide +kernel
theorem d_jdk_43_method_13_1 : decode jdk_43_method_13_code 1 = .ok (.arraylength, 1) := by decide +kernel
theorem d_jdk_43_method_13_2 : decode jdk_43_method_13_code 2 = .ok (.aload_n 1, 1) := by decide +kernel
theorem d_jdk_43_method_13_3 : decode jdk_43_method_13_code 3 = .ok (.arraylength, 1) := by decide +kernel
theorem d_jdk_43_method_13_4 : decode jdk_43_method_13_code 4 = .ok (.if_icmp .ne 30, 3) := by decide +kernel
theorem d_jdk_43_method_13_7 : decode jdk_43_method_13_code 7 = .ok (.iconst 0, 1) := by decide +kernel
theorem d_jdk_43_method_13_8 : decode jdk_43_method_13_code 8 = .ok (.istore_n 2, 1) := by decide +kernel
theorem d_jdk_43_method_13_9 : decode jdk_43_method_13_code 9 = .ok (.iload_n 2, 1) := by decide +kernel
theorem d_jdk_43_method_13_10 : decode jdk_43_method_13_code 10 = .ok (.aload_n 0, 1) := by decide +kernel
theorem d_jdk_43_method_13_11 : decode jdk_43_method_13_code 11 = .ok (.arraylength, 1) := by decide +kernel
theorem d_jdk_43_method_13_12 : decode jdk_43_method_13_code 12 = .ok (.if_icmp .ge 20, 3) := by decide +kernel
theorem d_jdk_43_method_13_32 : decode jdk_43_method_13_code 32 = .ok (.iconst 1, 1) := by decide +kernel
theorem d_jdk_43_method_13_33 : decode jdk_43_method_13_code 33 = .ok (.ireturn, 1) := by decide +kernel
theorem d_jdk_43_method_13_15 : decode jdk_43_method_13_code 15 = .ok (.aload_n 0, 1) := by decide +kernel
theorem d_jdk_43_method_13_16 : decode jdk_43_method_13_code 16 = .ok (.iload_n 2, 1) := by decide +kernel
theorem d_jdk_43_method_13_17 : decode jdk_43_method_13_code 17 = .ok (.baload, 1) := by decide +kernel
theorem d_jdk_43_method_13_18 : decode jdk_43_method_13_code 18 = .ok (.aload_n 1, 1) := by decide +kernel
theorem d_jdk_43_method_13_19 : decode jdk_43_method_13_code 19 = .ok (.iload_n 2, 1) := by decide +kernel
theorem d_jdk_43_method_13_20 : decode jdk_43_method_13_code 20 = .ok (.baload, 1) := by decide +kernel
theorem d_jdk_43_method_13_21 : decode jdk_43_method_13_code 21 = .ok (.if_icmp .eq 5, 3) := by decide +kernel
theorem d_jdk_43_method_13_26 : decode jdk_43_method_13_code 26 = .ok (.iinc 2 1, 3) := by decide +kernel
theorem d_jdk_43_method_13_29 : decode jdk_43_method_13_code 29 = .ok (.goto (-20), 3) := by decide +kernel
theorem d_jdk_43_method_13_24 : decode jdk_43_method_13_code 24 = .ok (.iconst 0, 1) := by decide +kernel
theorem d_jdk_43_method_13_25 : decode jdk_43_method_13_code 25 = .ok (.ireturn, 1) := by decide +kernel
theorem d_jdk_43_method_13_34 : decode jdk_43_method_13_code 34 = .ok (.iconst 0, 1) := by decide +kernel
theorem d_jdk_43_method_13_35 : decode jdk_43_method_13_code 35 = .ok (.ireturn, 1) := by decide +kernel
theorem d_jdk_42_method_66_0 : decode jdk_42_method_66_code 0 = .ok (.aload_n 0, 1) := by decide +kernel
theorem d_jdk_42_method_66_1 : decode jdk_42_method_66_code 1 = .ok (.aload_n 1, 1) := by decide +kernel
theorem d_jdk_42_method_66_2 : decode jdk_42_method_66_code 2 = .ok (.if_acmp .ne 5, 3) := by decide +kernel
theorem d_jdk_42_method_66_5 : decode jdk_42_method_66_code 5 = .ok (.iconst 1, 1) := by decide +kernel
theorem d_jdk_42_method_66_6 : decode jdk_42_method_66_code 6 = .ok (.ireturn, 1) := by decide +kernel
theorem d_jdk_42_method_66_7 : decode jdk_42_method_66_code 7 = .ok (.aload_n 1, 1) := by decide +kernel
theorem d_jdk_42_method_66_8 : decode jdk_42_method_66_code 8 = .ok (.instanceof 10, 3) := by decide +kernel
theorem d_jdk_42_method_66_11 : decode jdk_42_method_66_code 11 = .ok (.ifCond .eq 43, 3) := by decide +kernel
theorem d_jdk_42_method_66_14 : decode jdk_42_method_66_code 14 = .ok (.aload_n 1, 1) := by decide +kernel
theorem d_jdk_42_method_66_15 : decode jdk_42_method_66_code 15 = .ok (.checkcast 10, 3) := by decide +kernel
theorem d_jdk_42_method_66_18 : decode jdk_42_method_66_code 18 = .ok (.astore_n 2, 1) := by decide +kernel
theorem d_jdk_42_method_66_19 : decode jdk_42_method_66_code 19 = .ok (.getstatic 38, 3) := by decide +kernel
theorem d_jdk_42_method_66_22 : decode jdk_42_method_66_code 22 = .ok (.ifCond .eq 14, 3) := by decide +kernel
theorem d_jdk_42_method_66_25 : decode jdk_42_method_66_code 25 = .ok (.aload_n 0, 1) := by decide +kernel
theorem d_jdk_42_method_66_26 : decode jdk_42_method_66_code 26 = .ok (.getfield 15, 3) := by decide +kernel
theorem d_jdk_42_method_66_29 : decode jdk_42_method_66_code 29 = .ok (.aload_n 2, 1) := by decide +kernel
theorem d_jdk_42_method_66_30 : decode jdk_42_method_66_code 30 = .ok (.getfield 15, 3) := by decide +kernel
theorem d_jdk_42_method_66_33 : decode jdk_42_method_66_code 33 = .ok (.if_icmp .ne 21, 3) := by decide +kernel
theorem d_jdk_42_method_66_36 : decode jdk_42_method_66_code 36 = .ok (.aload_n 0, 1) := by decide +kernel
theorem d_jdk_42_method_66_37 : decode jdk_42_method_66_code 37 = .ok (.getfield 9, 3) := by decide +kernel
theorem d_jdk_42_method_66_40 : decode jdk_42_method_66_code 40 = .ok (.aload_n 2, 1) := by decide +kernel
theorem d_jdk_42_method_66_41 : decode jdk_42_method_66_code 41 = .ok (.getfield 9, 3) := by decide +kernel
theorem d_jdk_42_method_66_44 : decode jdk_42_method_66_code 44 = .ok (.invokestatic 541, 3) := by decide +kernel
theorem d_jdk_42_method_66_47 : decode jdk_42_method_66_code 47 = .ok (.ifCond .eq 7, 3) := by decide +kernel
theorem d_jdk_42_method_66_50 : decode jdk_42_method_66_code 50 = .ok (.iconst 1, 1) := by decide +kernel
theorem d_jdk_42_method_66_51 : decode jdk_42_method_66_code 51 = .ok (.goto 4, 3) := by decide +kernel
theorem d_jdk_42_method_66_55 : decode jdk_42_method_66_code 55 = .ok (.ireturn, 1) := by decide +kernel
theorem d_jdk_42_method_66_54 : decode jdk_42_method_66_code 54 = .ok (.iconst 0, 1) := by decide +kernel
theorem d_jdk_52_method_21_0 : decode jdk_52_method_21_code 0 = .ok (.iconst 0, 1) := by decide +kernel
theorem d_jdk_52_method_21_1 : decode jdk_52_method_21_code 1 = .ok (.istore 5, 2) := by decide +kernel
theorem d_jdk_52_method_21_3 : decode jdk_52_method_21_code 3 = .ok (.iload 5, 2) := by decide +kernel
theorem d_jdk_52_method_21_5 : decode jdk_52_method_21_code 5 = .ok (.iload 4, 2) := by decide +kernel
theorem d_jdk_52_method_21_7 : decode jdk_52_method_21_code 7 = .ok (.if_icmp .ge 37, 3) := by decide +kernel
theorem d_jdk_52_method_21_44 : decode jdk_52_method_21_code 44 = .ok (.iload 4, 2) := by decide +kernel
theorem d_jdk_52_method_21_46 : decode jdk_52_method_21_code 46 = .ok (.ireturn, 1) := by decide +kernel
theorem d_jdk_52_method_21_10 : decode jdk_52_method_21_code 10 = .ok (.aload_n 0, 1) := by decide +kernel
theorem d_jdk_52_method_21_11 : decode jdk_52_method_21_code 11 = .ok (.iload_n 1, 1) := by decide +kernel
theorem d_jdk_52_method_21_12 : decode jdk_52_method_21_code 12 = .ok (.caload, 1) := by decide +kernel
theorem d_jdk_52_method_21_13 : decode jdk_52_method_21_code 13 = .ok (.istore 6, 2) := by decide +kernel
theorem d_jdk_52_method_21_15 : decode jdk_52_method_21_code 15 = .ok (.iload 6, 2) := by decide +kernel
theorem d_jdk_52_method_21_17 : decode jdk_52_method_21_code 17 = .ok (.sipush 255, 3) := by decide +kernel
theorem d_jdk_52_method_21_20 : decode jdk_52_method_21_code 20 = .ok (.if_icmp .le 6, 3) := by decide +kernel
theorem d_jdk_52_method_21_26 : decode jdk_52_method_21_code 26 = .ok (.aload_n 2, 1) := by decide +kernel
theorem d_jdk_52_method_21_27 : decode jdk_52_method_21_code 27 = .ok (.iload_n 3, 1) := by decide +kernel
theorem d_jdk_52_method_21_28 : decode jdk_52_method_21_code 28 = .ok (.iload 6, 2) := by decide +kernel
theorem d_jdk_52_method_21_30 : decode jdk_52_method_21_code 30 = .ok (.i2b, 1) := by decide +kernel
theorem d_jdk_52_method_21_31 : decode jdk_52_method_21_code 31 = .ok (.bastore, 1) := by decide +kernel
theorem d_jdk_52_method_21_32 : decode jdk_52_method_21_code 32 = .ok (.iinc 1 1, 3) := by decide +kernel
theorem d_jdk_52_method_21_35 : decode jdk_52_method_21_code 35 = .ok (.iinc 3 1, 3) := by decide +kernel
theorem d_jdk_52_method_21_38 : decode jdk_52_method_21_code 38 = .ok (.iinc 5 1, 3) := by decide +kernel
theorem d_jdk_52_method_21_41 : decode jdk_52_method_21_code 41 = .ok (.goto (-38), 3) := by decide +kernel
theorem d_jdk_52_method_16_0 : decode jdk_52_method_16_code 0 = .ok (.iload_n 2, 1) := by decide +kernel
theorem d_jdk_52_method_16_1 : decode jdk_52_method_16_code 1 = .ok (.newarray .byte, 2) := by decide +kernel
theorem d_jdk_52_method_16_3 : decode jdk_52_method_16_code 3 = .ok (.astore_n 3, 1) := by decide +kernel
theorem d_jdk_52_method_16_4 : decode jdk_52_method_16_code 4 = .ok (.aload_n 0, 1) := by decide +kernel
theorem d_jdk_52_method_16_5 : decode jdk_52_method_16_code 5 = .ok (.iload_n 1, 1) := by decide +kernel
theorem d_jdk_52_method_16_6 : decode jdk_52_method_16_code 6 = .ok (.aload_n 3, 1) := by decide +kernel
theorem d_jdk_52_method_16_7 : decode jdk_52_method_16_code 7 = .ok (.iconst 0, 1) := by decide +kernel
theorem d_jdk_52_method_16_8 : decode jdk_52_method_16_code 8 = .ok (.iload_n 2, 1) := by decide +kernel
theorem d_jdk_52_method_16_9 : decode jdk_52_method_16_code 9 = .ok (.invokestatic 115, 3) := by decide +kernel
theorem d_jdk_52_method_16_12 : decode jdk_52_method_16_code 12 = .ok (.istore 4, 2) := by decide +kernel
theorem d_jdk_52_method_16_14 : decode jdk_52_method_16_code 14 = .ok (.iload 4, 2) := by decide +kernel
theorem d_jdk_52_method_16_16 : decode jdk_52_method_16_code 16 = .ok (.iload_n 2, 1) := by decide +kernel
theorem d_jdk_52_method_16_17 : decode jdk_52_method_16_code 17 = .ok (.if_icmp .eq 40, 3) := by decide +kernel
theorem d_jdk_52_method_16_57 : decode jdk_52_method_16_code 57 = .ok (.aload_n 3, 1) := by decide +kernel
theorem d_jdk_52_method_16_58 : decode jdk_52_method_16_code 58 = .ok (.areturn, 1) := by decide +kernel
theorem d_jdk_52_method_15_0 : decode jdk_52_method_15_code 0 = .ok (.iload_n 1, 1) := by decide +kernel
theorem d_jdk_52_method_15_1 : decode jdk_52_method_15_code 1 = .ok (.aload_n 0, 1) := by decide +kernel
theorem d_jdk_52_method_15_2 : decode jdk_52_method_15_code 2 = .ok (.arraylength, 1) := by decide +kernel
theorem d_jdk_52_method_15_3 : decode jdk_52_method_15_code 3 = .ok (.isub, 1) := by decide +kernel
theorem d_jdk_52_method_15_4 : decode jdk_52_method_15_code 4 = .ok (.bipush 31, 2) := by decide +kernel
theorem d_jdk_52_method_15_6 : decode jdk_52_method_15_code 6 = .ok (.iushr, 1) := by decide +kernel
theorem d_jdk_52_method_15_7 : decode jdk_52_method_15_code 7 = .ok (.i2b, 1) := by decide +kernel
theorem d_jdk_52_method_15_8 : decode jdk_52_method_15_code 8 = .ok (.ireturn, 1) := by decide +kernel
theorem d_jdk_42_method_149_0 : decode jdk_42_method_149_code 0 = .ok (.aload_n 0, 1) := by decide +kernel
theorem d_jdk_42_method_149_1 : decode jdk_42_method_149_code 1 = .ok (.invokespecial 1, 3) := by decide +kernel
theorem d_jdk_42_method_149_4 : decode jdk_42_method_149_code 4 = .ok (.iload_n 3, 1) := by decide +kernel
theorem d_jdk_42_method_149_5 : decode jdk_42_method_149_code 5 = .ok (.ifCond .ne 22, 3) := by decide +kernel
theorem d_jdk_42_method_149_8 : decode jdk_42_method_149_code 8 = .ok (.aload_n 0, 1) := by decide +kernel
theorem d_jdk_42_method_149_9 : decode jdk_42_method_149_code 9 = .ok (.ldc 7, 2) := by decide +kernel
theorem d_jdk_42_method_149_11 : decode jdk_42_method_149_code 11 = .ok (.getfield 9, 3) := by decide +kernel
theorem d_jdk_42_method_149_14 : decode jdk_42_method_149_code 14 = .ok (.putfield 9, 3) := by decide +kernel
theorem d_jdk_42_method_149_17 : decode jdk_42_method_149_code 17 = .ok (.aload_n 0, 1) := by decide +kernel
theorem d_jdk_42_method_149_18 : decode jdk_42_method_149_code 18 = .ok (.ldc 7, 2) := by decide +kernel
theorem d_jdk_42_method_149_20 : decode jdk_42_method_149_code 20 = .ok (.getfield 15, 3) := by decide +kernel
theorem d_jdk_42_method_149_23 : decode jdk_42_method_149_code 23 = .ok (.putfield 15, 3) := by decide +kernel
theorem d_jdk_42_method_149_26 : decode jdk_42_method_149_code 26 = .ok (.return_, 1) := by decide +kernel
theorem d_jdk_42_method_149_27 : decode jdk_42_method_149_code 27 = .ok (.getstatic 38, 3) := by decide +kernel
theorem d_jdk_42_method_149_30 : decode jdk_42_method_149_code 30 = .ok (.ifCond .eq 28, 3) := by decide +kernel
theorem d_jdk_42_method_149_33 : decode jdk_42_method_149_code 33 = .ok (.aload_n 1, 1) := by decide +kernel
theorem d_jdk_42_method_149_34 : decode jdk_42_method_149_code 34 = .ok (.iload_n 2, 1) := by decide +kernel
theorem d_jdk_42_method_149_35 : decode jdk_42_method_149_code 35 = .ok (.iload_n 3, 1) := by decide +kernel
theorem d_jdk_42_method_149_36 : decode jdk_42_method_149_code 36 = .ok (.invokestatic 177, 3) := by decide +kernel
theorem d_jdk_42_method_149_39 : decode jdk_42_method_149_code 39 = .ok (.astore 5, 2) := by decide +kernel
theorem d_jdk_42_method_149_41 : decode jdk_42_method_149_code 41 = .ok (.aload_n 0, 1) := by decide +kernel
theorem d_jdk_42_method_149_42 : decode jdk_42_method_149_code 42 = .ok (.aload 5, 2) := by decide +kernel
theorem d_jdk_42_method_149_44 : decode jdk_42_method_149_code 44 = .ok (.iload_n 3, 1) := by decide +kernel
theorem d_jdk_42_method_149_45 : decode jdk_42_method_149_code 45 = .ok (.invokestatic 47, 3) := by decide +kernel
theorem d_jdk_42_method_149_48 : decode jdk_42_method_149_code 48 = .ok (.putfield 15, 3) := by decide +kernel
theorem d_jdk_42_method_149_51 : decode jdk_42_method_149_code 51 = .ok (.aload_n 0, 1) := by decide +kernel
theorem d_jdk_42_method_149_52 : decode jdk_42_method_149_code 52 = .ok (.aload 5, 2) := by decide +kernel
theorem d_jdk_42_method_149_54 : decode jdk_42_method_149_code 54 = .ok (.putfield 9, 3) := by decide +kernel
theorem d_jdk_42_method_149_57 : decode jdk_42_method_149_code 57 = .ok (.return_, 1) := by decide +kernel
theorem d_jdk_42_method_3_0 : decode jdk_42_method_3_code 0 = .ok (.aload_n 0, 1) := by decide +kernel
theorem d_jdk_42_method_3_1 : decode jdk_42_method_3_code 1 = .ok (.aload_n 1, 1) := by decide +kernel
theorem d_jdk_42_method_3_2 : decode jdk_42_method_3_code 2 = .ok (.iconst 0, 1) := by decide +kernel
theorem d_jdk_42_method_3_3 : decode jdk_42_method_3_code 3 = .ok (.aload_n 1, 1) := by decide +kernel
theorem d_jdk_42_method_3_4 : decode jdk_42_method_3_code 4 = .ok (.arraylength, 1) := by decide +kernel
theorem d_jdk_42_method_3_5 : decode jdk_42_method_3_code 5 = .ok (.aconst_null, 1) := by decide +kernel
theorem d_jdk_42_method_3_6 : decode jdk_42_method_3_code 6 = .ok (.invokespecial 27, 3) := by decide +kernel
theorem d_jdk_42_method_3_9 : decode jdk_42_method_3_code 9 = .ok (.return_, 1) := by decide +kernel
theorem d_method_3_0 : decode method_3_code 0 = .ok (.iload_n 0, 1) := by decide +kernel
theorem d_method_3_1 : decode method_3_code 1 = .ok (.ifCond .ne 12, 3) := by decide +kernel
theorem d_method_3_4 : decode method_3_code 4 = .ok (.iload_n 2, 1) := by decide +kernel
theorem d_method_3_5 : decode method_3_code 5 = .ok (.iload_n 3, 1) := by decide +kernel
theorem d_method_3_6 : decode method_3_code 6 = .ok (.iushr, 1) := by decide +kernel
theorem d_method_3_7 : decode method_3_code 7 = .ok (.sipush 255, 3) := by decide +kernel
theorem d_method_3_10 : decode method_3_code 10 = .ok (.iand, 1) := by decide +kernel
theorem d_method_3_11 : decode method_3_code 11 = .ok (.i2c, 1) := by decide +kernel
theorem d_method_3_12 : decode method_3_code 12 = .ok (.ireturn, 1) := by decide +kernel
theorem d_method_3_13 : decode method_3_code 13 = .ok (.iload_n 1, 1) := by decide +kernel
theorem d_method_3_14 : decode method_3_code 14 = .ok (.ireturn, 1) := by decide +kernel
theorem d_method_4_0 : decode method_4_code 0 = .ok (.iload_n 1, 1) := by decide +kernel
theorem d_method_4_1 : decode method_4_code 1 = .ok (.ifCond .ne 14, 3) := by decide +kernel
theorem d_method_4_4 : decode method_4_code 4 = .ok (.new 20, 3) := by decide +kernel
theorem d_method_4_7 : decode method_4_code 7 = .ok (.dup, 1) := by decide +kernel
theorem d_method_4_8 : decode method_4_code 8 = .ok (.iconst 0, 1) := by decide +kernel
theorem d_method_4_9 : decode method_4_code 9 = .ok (.newarray .char, 2) := by decide +kernel
theorem d_method_4_11 : decode method_4_code 11 = .ok (.invokespecial 46, 3) := by decide +kernel
theorem d_method_4_14 : decode method_4_code 14 = .ok (.areturn, 1) := by decide +kernel
theorem d_method_4_15 : decode method_4_code 15 = .ok (.iload_n 1, 1) := by decide +kernel
theorem d_method_4_16 : decode method_4_code 16 = .ok (.iconst 1, 1) := by decide +kernel
theorem d_method_4_17 : decode method_4_code 17 = .ok (.if_icmp .ne 20, 3) := by decide +kernel
theorem d_method_4_20 : decode method_4_code 20 = .ok (.new 20, 3) := by decide +kernel
theorem d_method_4_23 : decode method_4_code 23 = .ok (.dup, 1) := by decide +kernel
theorem d_method_4_24 : decode method_4_code 24 = .ok (.iconst 1, 1) := by decide +kernel
theorem d_method_4_25 : decode method_4_code 25 = .ok (.newarray .char, 2) := by decide +kernel
theorem d_method_4_27 : decode method_4_code 27 = .ok (.dup, 1) := by decide +kernel
theorem d_method_4_28 : decode method_4_code 28 = .ok (.iconst 0, 1) := by decide +kernel
theorem d_method_4_29 : decode method_4_code 29 = .ok (.aload_n 0, 1) := by decide +kernel
theorem d_method_4_30 : decode method_4_code 30 = .ok (.iconst 0, 1) := by decide +kernel
theorem d_method_4_31 : decode method_4_code 31 = .ok (.caload, 1) := by decide +kernel
theorem d_method_4_32 : decode method_4_code 32 = .ok (.castore, 1) := by decide +kernel
theorem d_method_4_33 : decode method_4_code 33 = .ok (.invokespecial 46, 3) := by decide +kernel
theorem d_method_4_36 : decode method_4_code 36 = .ok (.areturn, 1) := by decide +kernel
theorem d_method_4_37 : decode method_4_code 37 = .ok (.iload_n 1, 1) := by decide +kernel
theorem d_method_4_38 : decode method_4_code 38 = .ok (.iconst 2, 1) := by decide +kernel
theorem d_method_4_39 : decode method_4_code 39 = .ok (.if_icmp .ne 26, 3) := by decide +kernel
theorem d_method_4_42 : decode method_4_code 42 = .ok (.new 20, 3) := by decide +kernel
theorem d_method_4_45 : decode method_4_code 45 = .ok (.dup, 1) := by decide +kernel
theorem d_method_4_46 : decode method_4_code 46 = .ok (.iconst 2, 1) := by decide +kernel
theorem d_method_4_47 : decode method_4_code 47 = .ok (.newarray .char, 2) := by decide +kernel
theorem d_method_4_49 : decode method_4_code 49 = .ok (.dup, 1) := by decide +kernel
theorem d_method_4_50 : decode method_4_code 50 = .ok (.iconst 0, 1) := by decide +kernel
theorem d_method_4_51 : decode method_4_code 51 = .ok (.aload_n 0, 1) := by decide +kernel
theorem d_method_4_52 : decode method_4_code 52 = .ok (.iconst 0, 1) := by decide +kernel
theorem d_method_4_53 : decode method_4_code 53 = .ok (.caload, 1) := by decide +kernel
theorem d_method_4_54 : decode method_4_code 54 = .ok (.castore, 1) := by decide +kernel
theorem d_method_4_55 : decode method_4_code 55 = .ok (.dup, 1) := by decide +kernel
theorem d_method_4_56 : decode method_4_code 56 = .ok (.iconst 1, 1) := by decide +kernel
theorem d_method_4_57 : decode method_4_code 57 = .ok (.aload_n 0, 1) := by decide +kernel
theorem d_method_4_58 : decode method_4_code 58 = .ok (.iconst 1, 1) := by decide +kernel
theorem d_method_4_59 : decode method_4_code 59 = .ok (.caload, 1) := by decide +kernel
theorem d_method_4_60 : decode method_4_code 60 = .ok (.castore, 1) := by decide +kernel
theorem d_method_4_61 : decode method_4_code 61 = .ok (.invokespecial 46, 3) := by decide +kernel
theorem d_method_4_64 : decode method_4_code 64 = .ok (.areturn, 1) := by decide +kernel
theorem d_method_4_65 : decode method_4_code 65 = .ok (.iload_n 1, 1) := by decide +kernel
theorem d_method_4_66 : decode method_4_code 66 = .ok (.iconst 3, 1) := by decide +kernel
theorem d_method_4_67 : decode method_4_code 67 = .ok (.if_icmp .ne 32, 3) := by decide +kernel
theorem d_method_4_70 : decode method_4_code 70 = .ok (.new 20, 3) := by decide +kernel
theorem d_method_4_73 : decode method_4_code 73 = .ok (.dup, 1) := by decide +kernel
theorem d_method_4_74 : decode method_4_code 74 = .ok (.iconst 3, 1) := by decide +kernel
theorem d_method_4_75 : decode method_4_code 75 = .ok (.newarray .char, 2) := by decide +kernel
theorem d_method_4_77 : decode method_4_code 77 = .ok (.dup, 1) := by decide +kernel
theorem d_method_4_78 : decode method_4_code 78 = .ok (.iconst 0, 1) := by decide +kernel
theorem d_method_4_79 : decode method_4_code 79 = .ok (.aload_n 0, 1) := by decide +kernel
theorem d_method_4_80 : decode method_4_code 80 = .ok (.iconst 0, 1) := by decide +kernel
theorem d_method_4_81 : decode method_4_code 81 = .ok (.caload, 1) := by decide +kernel
theorem d_method_4_82 : decode method_4_code 82 = .ok (.castore, 1) := by decide +kernel
theorem d_method_4_83 : decode method_4_code 83 = .ok (.dup, 1) := by decide +kernel
theorem d_method_4_84 : decode method_4_code 84 = .ok (.iconst 1, 1) := by decide +kernel
theorem d_method_4_85 : decode method_4_code 85 = .ok (.aload_n 0, 1) := by decide +kernel
theorem d_method_4_86 : decode method_4_code 86 = .ok (.iconst 1, 1) := by decide +kernel
theorem d_method_4_87 : decode method_4_code 87 = .ok (.caload, 1) := by decide +kernel
theorem d_method_4_88 : decode method_4_code 88 = .ok (.castore, 1) := by decide +kernel
theorem d_method_4_89 : decode method_4_code 89 = .ok (.dup, 1) := by decide +kernel
theorem d_method_4_90 : decode method_4_code 90 = .ok (.iconst 2, 1) := by decide +kernel
theorem d_method_4_91 : decode method_4_code 91 = .ok (.aload_n 0, 1) := by decide +kernel
theorem d_method_4_92 : decode method_4_code 92 = .ok (.iconst 2, 1) := by decide +kernel
theorem d_method_4_93 : decode method_4_code 93 = .ok (.caload, 1) := by decide +kernel
theorem d_method_4_94 : decode method_4_code 94 = .ok (.castore, 1) := by decide +kernel
theorem d_method_4_95 : decode method_4_code 95 = .ok (.invokespecial 46, 3) := by decide +kernel
theorem d_method_4_98 : decode method_4_code 98 = .ok (.areturn, 1) := by decide +kernel
theorem d_method_4_99 : decode method_4_code 99 = .ok (.iload_n 1, 1) := by decide +kernel
theorem d_method_4_100 : decode method_4_code 100 = .ok (.iconst 4, 1) := by decide +kernel
theorem d_method_4_101 : decode method_4_code 101 = .ok (.if_icmp .ne 38, 3) := by decide +kernel
theorem d_method_4_104 : decode method_4_code 104 = .ok (.new 20, 3) := by decide +kernel
theorem d_method_4_107 : decode method_4_code 107 = .ok (.dup, 1) := by decide +kernel
theorem d_method_4_108 : decode method_4_code 108 = .ok (.iconst 4, 1) := by decide +kernel
theorem d_method_4_109 : decode method_4_code 109 = .ok (.newarray .char, 2) := by decide +kernel
theorem d_method_4_111 : decode method_4_code 111 = .ok (.dup, 1) := by decide +kernel
theorem d_method_4_112 : decode method_4_code 112 = .ok (.iconst 0, 1) := by decide +kernel
theorem d_method_4_113 : decode method_4_code 113 = .ok (.aload_n 0, 1) := by decide +kernel
theorem d_method_4_114 : decode method_4_code 114 = .ok (.iconst 0, 1) := by decide +kernel
theorem d_method_4_115 : decode method_4_code 115 = .ok (.caload, 1) := by decide +kernel
theorem d_method_4_116 : decode method_4_code 116 = .ok (.castore, 1) := by decide +kernel
theorem d_method_4_117 : decode method_4_code 117 = .ok (.dup, 1) := by decide +kernel
theorem d_method_4_118 : decode method_4_code 118 = .ok (.iconst 1, 1) := by decide +kernel
theorem d_method_4_119 : decode method_4_code 119 = .ok (.aload_n 0, 1) := by decide +kernel
theorem d_method_4_120 : decode method_4_code 120 = .ok (.iconst 1, 1) := by decide +kernel
theorem d_method_4_121 : decode method_4_code 121 = .ok (.caload, 1) := by decide +kernel
theorem d_method_4_122 : decode method_4_code 122 = .ok (.castore, 1) := by decide +kernel
theorem d_method_4_123 : decode method_4_code 123 = .ok (.dup, 1) := by decide +kernel
theorem d_method_4_124 : decode method_4_code 124 = .ok (.iconst 2, 1) := by decide +kernel
theorem d_method_4_125 : decode method_4_code 125 = .ok (.aload_n 0, 1) := by decide +kernel
theorem d_method_4_126 : decode method_4_code 126 = .ok (.iconst 2, 1) := by decide +kernel
theorem d_method_4_127 : decode method_4_code 127 = .ok (.caload, 1) := by decide +kernel
theorem d_method_4_128 : decode method_4_code 128 = .ok (.castore, 1) := by decide +kernel
theorem d_method_4_129 : decode method_4_code 129 = .ok (.dup, 1) := by decide +kernel
theorem d_method_4_130 : decode method_4_code 130 = .ok (.iconst 3, 1) := by decide +kernel
theorem d_method_4_131 : decode method_4_code 131 = .ok (.aload_n 0, 1) := by decide +kernel
theorem d_method_4_132 : decode method_4_code 132 = .ok (.iconst 3, 1) := by decide +kernel
theorem d_method_4_133 : decode method_4_code 133 = .ok (.caload, 1) := by decide +kernel
theorem d_method_4_134 : decode method_4_code 134 = .ok (.castore, 1) := by decide +kernel
theorem d_method_4_135 : decode method_4_code 135 = .ok (.invokespecial 46, 3) := by decide +kernel
theorem d_method_4_138 : decode method_4_code 138 = .ok (.areturn, 1) := by decide +kernel
theorem d_method_4_139 : decode method_4_code 139 = .ok (.iload_n 1, 1) := by decide +kernel
theorem d_method_4_140 : decode method_4_code 140 = .ok (.iconst 5, 1) := by decide +kernel
theorem d_method_4_141 : decode method_4_code 141 = .ok (.if_icmp .ne 44, 3) := by decide +kernel
theorem d_method_4_144 : decode method_4_code 144 = .ok (.new 20, 3) := by decide +kernel
theorem d_method_4_147 : decode method_4_code 147 = .ok (.dup, 1) := by decide +kernel
theorem d_method_4_148 : decode method_4_code 148 = .ok (.iconst 5, 1) := by decide +kernel
theorem d_method_4_149 : decode method_4_code 149 = .ok (.newarray .char, 2) := by decide +kernel
theorem d_method_4_151 : decode method_4_code 151 = .ok (.dup, 1) := by decide +kernel
theorem d_method_4_152 : decode method_4_code 152 = .ok (.iconst 0, 1) := by decide +kernel
theorem d_method_4_153 : decode method_4_code 153 = .ok (.aload_n 0, 1) := by decide +kernel
theorem d_method_4_154 : decode method_4_code 154 = .ok (.iconst 0, 1) := by decide +kernel
theorem d_method_4_155 : decode method_4_code 155 = .ok (.caload, 1) := by decide +kernel
theorem d_method_4_156 : decode method_4_code 156 = .ok (.castore, 1) := by decide +kernel
theorem d_method_4_157 : decode method_4_code 157 = .ok (.dup, 1) := by decide +kernel
theorem d_method_4_158 : decode method_4_code 158 = .ok (.iconst 1, 1) := by decide +kernel
theorem d_method_4_159 : decode method_4_code 159 = .ok (.aload_n 0, 1) := by decide +kernel
theorem d_method_4_160 : decode method_4_code 160 = .ok (.iconst 1, 1) := by decide +kernel
theorem d_method_4_161 : decode method_4_code 161 = .ok (.caload, 1) := by decide +kernel
theorem d_method_4_162 : decode method_4_code 162 = .ok (.castore, 1) := by decide +kernel
theorem d_method_4_163 : decode method_4_code 163 = .ok (.dup, 1) := by decide +kernel
theorem d_method_4_164 : decode method_4_code 164 = .ok (.iconst 2, 1) := by decide +kernel
theorem d_method_4_165 : decode method_4_code 165 = .ok (.aload_n 0, 1) := by decide +kernel
theorem d_method_4_166 : decode method_4_code 166 = .ok (.iconst 2, 1) := by decide +kernel
theorem d_method_4_167 : decode method_4_code 167 = .ok (.caload, 1) := by decide +kernel
theorem d_method_4_168 : decode method_4_code 168 = .ok (.castore, 1) := by decide +kernel
theorem d_method_4_169 : decode method_4_code 169 = .ok (.dup, 1) := by decide +kernel
theorem d_method_4_170 : decode method_4_code 170 = .ok (.iconst 3, 1) := by decide +kernel
theorem d_method_4_171 : decode method_4_code 171 = .ok (.aload_n 0, 1) := by decide +kernel
theorem d_method_4_172 : decode method_4_code 172 = .ok (.iconst 3, 1) := by decide +kernel
theorem d_method_4_173 : decode method_4_code 173 = .ok (.caload, 1) := by decide +kernel
theorem d_method_4_174 : decode method_4_code 174 = .ok (.castore, 1) := by decide +kernel
theorem d_method_4_175 : decode method_4_code 175 = .ok (.dup, 1) := by decide +kernel
theorem d_method_4_176 : decode method_4_code 176 = .ok (.iconst 4, 1) := by decide +kernel
theorem d_method_4_177 : decode method_4_code 177 = .ok (.aload_n 0, 1) := by decide +kernel
theorem d_method_4_178 : decode method_4_code 178 = .ok (.iconst 4, 1) := by decide +kernel
theorem d_method_4_179 : decode method_4_code 179 = .ok (.caload, 1) := by decide +kernel
theorem d_method_4_180 : decode method_4_code 180 = .ok (.castore, 1) := by decide +kernel
theorem d_method_4_181 : decode method_4_code 181 = .ok (.invokespecial 46, 3) := by decide +kernel
theorem d_method_4_184 : decode method_4_code 184 = .ok (.areturn, 1) := by decide +kernel
theorem d_method_4_185 : decode method_4_code 185 = .ok (.iload_n 1, 1) := by decide +kernel
theorem d_method_4_186 : decode method_4_code 186 = .ok (.bipush 6, 2) := by decide +kernel
theorem d_method_4_188 : decode method_4_code 188 = .ok (.if_icmp .ne 51, 3) := by decide +kernel
theorem d_method_4_191 : decode method_4_code 191 = .ok (.new 20, 3) := by decide +kernel
theorem d_method_4_194 : decode method_4_code 194 = .ok (.dup, 1) := by decide +kernel
theorem d_method_4_195 : decode method_4_code 195 = .ok (.bipush 6, 2) := by decide +kernel
theorem d_method_4_197 : decode method_4_code 197 = .ok (.newarray .char, 2) := by decide +kernel
theorem d_method_4_199 : decode method_4_code 199 = .ok (.dup, 1) := by decide +kernel
theorem d_method_4_200 : decode method_4_code 200 = .ok (.iconst 0, 1) := by decide +kernel
theorem d_method_4_201 : decode method_4_code 201 = .ok (.aload_n 0, 1) := by decide +kernel
theorem d_method_4_202 : decode method_4_code 202 = .ok (.iconst 0, 1) := by decide +kernel
theorem d_method_4_203 : decode method_4_code 203 = .ok (.caload, 1) := by decide +kernel
theorem d_method_4_204 : decode method_4_code 204 = .ok (.castore, 1) := by decide +kernel
theorem d_method_4_205 : decode method_4_code 205 = .ok (.dup, 1) := by decide +kernel
theorem d_method_4_206 : decode method_4_code 206 = .ok (.iconst 1, 1) := by decide +kernel
theorem d_method_4_207 : decode method_4_code 207 = .ok (.aload_n 0, 1) := by decide +kernel
theorem d_method_4_208 : decode method_4_code 208 = .ok (.iconst 1, 1) := by decide +kernel
theorem d_method_4_209 : decode method_4_code 209 = .ok (.caload, 1) := by decide +kernel
theorem d_method_4_210 : decode method_4_code 210 = .ok (.castore, 1) := by decide +kernel
theorem d_method_4_211 : decode method_4_code 211 = .ok (.dup, 1) := by decide +kernel
theorem d_method_4_212 : decode method_4_code 212 = .ok (.iconst 2, 1) := by decide +kernel
theorem d_method_4_213 : decode method_4_code 213 = .ok (.aload_n 0, 1) := by decide +kernel
theorem d_method_4_214 : decode method_4_code 214 = .ok (.iconst 2, 1) := by decide +kernel
theorem d_method_4_215 : decode method_4_code 215 = .ok (.caload, 1) := by decide +kernel
theorem d_method_4_216 : decode method_4_code 216 = .ok (.castore, 1) := by decide +kernel
theorem d_method_4_217 : decode method_4_code 217 = .ok (.dup, 1) := by decide +kernel
theorem d_method_4_218 : decode method_4_code 218 = .ok (.iconst 3, 1) := by decide +kernel
theorem d_method_4_219 : decode method_4_code 219 = .ok (.aload_n 0, 1) := by decide +kernel
theorem d_method_4_220 : decode method_4_code 220 = .ok (.iconst 3, 1) := by decide +kernel
theorem d_method_4_221 : decode method_4_code 221 = .ok (.caload, 1) := by decide +kernel
theorem d_method_4_222 : decode method_4_code 222 = .ok (.castore, 1) := by decide +kernel
theorem d_method_4_223 : decode method_4_code 223 = .ok (.dup, 1) := by decide +kernel
theorem d_method_4_224 : decode method_4_code 224 = .ok (.iconst 4, 1) := by decide +kernel
theorem d_method_4_225 : decode method_4_code 225 = .ok (.aload_n 0, 1) := by decide +kernel
theorem d_method_4_226 : decode method_4_code 226 = .ok (.iconst 4, 1) := by decide +kernel
theorem d_method_4_227 : decode method_4_code 227 = .ok (.caload, 1) := by decide +kernel
theorem d_method_4_228 : decode method_4_code 228 = .ok (.castore, 1) := by decide +kernel
theorem d_method_4_229 : decode method_4_code 229 = .ok (.dup, 1) := by decide +kernel
theorem d_method_4_230 : decode method_4_code 230 = .ok (.iconst 5, 1) := by decide +kernel
theorem d_method_4_231 : decode method_4_code 231 = .ok (.aload_n 0, 1) := by decide +kernel
theorem d_method_4_232 : decode method_4_code 232 = .ok (.iconst 5, 1) := by decide +kernel
theorem d_method_4_233 : decode method_4_code 233 = .ok (.caload, 1) := by decide +kernel
theorem d_method_4_234 : decode method_4_code 234 = .ok (.castore, 1) := by decide +kernel
theorem d_method_4_235 : decode method_4_code 235 = .ok (.invokespecial 46, 3) := by decide +kernel
theorem d_method_4_238 : decode method_4_code 238 = .ok (.areturn, 1) := by decide +kernel
theorem d_method_4_239 : decode method_4_code 239 = .ok (.iload_n 1, 1) := by decide +kernel
theorem d_method_4_240 : decode method_4_code 240 = .ok (.bipush 7, 2) := by decide +kernel
theorem d_method_4_242 : decode method_4_code 242 = .ok (.if_icmp .ne 59, 3) := by decide +kernel
theorem d_method_4_245 : decode method_4_code 245 = .ok (.new 20, 3) := by decide +kernel
theorem d_method_4_248 : decode method_4_code 248 = .ok (.dup, 1) := by decide +kernel
theorem d_method_4_249 : decode method_4_code 249 = .ok (.bipush 7, 2) := by decide +kernel
theorem d_method_4_251 : decode method_4_code 251 = .ok (.newarray .char, 2) := by decide +kernel
theorem d_method_4_253 : decode method_4_code 253 = .ok (.dup, 1) := by decide +kernel
theorem d_method_4_254 : decode method_4_code 254 = .ok (.iconst 0, 1) := by decide +kernel
theorem d_method_4_255 : decode method_4_code 255 = .ok (.aload_n 0, 1) := by decide +kernel
theorem d_method_4_256 : decode method_4_code 256 = .ok (.iconst 0, 1) := by decide +kernel
theorem d_method_4_257 : decode method_4_code 257 = .ok (.caload, 1) := by decide +kernel
theorem d_method_4_258 : decode method_4_code 258 = .ok (.castore, 1) := by decide +kernel
theorem d_method_4_259 : decode method_4_code 259 = .ok (.dup, 1) := by decide +kernel
theorem d_method_4_260 : decode method_4_code 260 = .ok (.iconst 1, 1) := by decide +kernel
theorem d_method_4_261 : decode method_4_code 261 = .ok (.aload_n 0, 1) := by decide +kernel
theorem d_method_4_262 : decode method_4_code 262 = .ok (.iconst 1, 1) := by decide +kernel
theorem d_method_4_263 : decode method_4_code 263 = .ok (.caload, 1) := by decide +kernel
theorem d_method_4_264 : decode method_4_code 264 = .ok (.castore, 1) := by decide +kernel
theorem d_method_4_265 : decode method_4_code 265 = .ok (.dup, 1) := by decide +kernel
theorem d_method_4_266 : decode method_4_code 266 = .ok (.iconst 2, 1) := by decide +kernel
theorem d_method_4_267 : decode method_4_code 267 = .ok (.aload_n 0, 1) := by decide +kernel
theorem d_method_4_268 : decode method_4_code 268 = .ok (.iconst 2, 1) := by decide +kernel
theorem d_method_4_269 : decode method_4_code 269 = .ok (.caload, 1) := by decide +kernel
theorem d_method_4_270 : decode method_4_code 270 = .ok (.castore, 1) := by decide +kernel
theorem d_method_4_271 : decode method_4_code 271 = .ok (.dup, 1) := by decide +kernel
theorem d_method_4_272 : decode method_4_code 272 = .ok (.iconst 3, 1) := by decide +kernel
theorem d_method_4_273 : decode method_4_code 273 = .ok (.aload_n 0, 1) := by decide +kernel
theorem d_method_4_274 : decode method_4_code 274 = .ok (.iconst 3, 1) := by decide +kernel
theorem d_method_4_275 : decode method_4_code 275 = .ok (.caload, 1) := by decide +kernel
theorem d_method_4_276 : decode method_4_code 276 = .ok (.castore, 1) := by decide +kernel
theorem d_method_4_277 : decode method_4_code 277 = .ok (.dup, 1) := by decide +kernel
theorem d_method_4_278 : decode method_4_code 278 = .ok (.iconst 4, 1) := by decide +kernel
theorem d_method_4_279 : decode method_4_code 279 = .ok (.aload_n 0, 1) := by decide +kernel
theorem d_method_4_280 : decode method_4_code 280 = .ok (.iconst 4, 1) := by decide +kernel
theorem d_method_4_281 : decode method_4_code 281 = .ok (.caload, 1) := by decide +kernel
theorem d_method_4_282 : decode method_4_code 282 = .ok (.castore, 1) := by decide +kernel
theorem d_method_4_283 : decode method_4_code 283 = .ok (.dup, 1) := by decide +kernel
theorem d_method_4_284 : decode method_4_code 284 = .ok (.iconst 5, 1) := by decide +kernel
theorem d_method_4_285 : decode method_4_code 285 = .ok (.aload_n 0, 1) := by decide +kernel
theorem d_method_4_286 : decode method_4_code 286 = .ok (.iconst 5, 1) := by decide +kernel
theorem d_method_4_287 : decode method_4_code 287 = .ok (.caload, 1) := by decide +kernel
theorem d_method_4_288 : decode method_4_code 288 = .ok (.castore, 1) := by decide +kernel
theorem d_method_4_289 : decode method_4_code 289 = .ok (.dup, 1) := by decide +kernel
theorem d_method_4_290 : decode method_4_code 290 = .ok (.bipush 6, 2) := by decide +kernel
theorem d_method_4_292 : decode method_4_code 292 = .ok (.aload_n 0, 1) := by decide +kernel
theorem d_method_4_293 : decode method_4_code 293 = .ok (.bipush 6, 2) := by decide +kernel
theorem d_method_4_295 : decode method_4_code 295 = .ok (.caload, 1) := by decide +kernel
theorem d_method_4_296 : decode method_4_code 296 = .ok (.castore, 1) := by decide +kernel
theorem d_method_4_297 : decode method_4_code 297 = .ok (.invokespecial 46, 3) := by decide +kernel
theorem d_method_4_300 : decode method_4_code 300 = .ok (.areturn, 1) := by decide +kernel
theorem d_method_4_301 : decode method_4_code 301 = .ok (.iload_n 1, 1) := by decide +kernel
theorem d_method_4_302 : decode method_4_code 302 = .ok (.bipush 8, 2) := by decide +kernel
theorem d_method_4_304 : decode method_4_code 304 = .ok (.if_icmp .ne 67, 3) := by decide +kernel
theorem d_method_4_307 : decode method_4_code 307 = .ok (.new 20, 3) := by decide +kernel
theorem d_method_4_310 : decode method_4_code 310 = .ok (.dup, 1) := by decide +kernel
theorem d_method_4_311 : decode method_4_code 311 = .ok (.bipush 8, 2) := by decide +kernel
theorem d_method_4_313 : decode method_4_code 313 = .ok (.newarray .char, 2) := by decide +kernel
theorem d_method_4_315 : decode method_4_code 315 = .ok (.dup, 1) := by decide +kernel
theorem d_method_4_316 : decode method_4_code 316 = .ok (.iconst 0, 1) := by decide +kernel
theorem d_method_4_317 : decode method_4_code 317 = .ok (.aload_n 0, 1) := by decide +kernel
theorem d_method_4_318 : decode method_4_code 318 = .ok (.iconst 0, 1) := by decide +kernel
theorem d_method_4_319 : decode method_4_code 319 = .ok (.caload, 1) := by decide +kernel
theorem d_method_4_320 : decode method_4_code 320 = .ok (.castore, 1) := by decide +kernel
theorem d_method_4_321 : decode method_4_code 321 = .ok (.dup, 1) := by decide +kernel
theorem d_method_4_322 : decode method_4_code 322 = .ok (.iconst 1, 1) := by decide +kernel
theorem d_method_4_323 : decode method_4_code 323 = .ok (.aload_n 0, 1) := by decide +kernel
theorem d_method_4_324 : decode method_4_code 324 = .ok (.iconst 1, 1) := by decide +kernel
theorem d_method_4_325 : decode method_4_code 325 = .ok (.caload, 1) := by decide +kernel
theorem d_method_4_326 : decode method_4_code 326 = .ok (.castore, 1) := by decide +kernel
theorem d_method_4_327 : decode method_4_code 327 = .ok (.dup, 1) := by decide +kernel
theorem d_method_4_328 : decode method_4_code 328 = .ok (.iconst 2, 1) := by decide +kernel
theorem d_method_4_329 : decode method_4_code 329 = .ok (.aload_n 0, 1) := by decide +kernel
theorem d_method_4_330 : decode method_4_code 330 = .ok (.iconst 2, 1) := by decide +kernel
theorem d_method_4_331 : decode method_4_code 331 = .ok (.caload, 1) := by decide +kernel
theorem d_method_4_332 : decode method_4_code 332 = .ok (.castore, 1) := by decide +kernel
theorem d_method_4_333 : decode method_4_code 333 = .ok (.dup, 1) := by decide +kernel
theorem d_method_4_334 : decode method_4_code 334 = .ok (.iconst 3, 1) := by decide +kernel
theorem d_method_4_335 : decode method_4_code 335 = .ok (.aload_n 0, 1) := by decide +kernel
theorem d_method_4_336 : decode method_4_code 336 = .ok (.iconst 3, 1) := by decide +kernel
theorem d_method_4_337 : decode method_4_code 337 = .ok (.caload, 1) := by decide +kernel
theorem d_method_4_338 : decode method_4_code 338 = .ok (.castore, 1) := by decide +kernel
theorem d_method_4_339 : decode method_4_code 339 = .ok (.dup, 1) := by decide +kernel
theorem d_method_4_340 : decode method_4_code 340 = .ok (.iconst 4, 1) := by decide +kernel
theorem d_method_4_341 : decode method_4_code 341 = .ok (.aload_n 0, 1) := by decide +kernel
theorem d_method_4_342 : decode method_4_code 342 = .ok (.iconst 4, 1) := by decide +kernel
theorem d_method_4_343 : decode method_4_code 343 = .ok (.caload, 1) := by decide +kernel
theorem d_method_4_344 : decode method_4_code 344 = .ok (.castore, 1) := by decide +kernel
theorem d_method_4_345 : decode method_4_code 345 = .ok (.dup, 1) := by decide +kernel
theorem d_method_4_346 : decode method_4_code 346 = .ok (.iconst 5, 1) := by decide +kernel
theorem d_method_4_347 : decode method_4_code 347 = .ok (.aload_n 0, 1) := by decide +kernel
theorem d_method_4_348 : decode method_4_code 348 = .ok (.iconst 5, 1) := by decide +kernel
theorem d_method_4_349 : decode method_4_code 349 = .ok (.caload, 1) := by decide +kernel
theorem d_method_4_350 : decode method_4_code 350 = .ok (.castore, 1) := by decide +kernel
theorem d_method_4_351 : decode method_4_code 351 = .ok (.dup, 1) := by decide +kernel
theorem d_method_4_352 : decode method_4_code 352 = .ok (.bipush 6, 2) := by decide +kernel
theorem d_method_4_354 : decode method_4_code 354 = .ok (.aload_n 0, 1) := by decide +kernel
theorem d_method_4_355 : decode method_4_code 355 = .ok (.bipush 6, 2) := by decide +kernel
theorem d_method_4_357 : decode method_4_code 357 = .ok (.caload, 1) := by decide +kernel
theorem d_method_4_358 : decode method_4_code 358 = .ok (.castore, 1) := by decide +kernel
theorem d_method_4_359 : decode method_4_code 359 = .ok (.dup, 1) := by decide +kernel
theorem d_method_4_360 : decode method_4_code 360 = .ok (.bipush 7, 2) := by decide +kernel
theorem d_method_4_362 : decode method_4_code 362 = .ok (.aload_n 0, 1) := by decide +kernel
theorem d_method_4_363 : decode method_4_code 363 = .ok (.bipush 7, 2) := by decide +kernel
theorem d_method_4_365 : decode method_4_code 365 = .ok (.caload, 1) := by decide +kernel
theorem d_method_4_366 : decode method_4_code 366 = .ok (.castore, 1) := by decide +kernel
theorem d_method_4_367 : decode method_4_code 367 = .ok (.invokespecial 46, 3) := by decide +kernel
theorem d_method_4_370 : decode method_4_code 370 = .ok (.areturn, 1) := by decide +kernel
theorem d_method_4_371 : decode method_4_code 371 = .ok (.iload_n 1, 1) := by decide +kernel
theorem d_method_4_372 : decode method_4_code 372 = .ok (.bipush 9, 2) := by decide +kernel
theorem d_method_4_374 : decode method_4_code 374 = .ok (.if_icmp .ne 75, 3) := by decide +kernel
theorem d_method_4_377 : decode method_4_code 377 = .ok (.new 20, 3) := by decide +kernel
theorem d_method_4_380 : decode method_4_code 380 = .ok (.dup, 1) := by decide +kernel
theorem d_method_4_381 : decode method_4_code 381 = .ok (.bipush 9, 2) := by decide +kernel
theorem d_method_4_383 : decode method_4_code 383 = .ok (.newarray .char, 2) := by decide +kernel
theorem d_method_4_385 : decode method_4_code 385 = .ok (.dup, 1) := by decide +kernel
theorem d_method_4_386 : decode method_4_code 386 = .ok (.iconst 0, 1) := by decide +kernel
theorem d_method_4_387 : decode method_4_code 387 = .ok (.aload_n 0, 1) := by decide +kernel
theorem d_method_4_388 : decode method_4_code 388 = .ok (.iconst 0, 1) := by decide +kernel
theorem d_method_4_389 : decode method_4_code 389 = .ok (.caload, 1) := by decide +kernel
theorem d_method_4_390 : decode method_4_code 390 = .ok (.castore, 1) := by decide +kernel
theorem d_method_4_391 : decode method_4_code 391 = .ok (.dup, 1) := by decide +kernel
theorem d_method_4_392 : decode method_4_code 392 = .ok (.iconst 1, 1) := by decide +kernel
theorem d_method_4_393 : decode method_4_code 393 = .ok (.aload_n 0, 1) := by decide +kernel
theorem d_method_4_394 : decode method_4_code 394 = .ok (.iconst 1, 1) := by decide +kernel
theorem d_method_4_395 : decode method_4_code 395 = .ok (.caload, 1) := by decide +kernel
theorem d_method_4_396 : decode method_4_code 396 = .ok (.castore, 1) := by decide +kernel
theorem d_method_4_397 : decode method_4_code 397 = .ok (.dup, 1) := by decide +kernel
theorem d_method_4_398 : decode method_4_code 398 = .ok (.iconst 2, 1) := by decide +kernel
theorem d_method_4_399 : decode method_4_code 399 = .ok (.aload_n 0, 1) := by decide +kernel
theorem d_method_4_400 : decode method_4_code 400 = .ok (.iconst 2, 1) := by decide +kernel
theorem d_method_4_401 : decode method_4_code 401 = .ok (.caload, 1) := by decide +kernel
theorem d_method_4_402 : decode method_4_code 402 = .ok (.castore, 1) := by decide +kernel
theorem d_method_4_403 : decode method_4_code 403 = .ok (.dup, 1) := by decide +kernel
theorem d_method_4_404 : decode method_4_code 404 = .ok (.iconst 3, 1) := by decide +kernel
theorem d_method_4_405 : decode method_4_code 405 = .ok (.aload_n 0, 1) := by decide +kernel
theorem d_method_4_406 : decode method_4_code 406 = .ok (.iconst 3, 1) := by decide +kernel
theorem d_method_4_407 : decode method_4_code 407 = .ok (.caload, 1) := by decide +kernel
theorem d_method_4_408 : decode method_4_code 408 = .ok (.castore, 1) := by decide +kernel
theorem d_method_4_409 : decode method_4_code 409 = .ok (.dup, 1) := by decide +kernel
theorem d_method_4_410 : decode method_4_code 410 = .ok (.iconst 4, 1) := by decide +kernel
theorem d_method_4_411 : decode method_4_code 411 = .ok (.aload_n 0, 1) := by decide +kernel
theorem d_method_4_412 : decode method_4_code 412 = .ok (.iconst 4, 1) := by decide +kernel
theorem d_method_4_413 : decode method_4_code 413 = .ok (.caload, 1) := by decide +kernel
theorem d_method_4_414 : decode method_4_code 414 = .ok (.castore, 1) := by decide +kernel
theorem d_method_4_415 : decode method_4_code 415 = .ok (.dup, 1) := by decide +kernel
theorem d_method_4_416 : decode method_4_code 416 = .ok (.iconst 5, 1) := by decide +kernel
theorem d_method_4_417 : decode method_4_code 417 = .ok (.aload_n 0, 1) := by decide +kernel
theorem d_method_4_418 : decode method_4_code 418 = .ok (.iconst 5, 1) := by decide +kernel
theorem d_method_4_419 : decode method_4_code 419 = .ok (.caload, 1) := by decide +kernel
theorem d_method_4_420 : decode method_4_code 420 = .ok (.castore, 1) := by decide +kernel
theorem d_method_4_421 : decode method_4_code 421 = .ok (.dup, 1) := by decide +kernel
theorem d_method_4_422 : decode method_4_code 422 = .ok (.bipush 6, 2) := by decide +kernel
theorem d_method_4_424 : decode method_4_code 424 = .ok (.aload_n 0, 1) := by decide +kernel
theorem d_method_4_425 : decode method_4_code 425 = .ok (.bipush 6, 2) := by decide +kernel
theorem d_method_4_427 : decode method_4_code 427 = .ok (.caload, 1) := by decide +kernel
theorem d_method_4_428 : decode method_4_code 428 = .ok (.castore, 1) := by decide +kernel
theorem d_method_4_429 : decode method_4_code 429 = .ok (.dup, 1) := by decide +kernel
theorem d_method_4_430 : decode method_4_code 430 = .ok (.bipush 7, 2) := by decide +kernel
theorem d_method_4_432 : decode method_4_code 432 = .ok (.aload_n 0, 1) := by decide +kernel
theorem d_method_4_433 : decode method_4_code 433 = .ok (.bipush 7, 2) := by decide +kernel
theorem d_method_4_435 : decode method_4_code 435 = .ok (.caload, 1) := by decide +kernel
theorem d_method_4_436 : decode method_4_code 436 = .ok (.castore, 1) := by decide +kernel
theorem d_method_4_437 : decode method_4_code 437 = .ok (.dup, 1) := by decide +kernel
theorem d_method_4_438 : decode method_4_code 438 = .ok (.bipush 8, 2) := by decide +kernel
theorem d_method_4_440 : decode method_4_code 440 = .ok (.aload_n 0, 1) := by decide +kernel
theorem d_method_4_441 : decode method_4_code 441 = .ok (.bipush 8, 2) := by decide +kernel
theorem d_method_4_443 : decode method_4_code 443 = .ok (.caload, 1) := by decide +kernel
theorem d_method_4_444 : decode method_4_code 444 = .ok (.castore, 1) := by decide +kernel
theorem d_method_4_445 : decode method_4_code 445 = .ok (.invokespecial 46, 3) := by decide +kernel
theorem d_method_4_448 : decode method_4_code 448 = .ok (.areturn, 1) := by decide +kernel
theorem d_method_4_449 : decode method_4_code 449 = .ok (.iload_n 1, 1) := by decide +kernel
theorem d_method_4_450 : decode method_4_code 450 = .ok (.bipush 10, 2) := by decide +kernel
theorem d_method_4_452 : decode method_4_code 452 = .ok (.if_icmp .ne 83, 3) := by decide +kernel
theorem d_method_4_455 : decode method_4_code 455 = .ok (.new 20, 3) := by decide +kernel
theorem d_method_4_458 : decode method_4_code 458 = .ok (.dup, 1) := by decide +kernel
theorem d_method_4_459 : decode method_4_code 459 = .ok (.bipush 10, 2) := by decide +kernel
theorem d_method_4_461 : decode method_4_code 461 = .ok (.newarray .char, 2) := by decide +kernel
theorem d_method_4_463 : decode method_4_code 463 = .ok (.dup, 1) := by decide +kernel
theorem d_method_4_464 : decode method_4_code 464 = .ok (.iconst 0, 1) := by decide +kernel
theorem d_method_4_465 : decode method_4_code 465 = .ok (.aload_n 0, 1) := by decide +kernel
theorem d_method_4_466 : decode method_4_code 466 = .ok (.iconst 0, 1) := by decide +kernel
theorem d_method_4_467 : decode method_4_code 467 = .ok (.caload, 1) := by decide +kernel
theorem d_method_4_468 : decode method_4_code 468 = .ok (.castore, 1) := by decide +kernel
theorem d_method_4_469 : decode method_4_code 469 = .ok (.dup, 1) := by decide +kernel
theorem d_method_4_470 : decode method_4_code 470 = .ok (.iconst 1, 1) := by decide +kernel
theorem d_method_4_471 : decode method_4_code 471 = .ok (.aload_n 0, 1) := by decide +kernel
theorem d_method_4_472 : decode method_4_code 472 = .ok (.iconst 1, 1) := by decide +kernel
theorem d_method_4_473 : decode method_4_code 473 = .ok (.caload, 1) := by decide +kernel
theorem d_method_4_474 : decode method_4_code 474 = .ok (.castore, 1) := by decide +kernel
theorem d_method_4_475 : decode method_4_code 475 = .ok (.dup, 1) := by decide +kernel
theorem d_method_4_476 : decode method_4_code 476 = .ok (.iconst 2, 1) := by decide +kernel
theorem d_method_4_477 : decode method_4_code 477 = .ok (.aload_n 0, 1) := by decide +kernel
theorem d_method_4_478 : decode method_4_code 478 = .ok (.iconst 2, 1) := by decide +kernel
theorem d_method_4_479 : decode method_4_code 479 = .ok (.caload, 1) := by decide +kernel
theorem d_method_4_480 : decode method_4_code 480 = .ok (.castore, 1) := by decide +kernel
theorem d_method_4_481 : decode method_4_code 481 = .ok (.dup, 1) := by decide +kernel
theorem d_method_4_482 : decode method_4_code 482 = .ok (.iconst 3, 1) := by decide +kernel
theorem d_method_4_483 : decode method_4_code 483 = .ok (.aload_n 0, 1) := by decide +kernel
theorem d_method_4_484 : decode method_4_code 484 = .ok (.iconst 3, 1) := by decide +kernel
theorem d_method_4_485 : decode method_4_code 485 = .ok (.caload, 1) := by decide +kernel
theorem d_method_4_486 : decode method_4_code 486 = .ok (.castore, 1) := by decide +kernel
theorem d_method_4_487 : decode method_4_code 487 = .ok (.dup, 1) := by decide +kernel
theorem d_method_4_488 : decode method_4_code 488 = .ok (.iconst 4, 1) := by decide +kernel
theorem d_method_4_489 : decode method_4_code 489 = .ok (.aload_n 0, 1) := by decide +kernel
theorem d_method_4_490 : decode method_4_code 490 = .ok (.iconst 4, 1) := by decide +kernel
theorem d_method_4_491 : decode method_4_code 491 = .ok (.caload, 1) := by decide +kernel
theorem d_method_4_492 : decode method_4_code 492 = .ok (.castore, 1) := by decide +kernel
theorem d_method_4_493 : decode method_4_code 493 = .ok (.dup, 1) := by decide +kernel
theorem d_method_4_494 : decode method_4_code 494 = .ok (.iconst 5, 1) := by decide +kernel
theorem d_method_4_495 : decode method_4_code 495 = .ok (.aload_n 0, 1) := by decide +kernel
theorem d_method_4_496 : decode method_4_code 496 = .ok (.iconst 5, 1) := by decide +kernel
theorem d_method_4_497 : decode method_4_code 497 = .ok (.caload, 1) := by decide +kernel
theorem d_method_4_498 : decode method_4_code 498 = .ok (.castore, 1) := by decide +kernel
theorem d_method_4_499 : decode method_4_code 499 = .ok (.dup, 1) := by decide +kernel
theorem d_method_4_500 : decode method_4_code 500 = .ok (.bipush 6, 2) := by decide +kernel
theorem d_method_4_502 : decode method_4_code 502 = .ok (.aload_n 0, 1) := by decide +kernel
theorem d_method_4_503 : decode method_4_code 503 = .ok (.bipush 6, 2) := by decide +kernel
theorem d_method_4_505 : decode method_4_code 505 = .ok (.caload, 1) := by decide +kernel
theorem d_method_4_506 : decode method_4_code 506 = .ok (.castore, 1) := by decide +kernel
theorem d_method_4_507 : decode method_4_code 507 = .ok (.dup, 1) := by decide +kernel
theorem d_method_4_508 : decode method_4_code 508 = .ok (.bipush 7, 2) := by decide +kernel
theorem d_method_4_510 : decode method_4_code 510 = .ok (.aload_n 0, 1) := by decide +kernel
theorem d_method_4_511 : decode method_4_code 511 = .ok (.bipush 7, 2) := by decide +kernel
theorem d_method_4_513 : decode method_4_code 513 = .ok (.caload, 1) := by decide +kernel
theorem d_method_4_514 : decode method_4_code 514 = .ok (.castore, 1) := by decide +kernel
theorem d_method_4_515 : decode method_4_code 515 = .ok (.dup, 1) := by decide +kernel
theorem d_method_4_516 : decode method_4_code 516 = .ok (.bipush 8, 2) := by decide +kernel
theorem d_method_4_518 : decode method_4_code 518 = .ok (.aload_n 0, 1) := by decide +kernel
theorem d_method_4_519 : decode method_4_code 519 = .ok (.bipush 8, 2) := by decide +kernel
theorem d_method_4_521 : decode method_4_code 521 = .ok (.caload, 1) := by decide +kernel
theorem d_method_4_522 : decode method_4_code 522 = .ok (.castore, 1) := by decide +kernel
theorem d_method_4_523 : decode method_4_code 523 = .ok (.dup, 1) := by decide +kernel
theorem d_method_4_524 : decode method_4_code 524 = .ok (.bipush 9, 2) := by decide +kernel
theorem d_method_4_526 : decode method_4_code 526 = .ok (.aload_n 0, 1) := by decide +kernel
theorem d_method_4_527 : decode method_4_code 527 = .ok (.bipush 9, 2) := by decide +kernel
theorem d_method_4_529 : decode method_4_code 529 = .ok (.caload, 1) := by decide +kernel
theorem d_method_4_530 : decode method_4_code 530 = .ok (.castore, 1) := by decide +kernel
theorem d_method_4_531 : decode method_4_code 531 = .ok (.invokespecial 46, 3) := by decide +kernel
theorem d_method_4_534 : decode method_4_code 534 = .ok (.areturn, 1) := by decide +kernel
theorem d_method_4_535 : decode method_4_code 535 = .ok (.iload_n 1, 1) := by decide +kernel
theorem d_method_4_536 : decode method_4_code 536 = .ok (.bipush 11, 2) := by decide +kernel
theorem d_method_4_538 : decode method_4_code 538 = .ok (.if_icmp .ne 91, 3) := by decide +kernel
theorem d_method_4_541 : decode method_4_code 541 = .ok (.new 20, 3) := by decide +kernel
theorem d_method_4_544 : decode method_4_code 544 = .ok (.dup, 1) := by decide +kernel
theorem d_method_4_545 : decode method_4_code 545 = .ok (.bipush 11, 2) := by decide +kernel
theorem d_method_4_547 : decode method_4_code 547 = .ok (.newarray .char, 2) := by decide +kernel
theorem d_method_4_549 : decode method_4_code 549 = .ok (.dup, 1) := by decide +kernel
theorem d_method_4_550 : decode method_4_code 550 = .ok (.iconst 0, 1) := by decide +kernel
theorem d_method_4_551 : decode method_4_code 551 = .ok (.aload_n 0, 1) := by decide +kernel
theorem d_method_4_552 : decode method_4_code 552 = .ok (.iconst 0, 1) := by decide +kernel
theorem d_method_4_553 : decode method_4_code 553 = .ok (.caload, 1) := by decide +kernel
theorem d_method_4_554 : decode method_4_code 554 = .ok (.castore, 1) := by decide +kernel
theorem d_method_4_555 : decode method_4_code 555 = .ok (.dup, 1) := by decide +kernel
theorem d_method_4_556 : decode method_4_code 556 = .ok (.iconst 1, 1) := by decide +kernel
theorem d_method_4_557 : decode method_4_code 557 = .ok (.aload_n 0, 1) := by decide +kernel
theorem d_method_4_558 : decode method_4_code 558 = .ok (.iconst 1, 1) := by decide +kernel
theorem d_method_4_559 : decode method_4_code 559 = .ok (.caload, 1) := by decide +kernel
theorem d_method_4_560 : decode method_4_code 560 = .ok (.castore, 1) := by decide +kernel
theorem d_method_4_561 : decode method_4_code 561 = .ok (.dup, 1) := by decide +kernel
theorem d_method_4_562 : decode method_4_code 562 = .ok (.iconst 2, 1) := by decide +kernel
theorem d_method_4_563 : decode method_4_code 563 = .ok (.aload_n 0, 1) := by decide +kernel
theorem d_method_4_564 : decode method_4_code 564 = .ok (.iconst 2, 1) := by decide +kernel
theorem d_method_4_565 : decode method_4_code 565 = .ok (.caload, 1) := by decide +kernel
theorem d_method_4_566 : decode method_4_code 566 = .ok (.castore, 1) := by decide +kernel
theorem d_method_4_567 : decode method_4_code 567 = .ok (.dup, 1) := by decide +kernel
theorem d_method_4_568 : decode method_4_code 568 = .ok (.iconst 3, 1) := by decide +kernel
theorem d_method_4_569 : decode method_4_code 569 = .ok (.aload_n 0, 1) := by decide +kernel
theorem d_method_4_570 : decode method_4_code 570 = .ok (.iconst 3, 1) := by decide +kernel
theorem d_method_4_571 : decode method_4_code 571 = .ok (.caload, 1) := by decide +kernel
theorem d_method_4_572 : decode method_4_code 572 = .ok (.castore, 1) := by decide +kernel
theorem d_method_4_573 : decode method_4_code 573 = .ok (.dup, 1) := by decide +kernel
theorem d_method_4_574 : decode method_4_code 574 = .ok (.iconst 4, 1) := by decide +kernel
theorem d_method_4_575 : decode method_4_code 575 = .ok (.aload_n 0, 1) := by decide +kernel
theorem d_method_4_576 : decode method_4_code 576 = .ok (.iconst 4, 1) := by decide +kernel
theorem d_method_4_577 : decode method_4_code 577 = .ok (.caload, 1) := by decide +kernel
theorem d_method_4_578 : decode method_4_code 578 = .ok (.castore, 1) := by decide +kernel
theorem d_method_4_579 : decode method_4_code 579 = .ok (.dup, 1) := by decide +kernel
theorem d_method_4_580 : decode method_4_code 580 = .ok (.iconst 5, 1) := by decide +kernel
theorem d_method_4_581 : decode method_4_code 581 = .ok (.aload_n 0, 1) := by decide +kernel
theorem d_method_4_582 : decode method_4_code 582 = .ok (.iconst 5, 1) := by decide +kernel
theorem d_method_4_583 : decode method_4_code 583 = .ok (.caload, 1) := by decide +kernel
theorem d_method_4_584 : decode method_4_code 584 = .ok (.castore, 1) := by decide +kernel
theorem d_method_4_585 : decode method_4_code 585 = .ok (.dup, 1) := by decide +kernel
theorem d_method_4_586 : decode method_4_code 586 = .ok (.bipush 6, 2) := by decide +kernel
theorem d_method_4_588 : decode method_4_code 588 = .ok (.aload_n 0, 1) := by decide +kernel
theorem d_method_4_589 : decode method_4_code 589 = .ok (.bipush 6, 2) := by decide +kernel
theorem d_method_4_591 : decode method_4_code 591 = .ok (.caload, 1) := by decide +kernel
theorem d_method_4_592 : decode method_4_code 592 = .ok (.castore, 1) := by decide +kernel
theorem d_method_4_593 : decode method_4_code 593 = .ok (.dup, 1) := by decide +kernel
theorem d_method_4_594 : decode method_4_code 594 = .ok (.bipush 7, 2) := by decide +kernel
theorem d_method_4_596 : decode method_4_code 596 = .ok (.aload_n 0, 1) := by decide +kernel
theorem d_method_4_597 : decode method_4_code 597 = .ok (.bipush 7, 2) := by decide +kernel
theorem d_method_4_599 : decode method_4_code 599 = .ok (.caload, 1) := by decide +kernel
theorem d_method_4_600 : decode method_4_code 600 = .ok (.castore, 1) := by decide +kernel
theorem d_method_4_601 : decode method_4_code 601 = .ok (.dup, 1) := by decide +kernel
theorem d_method_4_602 : decode method_4_code 602 = .ok (.bipush 8, 2) := by decide +kernel
theorem d_method_4_604 : decode method_4_code 604 = .ok (.aload_n 0, 1) := by decide +kernel
theorem d_method_4_605 : decode method_4_code 605 = .ok (.bipush 8, 2) := by decide +kernel
theorem d_method_4_607 : decode method_4_code 607 = .ok (.caload, 1) := by decide +kernel
theorem d_method_4_608 : decode method_4_code 608 = .ok (.castore, 1) := by decide +kernel
theorem d_method_4_609 : decode method_4_code 609 = .ok (.dup, 1) := by decide +kernel
theorem d_method_4_610 : decode method_4_code 610 = .ok (.bipush 9, 2) := by decide +kernel
theorem d_method_4_612 : decode method_4_code 612 = .ok (.aload_n 0, 1) := by decide +kernel
theorem d_method_4_613 : decode method_4_code 613 = .ok (.bipush 9, 2) := by decide +kernel
theorem d_method_4_615 : decode method_4_code 615 = .ok (.caload, 1) := by decide +kernel
theorem d_method_4_616 : decode method_4_code 616 = .ok (.castore, 1) := by decide +kernel
theorem d_method_4_617 : decode method_4_code 617 = .ok (.dup, 1) := by decide +kernel
theorem d_method_4_618 : decode method_4_code 618 = .ok (.bipush 10, 2) := by decide +kernel
theorem d_method_4_620 : decode method_4_code 620 = .ok (.aload_n 0, 1) := by decide +kernel
theorem d_method_4_621 : decode method_4_code 621 = .ok (.bipush 10, 2) := by decide +kernel
theorem d_method_4_623 : decode method_4_code 623 = .ok (.caload, 1) := by decide +kernel
theorem d_method_4_624 : decode method_4_code 624 = .ok (.castore, 1) := by decide +kernel
theorem d_method_4_625 : decode method_4_code 625 = .ok (.invokespecial 46, 3) := by decide +kernel
theorem d_method_4_628 : decode method_4_code 628 = .ok (.areturn, 1) := by decide +kernel
theorem d_method_4_629 : decode method_4_code 629 = .ok (.iload_n 1, 1) := by decide +kernel
theorem d_method_4_630 : decode method_4_code 630 = .ok (.bipush 12, 2) := by decide +kernel
theorem d_method_4_632 : decode method_4_code 632 = .ok (.if_icmp .ne 99, 3) := by decide +kernel
theorem d_method_4_635 : decode method_4_code 635 = .ok (.new 20, 3) := by decide +kernel
theorem d_method_4_638 : decode method_4_code 638 = .ok (.dup, 1) := by decide +kernel
theorem d_method_4_639 : decode method_4_code 639 = .ok (.bipush 12, 2) := by decide +kernel
theorem d_method_4_641 : decode method_4_code 641 = .ok (.newarray .char, 2) := by decide +kernel
theorem d_method_4_643 : decode method_4_code 643 = .ok (.dup, 1) := by decide +kernel
theorem d_method_4_644 : decode method_4_code 644 = .ok (.iconst 0, 1) := by decide +kernel
theorem d_method_4_645 : decode method_4_code 645 = .ok (.aload_n 0, 1) := by decide +kernel
theorem d_method_4_646 : decode method_4_code 646 = .ok (.iconst 0, 1) := by decide +kernel
theorem d_method_4_647 : decode method_4_code 647 = .ok (.caload, 1) := by decide +kernel
theorem d_method_4_648 : decode method_4_code 648 = .ok (.castore, 1) := by decide +kernel
theorem d_method_4_649 : decode method_4_code 649 = .ok (.dup, 1) := by decide +kernel
theorem d_method_4_650 : decode method_4_code 650 = .ok (.iconst 1, 1) := by decide +kernel
theorem d_method_4_651 : decode method_4_code 651 = .ok (.aload_n 0, 1) := by decide +kernel
theorem d_method_4_652 : decode method_4_code 652 = .ok (.iconst 1, 1) := by decide +kernel
theorem d_method_4_653 : decode method_4_code 653 = .ok (.caload, 1) := by decide +kernel
theorem d_method_4_654 : decode method_4_code 654 = .ok (.castore, 1) := by decide +kernel
theorem d_method_4_655 : decode method_4_code 655 = .ok (.dup, 1) := by decide +kernel
theorem d_method_4_656 : decode method_4_code 656 = .ok (.iconst 2, 1) := by decide +kernel
theorem d_method_4_657 : decode method_4_code 657 = .ok (.aload_n 0, 1) := by decide +kernel
theorem d_method_4_658 : decode method_4_code 658 = .ok (.iconst 2, 1) := by decide +kernel
theorem d_method_4_659 : decode method_4_code 659 = .ok (.caload, 1) := by decide +kernel
theorem d_method_4_660 : decode method_4_code 660 = .ok (.castore, 1) := by decide +kernel
theorem d_method_4_661 : decode method_4_code 661 = .ok (.dup, 1) := by decide +kernel
theorem d_method_4_662 : decode method_4_code 662 = .ok (.iconst 3, 1) := by decide +kernel
theorem d_method_4_663 : decode method_4_code 663 = .ok (.aload_n 0, 1) := by decide +kernel
theorem d_method_4_664 : decode method_4_code 664 = .ok (.iconst 3, 1) := by decide +kernel
theorem d_method_4_665 : decode method_4_code 665 = .ok (.caload, 1) := by decide +kernel
theorem d_method_4_666 : decode method_4_code 666 = .ok (.castore, 1) := by decide +kernel
theorem d_method_4_667 : decode method_4_code 667 = .ok (.dup, 1) := by decide +kernel
theorem d_method_4_668 : decode method_4_code 668 = .ok (.iconst 4, 1) := by decide +kernel
theorem d_method_4_669 : decode method_4_code 669 = .ok (.aload_n 0, 1) := by decide +kernel
theorem d_method_4_670 : decode method_4_code 670 = .ok (.iconst 4, 1) := by decide +kernel
theorem d_method_4_671 : decode method_4_code 671 = .ok (.caload, 1) := by decide +kernel
theorem d_method_4_672 : decode method_4_code 672 = .ok (.castore, 1) := by decide +kernel
theorem d_method_4_673 : decode method_4_code 673 = .ok (.dup, 1) := by decide +kernel
theorem d_method_4_674 : decode method_4_code 674 = .ok (.iconst 5, 1) := by decide +kernel
theorem d_method_4_675 : decode method_4_code 675 = .ok (.aload_n 0, 1) := by decide +kernel
theorem d_method_4_676 : decode method_4_code 676 = .ok (.iconst 5, 1) := by decide +kernel
theorem d_method_4_677 : decode method_4_code 677 = .ok (.caload, 1) := by decide +kernel
theorem d_method_4_678 : decode method_4_code 678 = .ok (.castore, 1) := by decide +kernel
theorem d_method_4_679 : decode method_4_code 679 = .ok (.dup, 1) := by decide +kernel
theorem d_method_4_680 : decode method_4_code 680 = .ok (.bipush 6, 2) := by decide +kernel
theorem d_method_4_682 : decode method_4_code 682 = .ok (.aload_n 0, 1) := by decide +kernel
theorem d_method_4_683 : decode method_4_code 683 = .ok (.bipush 6, 2) := by decide +kernel
theorem d_method_4_685 : decode method_4_code 685 = .ok (.caload, 1) := by decide +kernel
theorem d_method_4_686 : decode method_4_code 686 = .ok (.castore, 1) := by decide +kernel
theorem d_method_4_687 : decode method_4_code 687 = .ok (.dup, 1) := by decide +kernel
theorem d_method_4_688 : decode method_4_code 688 = .ok (.bipush 7, 2) := by decide +kernel
theorem d_method_4_690 : decode method_4_code 690 = .ok (.aload_n 0, 1) := by decide +kernel
theorem d_method_4_691 : decode method_4_code 691 = .ok (.bipush 7, 2) := by decide +kernel
theorem d_method_4_693 : decode method_4_code 693 = .ok (.caload, 1) := by decide +kernel
theorem d_method_4_694 : decode method_4_code 694 = .ok (.castore, 1) := by decide +kernel
theorem d_method_4_695 : decode method_4_code 695 = .ok (.dup, 1) := by decide +kernel
theorem d_method_4_696 : decode method_4_code 696 = .ok (.bipush 8, 2) := by decide +kernel
theorem d_method_4_698 : decode method_4_code 698 = .ok (.aload_n 0, 1) := by decide +kernel
theorem d_method_4_699 : decode method_4_code 699 = .ok (.bipush 8, 2) := by decide +kernel
theorem d_method_4_701 : decode method_4_code 701 = .ok (.caload, 1) := by decide +kernel
theorem d_method_4_702 : decode method_4_code 702 = .ok (.castore, 1) := by decide +kernel
theorem d_method_4_703 : decode method_4_code 703 = .ok (.dup, 1) := by decide +kernel
theorem d_method_4_704 : decode method_4_code 704 = .ok (.bipush 9, 2) := by decide +kernel
theorem d_method_4_706 : decode method_4_code 706 = .ok (.aload_n 0, 1) := by decide +kernel
theorem d_method_4_707 : decode method_4_code 707 = .ok (.bipush 9, 2) := by decide +kernel
theorem d_method_4_709 : decode method_4_code 709 = .ok (.caload, 1) := by decide +kernel
theorem d_method_4_710 : decode method_4_code 710 = .ok (.castore, 1) := by decide +kernel
theorem d_method_4_711 : decode method_4_code 711 = .ok (.dup, 1) := by decide +kernel
theorem d_method_4_712 : decode method_4_code 712 = .ok (.bipush 10, 2) := by decide +kernel
theorem d_method_4_714 : decode method_4_code 714 = .ok (.aload_n 0, 1) := by decide +kernel
theorem d_method_4_715 : decode method_4_code 715 = .ok (.bipush 10, 2) := by decide +kernel
theorem d_method_4_717 : decode method_4_code 717 = .ok (.caload, 1) := by decide +kernel
theorem d_method_4_718 : decode method_4_code 718 = .ok (.castore, 1) := by decide +kernel
theorem d_method_4_719 : decode method_4_code 719 = .ok (.dup, 1) := by decide +kernel
theorem d_method_4_720 : decode method_4_code 720 = .ok (.bipush 11, 2) := by decide +kernel
theorem d_method_4_722 : decode method_4_code 722 = .ok (.aload_n 0, 1) := by decide +kernel
theorem d_method_4_723 : decode method_4_code 723 = .ok (.bipush 11, 2) := by decide +kernel
theorem d_method_4_725 : decode method_4_code 725 = .ok (.caload, 1) := by decide +kernel
theorem d_method_4_726 : decode method_4_code 726 = .ok (.castore, 1) := by decide +kernel
theorem d_method_4_727 : decode method_4_code 727 = .ok (.invokespecial 46, 3) := by decide +kernel
theorem d_method_4_730 : decode method_4_code 730 = .ok (.areturn, 1) := by decide +kernel
theorem d_method_4_731 : decode method_4_code 731 = .ok (.new 20, 3) := by decide +kernel
theorem d_method_4_734 : decode method_4_code 734 = .ok (.dup, 1) := by decide +kernel
theorem d_method_4_735 : decode method_4_code 735 = .ok (.aload_n 0, 1) := by decide +kernel
theorem d_method_4_736 : decode method_4_code 736 = .ok (.invokespecial 46, 3) := by decide +kernel
theorem d_method_4_739 : decode method_4_code 739 = .ok (.areturn, 1) := by decide +kernel
theorem d_jdk_31_method_10_0 : decode jdk_31_method_10_code 0 = .ok (.aload_n 0, 1) := by decide +kernel
theorem d_jdk_31_method_10_1 : decode jdk_31_method_10_code 1 = .ok (.ifnonnull 11, 3) := by decide +kernel
theorem d_jdk_31_method_10_12 : decode jdk_31_method_10_code 12 = .ok (.aload_n 0, 1) := by decide +kernel
theorem d_jdk_31_method_10_13 : decode jdk_31_method_10_code 13 = .ok (.areturn, 1) := by decide +kernel
theorem d_jdk_32_method_2_0 : decode jdk_32_method_2_code 0 = .ok (.aload_n 0, 1) := by decide +kernel
theorem d_jdk_32_method_2_1 : decode jdk_32_method_2_code 1 = .ok (.invokespecial 7, 3) := by decide +kernel
theorem d_jdk_32_method_2_4 : decode jdk_32_method_2_code 4 = .ok (.aload_n 0, 1) := by decide +kernel
theorem d_jdk_32_method_2_5 : decode jdk_32_method_2_code 5 = .ok (.aload_n 1, 1) := by decide +kernel
theorem d_jdk_32_method_2_6 : decode jdk_32_method_2_code 6 = .ok (.putfield 13, 3) := by decide +kernel
theorem d_jdk_32_method_2_9 : decode jdk_32_method_2_code 9 = .ok (.return_, 1) := by decide +kernel
theorem d_jdk_32_method_3_0 : decode jdk_32_method_3_code 0 = .ok (.new 2, 3) := by decide +kernel
theorem d_jdk_32_method_3_3 : decode jdk_32_method_3_code 3 = .ok (.dup, 1) := by decide +kernel
theorem d_jdk_32_method_3_4 : decode jdk_32_method_3_code 4 = .ok (.aload_n 0, 1) := by decide +kernel
theorem d_jdk_32_method_3_5 : decode jdk_32_method_3_code 5 = .ok (.invokestatic 17, 3) := by decide +kernel
theorem d_jdk_32_method_3_8 : decode jdk_32_method_3_code 8 = .ok (.invokespecial 23, 3) := by decide +kernel
theorem d_jdk_32_method_3_11 : decode jdk_32_method_3_code 11 = .ok (.areturn, 1) := by decide +kernel
theorem d_jdk_32_method_1_0 : decode jdk_32_method_1_code 0 = .ok (.getstatic 1, 3) := by decide +kernel
theorem d_jdk_32_method_1_3 : decode jdk_32_method_1_code 3 = .ok (.astore_n 0, 1) := by decide +kernel
theorem d_jdk_32_method_1_4 : decode jdk_32_method_1_code 4 = .ok (.aload_n 0, 1) := by decide +kernel
theorem d_jdk_32_method_1_5 : decode jdk_32_method_1_code 5 = .ok (.areturn, 1) := by decide +kernel
theorem d_jdk_32_method_15_0 : decode jdk_32_method_15_code 0 = .ok (.aload_n 0, 1) := by decide +kernel
theorem d_jdk_32_method_15_1 : decode jdk_32_method_15_code 1 = .ok (.getfield 13, 3) := by decide +kernel
theorem d_jdk_32_method_15_4 : decode jdk_32_method_15_code 4 = .ok (.ifnull 10, 3) := by decide +kernel
theorem d_jdk_32_method_15_14 : decode jdk_32_method_15_code 14 = .ok (.aload_n 1, 1) := by decide +kernel
theorem d_jdk_32_method_15_15 : decode jdk_32_method_15_code 15 = .ok (.areturn, 1) := by decide +kernel
theorem d_jdk_32_method_15_7 : decode jdk_32_method_15_code 7 = .ok (.aload_n 0, 1) := by decide +kernel
theorem d_jdk_32_method_15_8 : decode jdk_32_method_15_code 8 = .ok (.getfield 13, 3) := by decide +kernel
theorem d_jdk_32_method_15_11 : decode jdk_32_method_15_code 11 = .ok (.goto 4, 3) := by decide +kernel
theorem d_prog_8_method_1_0 : decode prog_8_method_1_code 0 = .ok (.getstatic 10, 3) := by decide +kernel
theorem d_prog_8_method_1_3 : decode prog_8_method_1_code 3 = .ok (.invokevirtual 14, 3) := by decide +kernel
theorem d_prog_8_method_1_6 : decode prog_8_method_1_code 6 = .ok (.checkcast 15, 3) := by decide +kernel
theorem d_prog_8_method_1_9 : decode prog_8_method_1_code 9 = .ok (.areturn, 1) := by decide +kernel
theorem d_prog_8_method_4_0 : decode prog_8_method_4_code 0 = .ok (.invokestatic 37, 3) := by decide +kernel
theorem d_prog_8_method_4_3 : decode prog_8_method_4_code 3 = .ok (.astore_n 1, 1) := by decide +kernel
theorem d_prog_8_method_4_4 : decode prog_8_method_4_code 4 = .ok (.aload_n 1, 1) := by decide +kernel
theorem d_prog_8_method_4_5 : decode prog_8_method_4_code 5 = .ok (.arraylength, 1) := by decide +kernel
theorem d_prog_8_method_4_6 : decode prog_8_method_4_code 6 = .ok (.istore_n 2, 1) := by decide +kernel
theorem d_prog_8_method_4_7 : decode prog_8_method_4_code 7 = .ok (.iconst 0, 1) := by decide +kernel
theorem d_prog_8_method_4_8 : decode prog_8_method_4_code 8 = .ok (.istore_n 3, 1) := by decide +kernel
theorem d_prog_8_method_4_9 : decode prog_8_method_4_code 9 = .ok (.iload_n 3, 1) := by decide +kernel
theorem d_prog_8_method_4_10 : decode prog_8_method_4_code 10 = .ok (.iload_n 2, 1) := by decide +kernel
theorem d_prog_8_method_4_11 : decode prog_8_method_4_code 11 = .ok (.if_icmp .ge 32, 3) := by decide +kernel
theorem d_prog_8_method_4_14 : decode prog_8_method_4_code 14 = .ok (.aload_n 1, 1) := by decide +kernel
theorem d_prog_8_method_4_15 : decode prog_8_method_4_code 15 = .ok (.iload_n 3, 1) := by decide +kernel
theorem d_prog_8_method_4_16 : decode prog_8_method_4_code 16 = .ok (.aaload, 1) := by decide +kernel
theorem d_prog_8_method_4_17 : decode prog_8_method_4_code 17 = .ok (.astore 4, 2) := by decide +kernel
theorem d_prog_8_method_4_19 : decode prog_8_method_4_code 19 = .ok (.aload 4, 2) := by decide +kernel
theorem d_prog_8_method_4_21 : decode prog_8_method_4_code 21 = .ok (.getfield 29, 3) := by decide +kernel
theorem d_prog_8_method_4_24 : decode prog_8_method_4_code 24 = .ok (.aload_n 0, 1) := by decide +kernel
theorem d_prog_8_method_4_25 : decode prog_8_method_4_code 25 = .ok (.invokevirtual 41, 3) := by decide +kernel
theorem d_prog_8_method_4_28 : decode prog_8_method_4_code 28 = .ok (.ifCond .eq 9, 3) := by decide +kernel
theorem d_prog_8_method_4_31 : decode prog_8_method_4_code 31 = .ok (.aload 4, 2) := by decide +kernel
theorem d_prog_8_method_4_33 : decode prog_8_method_4_code 33 = .ok (.invokestatic 47, 3) := by decide +kernel
theorem d_prog_8_method_4_36 : decode prog_8_method_4_code 36 = .ok (.areturn, 1) := by decide +kernel
theorem d_prog_8_method_4_37 : decode prog_8_method_4_code 37 = .ok (.iinc 3 1, 3) := by decide +kernel
theorem d_prog_8_method_4_40 : decode prog_8_method_4_code 40 = .ok (.goto (-31), 3) := by decide +kernel
theorem d_prog_8_method_4_43 : decode prog_8_method_4_code 43 = .ok (.invokestatic 53, 3) := by decide +kernel
theorem d_prog_8_method_4_46 : decode prog_8_method_4_code 46 = .ok (.areturn, 1) := by decide +kernel
theorem pd_0 : parseMethodDescriptor "([B[B)Z" = some ⟨[(.array .byte), (.array .byte)], some .boolean⟩ := by decide +kernel
theorem pd_1 : parseMethodDescriptor "([CI[BII)I" = some ⟨[(.array .char), .int, (.array .byte), .int, .int], some .int⟩ := by decide +kernel
theorem pd_2 : parseMethodDescriptor "([CII)[B" = some ⟨[(.array .char), .int, .int], some (.array .byte)⟩ := by decide +kernel
theorem pd_3 : parseMethodDescriptor "([BI)B" = some ⟨[(.array .byte), .int], some .byte⟩ := by decide +kernel
theorem pd_4 : parseMethodDescriptor "([CIILjava/lang/Void;)V" = some ⟨[(.array .char), .int, .int, (.object "java/lang/Void")], none⟩ := by decide +kernel
theorem pd_5 : parseMethodDescriptor "([C)V" = some ⟨[(.array .char)], none⟩ := by decide +kernel
theorem pd_6 : parseMethodDescriptor "(Ljava/lang/Object;)Ljava/lang/Object;" = some ⟨[(.object "java/lang/Object")], some (.object "java/lang/Object")⟩ := by decide +kernel
theorem pd_7 : parseMethodDescriptor "(Ljava/lang/Object;)V" = some ⟨[(.object "java/lang/Object")], none⟩ := by decide +kernel
theorem pd_8 : parseMethodDescriptor "()[Lcom/example/inkan/inkan/jose/KeyManagementAlgorithm;" = some ⟨[], some (.array (.object "com/example/inkan/inkan/jose/KeyManagementAlgorithm"))⟩ := by decide +kernel
theorem pd_9 : parseMethodDescriptor "(Ljava/lang/Object;)Z" = some ⟨[(.object "java/lang/Object")], some .boolean⟩ := by decide +kernel
theorem pd_10 : parseMethodDescriptor "(Ljava/lang/Object;)Ljava/util/Optional;" = some ⟨[(.object "java/lang/Object")], some (.object "java/util/Optional")⟩ := by decide +kernel
theorem pd_11 : parseMethodDescriptor "()Ljava/util/Optional;" = some ⟨[], some (.object "java/util/Optional")⟩ := by decide +kernel
theorem pd_12 : parseMethodDescriptor "(ICII)C" = some ⟨[.int, .char, .int, .int], some .char⟩ := by decide +kernel
theorem pd_13 : parseMethodDescriptor "([CI)Ljava/lang/String;" = some ⟨[(.array .char), .int], some (.object "java/lang/String")⟩ := by decide +kernel
theorem pd_14 : parseMethodDescriptor "(Ljava/lang/String;)Ljava/util/Optional;" = some ⟨[(.object "java/lang/String")], some (.object "java/util/Optional")⟩ := by decide +kernel
def pk (m t w s : Int32) : Int32 := if m = 0 then c16 (XT.ushr w s &&& 255) else t
theorem pk_rng {m t w s : Int32} (h : 0 ≤ t.toInt ∧ t.toInt ≤ 255) : 0 ≤ (pk m t w s).toInt ∧ (pk m t w s).toInt ≤ 255 := by
  unfold pk; split
  · exact lowI _
  · exact h
theorem dec13 {xs : List Int32} (h : xs.length = 13) : ∃ x0 x1 x2 x3 x4 x5 x6 x7 x8 x9 x10 x11 x12, xs = [x0, x1, x2, x3, x4, x5, x6, x7, x8, x9, x10, x11, x12] := by
  match xs, h with
  | [a0, a1, a2, a3, a4, a5, a6, a7, a8, a9, a10, a11, a12], _ => exact ⟨a0, a1, a2, a3, a4, a5, a6, a7, a8, a9, a10, a11, a12, rfl⟩
theorem ushr_nn (x s : Int32) (k : Nat) (hk : s.toBitVec.toNat % 32 = k) (h0 : 0 < k) : 0 ≤ (XT.ushr x s).toInt := by
  have := c_iushr x s k hk h0
  unfold XT.ushr
  rw [this]
  exact Int.ediv_nonneg (Int.emod_nonneg _ (by decide)) (by exact_mod_cast Nat.zero_le _)
set_option maxRecDepth 65536 in
set_option maxHeartbeats 4000000 in
theorem k_eqB (l : Launch) (Z : State) (a0 : Array Value) (hE : Ev Z a0) (t u : Addr) (bs es : List Int32) (h : Heap) (A : ArI Z h t .byte bs) (E : ArI Z h u .byte es) (h1 : bs.length < 2000000) (h2 : es.length < 2000000) : Con l Z false (⟨"java/lang/StringLatin1", "equals", "([B[B)Z"⟩ : MethodName) jdk_43_method_13_code 3 (some .boolean) ({ frames := 0, cells := 0, slots := 0, locals := 0 } : Room) [(.ref t), (.ref u)] h [] false (fun M v h' => v = some (.int (if bs = es then 1 else 0)) ∧ h' = h) := by
  have hw := hE.1
  refine Con.intro (L0 := #[.val (.ref t), .val (.ref u), .unset]) (by decide +kernel) (fun m => ef_of rfl) ?_
  intro B M hwsM ok
  refine W.aloadN ok (pc' := 1) d_jdk_43_method_13_0 rfl rfl rfl ?_
  refine W.lenI ok (pc' := 2) A bs.length.toInt32 rfl d_jdk_43_method_13_1 rfl ?_
  refine W.aloadN ok (pc' := 3) d_jdk_43_method_13_2 rfl rfl rfl ?_
  refine W.lenI ok (pc' := 4) E es.length.toInt32 rfl d_jdk_43_method_13_3 rfl ?_
  refine W.icmpne ok (pcY := 34) (pcN := 7) d_jdk_43_method_13_4 rfl (by decide) rfl (fun c0 => ?_) (fun c0 => ?_)
  · have hl : bs.length = es.length := (i32_inj (by omega) (by omega)).mp c0
    refine W.iconst ok (pc' := 8) (0 : Int32) d_jdk_43_method_13_7 rfl rfl ?_
    refine W.istoreN ok (pc' := 9) (L' := #[.val (.ref t), .val (.ref u), .val (.int (0 : Int32))]) d_jdk_43_method_13_8 rfl rfl ?_
    have loop : ∀ (m i : Nat), i + m = bs.length → bs.take i = es.take i → W B h 0 0 M (true, []) 9 #[.val (.ref t), .val (.ref u), .val (.int i.toInt32)] [] := by
      intro m
      induction m with
      | zero =>
        intro i hi he
        refine W.iloadN ok (pc' := 10) d_jdk_43_method_13_9 rfl rfl ?_
        refine W.aloadN ok (pc' := 11) d_jdk_43_method_13_10 rfl rfl rfl ?_
        refine W.lenI ok (pc' := 12) A bs.length.toInt32 rfl d_jdk_43_method_13_11 rfl ?_
        refine W.icmpge ok (pcY := 32) (pcN := 15) d_jdk_43_method_13_12 rfl (by decide) rfl (fun q => absurd q (by rw [i32_lt (by omega) (by omega)]; omega)) (fun _ => ?_)
        refine W.iconst ok (pc' := 33) (1 : Int32) d_jdk_43_method_13_32 rfl rfl ?_
        exact W.retZ ok d_jdk_43_method_13_33 rfl (Nat.le_of_ble_eq_true rfl) (Nat.le_of_ble_eq_true rfl) (fun x (q : x ∈ M) => q) (fun kp => ⟨by rw [if_pos (by rw [List.take_of_length_le (by omega), List.take_of_length_le (by omega)] at he; exact he)], rfl⟩)
      | succ m ih =>
        intro i hi he
        obtain ⟨x, hx⟩ := at_lt (cs := bs) (i := i) (by omega)
        obtain ⟨y, hy⟩ := at_lt (cs := es) (i := i) (by omega)
        refine W.iloadN ok (pc' := 10) d_jdk_43_method_13_9 rfl rfl ?_
        refine W.aloadN ok (pc' := 11) d_jdk_43_method_13_10 rfl rfl rfl ?_
        refine W.lenI ok (pc' := 12) A bs.length.toInt32 rfl d_jdk_43_method_13_11 rfl ?_
        refine W.icmpge ok (pcY := 32) (pcN := 15) d_jdk_43_method_13_12 rfl (by decide) rfl (fun _ => ?_) (fun q => absurd ((i32_lt (by omega) (by omega)).mpr (by omega)) q)
        refine W.aloadN ok (pc' := 16) d_jdk_43_method_13_15 rfl rfl rfl ?_
        refine W.iloadN ok (pc' := 17) d_jdk_43_method_13_16 rfl rfl ?_
        refine W.baload ok (pc' := 18) A x (i32_nn (by omega)) (by rw [nat_i32 (by omega)]; exact hx) d_jdk_43_method_13_17 rfl ?_
        refine W.aloadN ok (pc' := 19) d_jdk_43_method_13_18 rfl rfl rfl ?_
        refine W.iloadN ok (pc' := 20) d_jdk_43_method_13_19 rfl rfl ?_
        refine W.baload ok (pc' := 21) E y (i32_nn (by omega)) (by rw [nat_i32 (by omega)]; exact hy) d_jdk_43_method_13_20 rfl ?_
        refine W.icmpeq ok (pcY := 26) (pcN := 24) d_jdk_43_method_13_21 rfl (by decide) rfl (fun c1 => ?_) (fun c1 => ?_)
        · subst c1
          refine W.iinc ok (pc' := 29) (L' := #[.val (.ref t), .val (.ref u), .val (.int (i.toInt32 + (1 : Int32)))]) (1 : Int32) d_jdk_43_method_13_26 rfl rfl rfl rfl ?_
          refine W.goto ok (pc' := 9) d_jdk_43_method_13_29 (by decide) rfl ?_
          rw [i32_succ]
          exact ih (i + 1) (by omega) (take_succ_eq he hx hy)
        · refine W.iconst ok (pc' := 25) (0 : Int32) d_jdk_43_method_13_24 rfl rfl ?_
          exact W.retZ ok d_jdk_43_method_13_25 rfl (Nat.le_of_ble_eq_true rfl) (Nat.le_of_ble_eq_true rfl) (fun x (q : x ∈ M) => q) (fun kp => ⟨by rw [if_neg (fun e => c1 (by rw [e] at hx; exact Option.some.inj (hx.symm.trans hy)))], rfl⟩)
    exact loop bs.length 0 (by omega) rfl
  · refine W.iconst ok (pc' := 35) (0 : Int32) d_jdk_43_method_13_34 rfl rfl ?_
    exact W.retZ ok d_jdk_43_method_13_35 rfl (Nat.le_of_ble_eq_true rfl) (Nat.le_of_ble_eq_true rfl) (fun x (q : x ∈ M) => q) (fun kp => ⟨by rw [if_neg (fun e => c0 (by rw [e]))], rfl⟩)
set_option maxRecDepth 65536 in
set_option maxHeartbeats 4000000 in
theorem k_eqS (l : Launch) (Z : State) (a0 : Array Value) (hE : Ev Z a0) (a b : Addr) (cs ds : List Int32) (h : Heap) (S : Str Z h a cs) (S2 : Str Z h b ds) (l1 : cs.length < 1000000) (l2 : ds.length < 1000000) : Con l Z false (⟨"java/lang/String", "equals", "(Ljava/lang/Object;)Z"⟩ : MethodName) jdk_42_method_66_code 3 (some .boolean) ({ frames := 1, cells := 0, slots := 0, locals := 14 } : Room) [(.ref a), (.ref b)] h [] false (fun M v h' => v = some (.int (if cs = ds then 1 else 0)) ∧ h' = h) := by
  have hw := hE.1
  refine Con.intro (L0 := #[.val (.ref a), .val (.ref b), .unset]) (by decide +kernel) (fun m => ef_of rfl) ?_
  intro B M hwsM ok
  refine W.aloadN ok (pc' := 1) d_jdk_42_method_66_0 rfl rfl rfl ?_
  refine W.aloadN ok (pc' := 2) d_jdk_42_method_66_1 rfl rfl rfl ?_
  refine W.acmpne ok (pcY := 7) (pcN := 5) d_jdk_42_method_66_2 rfl rfl rfl (by decide) rfl (fun c0 => ?_) (fun c0 => ?_)
  · have e0 : a = b := by injection c0
    subst e0
    refine W.iconst ok (pc' := 6) (1 : Int32) d_jdk_42_method_66_5 rfl rfl ?_
    exact W.retZ ok d_jdk_42_method_66_6 rfl (Nat.le_of_ble_eq_true rfl) (Nat.le_of_ble_eq_true rfl) (fun x (q : x ∈ M) => q) (fun kp => ⟨by rw [if_pos (S.inj S2)], rfl⟩)
  · obtain ⟨t, cd, bs, X, F1, F2, A, hc⟩ := S
    obtain ⟨u, ce, es, X2, G1, G2, A2, hd⟩ := S2
    have l1 : bs.length < 2000000 := by rcases hc with ⟨-, rfl, -⟩ | ⟨-, rfl, -⟩ <;> simp [wide_length] <;> omega
    have l2 : es.length < 2000000 := by rcases hd with ⟨-, rfl, -⟩ | ⟨-, rfl, -⟩ <;> simp [wide_length] <;> omega
    refine W.aloadN ok (pc' := 8) d_jdk_42_method_66_7 rfl rfl rfl ?_
    refine W.instY ok (pc' := 11) (w35 hw) (Ins.self X2) d_jdk_42_method_66_8 rfl ?_
    refine W.ifeq ok (pcY := 54) (pcN := 14) d_jdk_42_method_66_11 rfl (by decide) rfl (fun q => absurd q (by decide)) (fun _ => ?_)
    refine W.aloadN ok (pc' := 15) d_jdk_42_method_66_14 rfl rfl rfl ?_
    refine W.cast ok (pc' := 18) (w35 hw) (Ins.self X2) d_jdk_42_method_66_15 rfl ?_
    refine W.astoreN ok (pc' := 19) (L' := #[.val (.ref a), .val (.ref b), .val (.ref b)]) d_jdk_42_method_66_18 rfl rfl rfl ?_
    obtain ⟨g, hg, Fg⟩ := hE.compact
    refine W.getS ok (pc' := 22) (w36 hw) Via.refl Fg d_jdk_42_method_66_19 rfl ?_
    refine W.ifeq ok (pcY := 36) (pcN := 25) d_jdk_42_method_66_22 rfl (by decide) rfl (fun q => absurd q hg) (fun _ => ?_)
    refine W.aloadN ok (pc' := 26) d_jdk_42_method_66_25 rfl rfl rfl ?_
    refine W.getF ok (pc' := 29) (w28 hw) Via.refl F2 d_jdk_42_method_66_26 rfl ?_
    refine W.aloadN ok (pc' := 30) d_jdk_42_method_66_29 rfl rfl rfl ?_
    refine W.getF ok (pc' := 33) (w28 hw) Via.refl G2 d_jdk_42_method_66_30 rfl ?_
    refine W.icmpne ok (pcY := 54) (pcN := 36) d_jdk_42_method_66_33 rfl (by decide) rfl (fun c1 => ?_) (fun c1 => ?_)
    · subst c1
      refine W.aloadN ok (pc' := 37) d_jdk_42_method_66_36 rfl rfl rfl ?_
      refine W.getF ok (pc' := 40) (w27 hw) Via.refl F1 d_jdk_42_method_66_37 rfl ?_
      refine W.aloadN ok (pc' := 41) d_jdk_42_method_66_40 rfl rfl rfl ?_
      refine W.getF ok (pc' := 44) (w27 hw) Via.refl G1 d_jdk_42_method_66_41 rfl ?_
      refine W.callS ok (rest := []) (cl' := (true, [])) (pc' := 47) (w37 hw) (w38 hw) (w39 hw) (w40 hw) (by decide) pd_0 rfl (k_eqB l Z a0 hE t u bs es h A A2 l1 l2) (fun _ q => (nomatch q)) (fun q => ⟨q, fun _ q => (nomatch q)⟩) rfl rfl (Nat.le_of_ble_eq_true rfl) (Nat.le_of_ble_eq_true rfl) (Nat.le_of_ble_eq_true rfl) (Nat.le_of_ble_eq_true rfl) d_jdk_42_method_66_44 rfl rfl (pureK ?_)
      show W B h 0 0 M (true, []) 47 #[.val (.ref a), .val (.ref b), .val (.ref b)] [(.int (if bs = es then 1 else 0))]
      by_cases q : bs = es
      · rw [if_pos q]
        refine W.ifeq ok (pcY := 54) (pcN := 50) d_jdk_42_method_66_47 rfl (by decide) rfl (fun q => absurd q (by decide)) (fun _ => ?_)
        refine W.iconst ok (pc' := 51) (1 : Int32) d_jdk_42_method_66_50 rfl rfl ?_
        refine W.goto ok (pc' := 55) d_jdk_42_method_66_51 (by decide) rfl ?_
        exact W.retZ ok d_jdk_42_method_66_55 rfl (Nat.le_of_ble_eq_true rfl) (Nat.le_of_ble_eq_true rfl) (fun x (q : x ∈ M) => q) (fun kp => ⟨by rw [if_pos ((hc.inj hd).mp q)], rfl⟩)
      · rw [if_neg q]
        refine W.ifeq ok (pcY := 54) (pcN := 50) d_jdk_42_method_66_47 rfl (by decide) rfl (fun _ => ?_) (fun q => absurd rfl q)
        refine W.iconst ok (pc' := 55) (0 : Int32) d_jdk_42_method_66_54 rfl rfl ?_
        exact W.retZ ok d_jdk_42_method_66_55 rfl (Nat.le_of_ble_eq_true rfl) (Nat.le_of_ble_eq_true rfl) (fun x (q : x ∈ M) => q) (fun kp => ⟨by rw [if_neg (fun e => q ((hc.inj hd).mpr e))], rfl⟩)
    · refine W.iconst ok (pc' := 55) (0 : Int32) d_jdk_42_method_66_54 rfl rfl ?_
      exact W.retZ ok d_jdk_42_method_66_55 rfl (Nat.le_of_ble_eq_true rfl) (Nat.le_of_ble_eq_true rfl) (fun x (q : x ∈ M) => q) (fun kp => ⟨by rw [if_neg (hc.apart hd c1)], rfl⟩)
set_option maxRecDepth 65536 in
set_option maxHeartbeats 4000000 in
theorem k_cmpL (l : Launch) (Z : State) (a0 : Array Value) (hE : Ev Z a0) (b d : Addr) (cs : List Int32) (h : Heap) (Ab : ArI Z h b .char cs) (Ad : ArI Z h d .byte (List.replicate cs.length 0)) (hbd : b ≠ d) (hl : cs.length < 1000000) (hlat : ∀ c ∈ cs, c.toInt ≤ 255) : Con l Z false (⟨"java/lang/StringUTF16", "compress", "([CI[BII)I"⟩ : MethodName) jdk_52_method_21_code 7 (some .int) ({ frames := 0, cells := 0, slots := 0, locals := 0 } : Room) [(.ref b), (.int (0 : Int32)), (.ref d), (.int (0 : Int32)), (.int cs.length.toInt32)] h [d] false (fun M v h' => v = some (.int cs.length.toInt32) ∧ ArI Z h' d .byte (cs.map b8)) := by
  have hw := hE.1
  refine Con.intro (L0 := #[.val (.ref b), .val (.int (0 : Int32)), .val (.ref d), .val (.int (0 : Int32)), .val (.int cs.length.toInt32), .unset, .unset]) (by decide +kernel) (fun m => ef_of rfl) ?_
  intro B M hwsM ok
  refine W.iconst ok (pc' := 1) (0 : Int32) d_jdk_52_method_21_0 rfl rfl ?_
  refine W.istore ok (pc' := 3) (L' := #[.val (.ref b), .val (.int (0 : Int32)), .val (.ref d), .val (.int (0 : Int32)), .val (.int cs.length.toInt32), .val (.int (0 : Int32)), .unset]) d_jdk_52_method_21_1 rfl rfl ?_
  have loop : ∀ (m i : Nat) (hh : Heap) (cl : Cl) (s6 : Slot), i + m = cs.length → One s6 → ArI Z hh b .char cs → ArI Z hh d .byte ((cs.take i).map b8 ++ List.replicate m 0) → W B hh 0 0 M cl 3 #[.val (.ref b), .val (.int i.toInt32), .val (.ref d), .val (.int i.toInt32), .val (.int cs.length.toInt32), .val (.int i.toInt32), s6] [] := by
    intro m
    induction m with
    | zero =>
      intro i hh cl s6 hi h6 Ab Ad
      refine W.iload ok (pc' := 5) d_jdk_52_method_21_3 rfl rfl ?_
      refine W.iload ok (pc' := 7) d_jdk_52_method_21_5 rfl rfl ?_
      refine W.icmpge ok (pcY := 44) (pcN := 10) d_jdk_52_method_21_7 rfl (by decide) rfl (fun q => absurd q (by rw [i32_lt (by omega) (by omega)]; omega)) (fun _ => ?_)
      refine W.iload ok (pc' := 46) d_jdk_52_method_21_44 rfl rfl ?_
      exact W.retI ok d_jdk_52_method_21_46 (Nat.le_of_ble_eq_true rfl) (Nat.le_of_ble_eq_true rfl) (fun x (q : x ∈ M) => q) (fun kp => ⟨rfl, Ad.cast (take_all cs i (by omega))⟩)
    | succ m ih =>
      intro i hh cl s6 hi h6 Ab Ad
      have li : i < cs.length := by omega
      obtain ⟨c, hc⟩ := at_lt li
      have c255 : c.toInt ≤ 255 := hlat c (mem_of_at hc)
      refine W.iload ok (pc' := 5) d_jdk_52_method_21_3 rfl rfl ?_
      refine W.iload ok (pc' := 7) d_jdk_52_method_21_5 rfl rfl ?_
      refine W.icmpge ok (pcY := 44) (pcN := 10) d_jdk_52_method_21_7 rfl (by decide) rfl (fun _ => ?_) (fun q => absurd ((i32_lt (by omega) (by omega)).mpr (by omega)) q)
      refine W.aloadN ok (pc' := 11) d_jdk_52_method_21_10 rfl rfl rfl ?_
      refine W.iloadN ok (pc' := 12) d_jdk_52_method_21_11 rfl rfl ?_
      refine W.caload ok (pc' := 13) Ab c (i32_nn (by omega)) (by rw [nat_i32 (by omega)]; exact hc) d_jdk_52_method_21_12 rfl ?_
      refine W.istoreS ok (pc' := 15) (L' := #[.val (.ref b), .val (.int i.toInt32), .val (.ref d), .val (.int i.toInt32), .val (.int cs.length.toInt32), .val (.int i.toInt32), .val (.int c)]) d_jdk_52_method_21_13 rfl rfl h6 rfl ?_
      refine W.iload ok (pc' := 17) d_jdk_52_method_21_15 rfl rfl ?_
      refine W.sipush ok (pc' := 20) (255 : Int32) d_jdk_52_method_21_17 rfl rfl ?_
      refine W.icmple ok (pcY := 26) (pcN := 23) d_jdk_52_method_21_20 rfl (by decide) rfl (fun q => absurd q (le255 c255)) (fun _ => ?_)
      refine W.aloadN ok (pc' := 27) d_jdk_52_method_21_26 rfl rfl rfl ?_
      refine W.iloadN ok (pc' := 28) d_jdk_52_method_21_27 rfl rfl ?_
      refine W.iload ok (pc' := 30) d_jdk_52_method_21_28 rfl rfl ?_
      refine W.i2b ok (pc' := 31) d_jdk_52_method_21_30 rfl ?_
      refine W.bastore ok (pc' := 32) (cl' := (false, cl.2)) Ad (i32_nn (by omega)) (by rw [nat_i32 (by omega)]; simp; omega) (hwsM _ (List.mem_of_getElem? (i := 0) rfl)) (Or.inl (List.mem_of_getElem? (i := 0) rfl)) (fun q => by cases q) rfl d_jdk_52_method_21_31 rfl (fun h1 Wr2 A3 => ?_)
      refine W.iinc ok (pc' := 35) (L' := #[.val (.ref b), .val (.int (i.toInt32 + (1 : Int32))), .val (.ref d), .val (.int i.toInt32), .val (.int cs.length.toInt32), .val (.int i.toInt32), .val (.int c)]) (1 : Int32) d_jdk_52_method_21_32 rfl rfl rfl rfl ?_
      refine W.iinc ok (pc' := 38) (L' := #[.val (.ref b), .val (.int (i.toInt32 + (1 : Int32))), .val (.ref d), .val (.int (i.toInt32 + (1 : Int32))), .val (.int cs.length.toInt32), .val (.int i.toInt32), .val (.int c)]) (1 : Int32) d_jdk_52_method_21_35 rfl rfl rfl rfl ?_
      refine W.iinc ok (pc' := 41) (L' := #[.val (.ref b), .val (.int (i.toInt32 + (1 : Int32))), .val (.ref d), .val (.int (i.toInt32 + (1 : Int32))), .val (.int cs.length.toInt32), .val (.int (i.toInt32 + (1 : Int32))), .val (.int c)]) (1 : Int32) d_jdk_52_method_21_38 rfl rfl rfl rfl ?_
      refine W.goto ok (pc' := 3) d_jdk_52_method_21_41 (by decide) rfl ?_
      rw [i32_succ]
      exact ih (i + 1) _ _ _ (by omega) (One.val rfl) (Ab.other Wr2 hbd) (A3.cast (by rw [nat_i32 (by omega), b8_b8, fill_step hc]))
  exact loop cs.length 0 h _ .unset (by omega) One.u Ab (Ad.cast (by simp))
set_option maxRecDepth 65536 in
set_option maxHeartbeats 4000000 in
theorem k_cmp3L (l : Launch) (Z : State) (a0 : Array Value) (hE : Ev Z a0) (b : Addr) (cs : List Int32) (h : Heap) (Ab : ArI Z h b .char cs) (hcap : cs.length ≤ 13) (hlat : ∀ c ∈ cs, c.toInt ≤ 255) : Con l Z false (⟨"java/lang/StringUTF16", "compress", "([CII)[B"⟩ : MethodName) jdk_52_method_16_code 6 (some (.array .byte)) ({ frames := 1, cells := 1, slots := 13, locals := 18 } : Room) [(.ref b), (.int (0 : Int32)), (.int cs.length.toInt32)] h [] false (fun M v h' => ∃ t, v = some (.ref t) ∧ h.size ≤ t ∧ ArI Z h' t .byte (cs.map b8)) := by
  have hw := hE.1
  refine Con.intro (L0 := #[.val (.ref b), .val (.int (0 : Int32)), .val (.int cs.length.toInt32), .unset, .unset, .unset]) (by decide +kernel) (fun m => ef_of rfl) ?_
  intro B M hwsM ok
  have ltb := Ab.gt
  refine W.iloadN ok (pc' := 1) d_jdk_52_method_16_0 rfl rfl ?_
  refine W.newB ok (pc' := 3) (cap := 13) (w22 hw) (i32_nn (by omega)) (by rw [nat_i32 (by omega)]; omega) (by decide) d_jdk_52_method_16_1 rfl (Nat.le_of_ble_eq_true rfl) (Nat.le_of_ble_eq_true rfl) (fun a1 h2 z3 ea4 E5 A6 => ?_)
  replace A6 := A6.cast (cs' := List.replicate cs.length 0) (by rw [nat_i32 (by omega)])
  refine W.astoreN ok (pc' := 4) (L' := #[.val (.ref b), .val (.int (0 : Int32)), .val (.int cs.length.toInt32), .val (.ref a1), .unset, .unset]) d_jdk_52_method_16_3 rfl rfl rfl ?_
  refine W.aloadN ok (pc' := 5) d_jdk_52_method_16_4 rfl rfl rfl ?_
  refine W.iloadN ok (pc' := 6) d_jdk_52_method_16_5 rfl rfl ?_
  refine W.aloadN ok (pc' := 7) d_jdk_52_method_16_6 rfl rfl rfl ?_
  refine W.iconst ok (pc' := 8) (0 : Int32) d_jdk_52_method_16_7 rfl rfl ?_
  refine W.iloadN ok (pc' := 9) d_jdk_52_method_16_8 rfl rfl ?_
  refine W.callS ok (rest := []) (cl' := (true, [])) (pc' := 12) (w82 hw) (w83 hw) (w80 hw) (w84 hw) (by decide) pd_1 rfl (k_cmpL l Z a0 hE b a1 cs h2 (Ab.ext E5) A6 (ane (by omega)) (by omega) hlat) (fun w q => by simp only [List.mem_cons, List.not_mem_nil, or_false] at q; subst q; exact ⟨(List.mem_cons_self ..), (Or.inr z3)⟩) (fun q => ⟨q, fun w q => by simp only [List.mem_cons, List.not_mem_nil, or_false] at q; subst q; exact z3⟩) rfl rfl (Nat.le_of_ble_eq_true rfl) (Nat.le_of_ble_eq_true rfl) (Nat.le_of_ble_eq_true rfl) (Nat.le_of_ble_eq_true rfl) d_jdk_52_method_16_9 rfl rfl (fun v h7 hq K8 => ?_)
  obtain ⟨rfl, A2⟩ := hq
  show W B h7 1 13 (a1 :: M) (true, []) 12 #[.val (.ref b), .val (.int (0 : Int32)), .val (.int cs.length.toInt32), .val (.ref a1), .unset, .unset] [(.int cs.length.toInt32)]
  refine W.istore ok (pc' := 14) (L' := #[.val (.ref b), .val (.int (0 : Int32)), .val (.int cs.length.toInt32), .val (.ref a1), .val (.int cs.length.toInt32), .unset]) d_jdk_52_method_16_12 rfl rfl ?_
  refine W.iload ok (pc' := 16) d_jdk_52_method_16_14 rfl rfl ?_
  refine W.iloadN ok (pc' := 17) d_jdk_52_method_16_16 rfl rfl ?_
  refine W.icmpeq ok (pcY := 57) (pcN := 20) d_jdk_52_method_16_17 rfl (by decide) rfl (fun _ => ?_) (fun q => absurd rfl q)
  refine W.aloadN ok (pc' := 58) d_jdk_52_method_16_57 rfl rfl rfl ?_
  exact W.retA ok d_jdk_52_method_16_58 rfl rfl (Nat.le_of_ble_eq_true rfl) (Nat.le_of_ble_eq_true rfl) (fun x (q : x ∈ M) => (List.mem_cons_of_mem _ q)) (fun kp => ⟨a1, rfl, Nat.le_of_eq ea4, A2⟩)
set_option maxRecDepth 65536 in
set_option maxHeartbeats 4000000 in
theorem k_cLen (l : Launch) (Z : State) (a0 : Array Value) (hE : Ev Z a0) (t : Addr) (bs : List Int32) (n : Int32) (h : Heap) (A : ArI Z h t .byte bs) : Con l Z false (⟨"java/lang/StringUTF16", "coderFromArrayLen", "([BI)B"⟩ : MethodName) jdk_52_method_15_code 2 (some .byte) ({ frames := 0, cells := 0, slots := 0, locals := 0 } : Room) [(.ref t), (.int n)] h [] false (fun M v h' => v = some (.int (b8 (XT.ushr (n - bs.length.toInt32) (31 : Int32)))) ∧ h' = h) := by
  have hw := hE.1
  refine Con.intro (L0 := #[.val (.ref t), .val (.int n)]) (by decide +kernel) (fun m => ef_of rfl) ?_
  intro B M hwsM ok
  refine W.iloadN ok (pc' := 1) d_jdk_52_method_15_0 rfl rfl ?_
  refine W.aloadN ok (pc' := 2) d_jdk_52_method_15_1 rfl rfl rfl ?_
  refine W.lenI ok (pc' := 3) A bs.length.toInt32 rfl d_jdk_52_method_15_2 rfl ?_
  refine W.isub ok (pc' := 4) d_jdk_52_method_15_3 rfl ?_
  refine W.bipush ok (pc' := 6) (31 : Int32) d_jdk_52_method_15_4 rfl rfl ?_
  refine W.iushr ok (pc' := 7) d_jdk_52_method_15_6 rfl ?_
  refine W.i2b ok (pc' := 8) d_jdk_52_method_15_7 rfl ?_
  exact W.retB ok d_jdk_52_method_15_8 (b8_b8 _) (Nat.le_of_ble_eq_true rfl) (Nat.le_of_ble_eq_true rfl) (fun x (q : x ∈ M) => q) (fun kp => ⟨rfl, rfl⟩)
set_option maxRecDepth 65536 in
set_option maxHeartbeats 4000000 in
theorem k_init4 (l : Launch) (Z : State) (a0 : Array Value) (hE : Ev Z a0) (a b : Addr) (cs : List Int32) (h : Heap) (X : Exa Z h a ST) (F1 : Fld Z h a ST "value" "[B" .null) (F2 : Fld Z h a ST "coder" "B" (.int 0)) (Ab : ArI Z h b .char cs) (hcap : cs.length ≤ 13) (hlat : ∀ c ∈ cs, c.toInt ≤ 255) : Con l Z false (⟨"java/lang/String", "<init>", "([CIILjava/lang/Void;)V"⟩ : MethodName) jdk_42_method_149_code 6 none ({ frames := 2, cells := 4, slots := 13, locals := 35 } : Room) [(.ref a), (.ref b), (.int (0 : Int32)), (.int cs.length.toInt32), .null] h [a] false (fun M v h' => v = none ∧ ∃ t cd bs, t ∉ M ∧ Fld Z h' a ST "value" "[B" (.ref t) ∧ Fld Z h' a ST "coder" "B" (.int cd) ∧ ArI Z h' t .byte bs ∧ Cod cd cs bs) := by
  have hw := hE.1
  refine Con.intro (L0 := #[.val (.ref a), .val (.ref b), .val (.int (0 : Int32)), .val (.int cs.length.toInt32), .val .null, .unset]) (by decide +kernel) (fun m => ef_of rfl) ?_
  intro B M hwsM ok
  refine W.lt fun hM => ?_
  have lta := gtE X
  have ltb := Ab.gt
  have haM : a ∈ M := hwsM _ (List.mem_cons_self ..)
  have ne1 := Exa.neArI X (w9 hw) Ab
  have rc : ∀ c ∈ cs, 0 ≤ c.toInt ∧ c.toInt ≤ 65535 := fun c hc => fits_char_rng (Ab.fit c hc)
  refine W.aloadN ok (pc' := 1) d_jdk_42_method_149_0 rfl rfl rfl ?_
  refine W.initO ok (pc' := 4) (w18 hw) (w19 hw) (w20 hw) rfl (Nat.le_of_ble_eq_true rfl) (Nat.le_of_ble_eq_true rfl) d_jdk_42_method_149_1 rfl ?_
  refine W.iloadN ok (pc' := 5) d_jdk_42_method_149_4 rfl rfl ?_
  refine W.ifne ok (pcY := 27) (pcN := 8) d_jdk_42_method_149_5 rfl (by decide) rfl (fun c0 => ?_) (fun c0 => ?_)
  · have e0 : cs = [] := List.length_eq_zero_iff.mp (by have := (i32_inj (a := cs.length) (b := 0) (by omega) (by omega)).mp c0; exact this)
    subst e0
    refine W.aloadN ok (pc' := 9) d_jdk_42_method_149_8 rfl rfl rfl ?_
    refine W.ldcS ok (pc' := 11) rfl (text := "") (sz := 0) (w21 hw) (fun d hd => hw d ((by decide +kernel : ∀ d ∈ Bundle.stringAtoms, d ∈ tables_1) d hd)) (hE.held _ (List.mem_of_getElem? (i := 2) rfl)) hE.cw (by decide) (Or.inl rfl) (by decide) (by decide) d_jdk_42_method_149_9 rfl (Nat.le_of_ble_eq_true rfl) (Nat.le_of_ble_eq_true rfl) (fun a1 h2 E3 S1 => ?_)
    have S1' := S1
    obtain ⟨t1, cd1, bs1, n1, n2, n3, n4, n5, n6, n7⟩ := S1'
    refine W.getF ok (pc' := 14) (w27 hw) Via.refl n4 d_jdk_42_method_149_11 rfl ?_
    have hat : t1 ≠ a := fun e => n2 (e ▸ haM)
    refine W.putF ok (pc' := 17) (cl' := (false, ("java/lang/String", 7) :: [])) (w27 hw) Via.refl (F1.ext E3) (X.ext E3) (Or.inr ⟨(w23 hw), rfl, rfl⟩) (w9 hw) (ty := (.array .byte)) (by decide) rfl rfl (hwsM _ (List.mem_of_getElem? (i := 0) rfl)) (Or.inl (List.mem_of_getElem? (i := 0) rfl)) (fun q => by cases q) rfl d_jdk_42_method_149_14 rfl (fun h4 W5 => ?_)
    refine W.aloadN ok (pc' := 18) d_jdk_42_method_149_17 rfl rfl rfl ?_
    refine W.ldcS ok (pc' := 20) rfl (text := "") (sz := 0) (w21 hw) (fun d hd => hw d ((by decide +kernel : ∀ d ∈ Bundle.stringAtoms, d ∈ tables_1) d hd)) (hE.held _ (List.mem_of_getElem? (i := 2) rfl)) hE.cw (by decide) (Or.inr (by simp)) (by decide) (by decide) d_jdk_42_method_149_18 rfl (Nat.le_of_ble_eq_true rfl) (Nat.le_of_ble_eq_true rfl) (fun a6 h7 E8 S2 => ?_)
    obtain ⟨t2, cd2, bs2, m1, m2, m3, m4, m5, m6, m7⟩ := S2
    have e7 : cd2 = 0 := by rcases m7 with ⟨q, -⟩ | ⟨-, -, -, q⟩; · exact q
                            · simp [chs] at q
    subst e7
    refine W.getF ok (pc' := 23) (w28 hw) Via.refl m5 d_jdk_42_method_149_20 rfl ?_
    refine W.putF ok (pc' := 26) (cl' := (false, ("java/lang/String", 7) :: ("java/lang/String", 7) :: [])) (w28 hw) Via.refl ((F2.ext E3).other W5 (Or.inr (slot_ne (Or.inr (w24 hw)) (Or.inr (w23 hw)) (by decide) (t := .byte) (by decide) (t' := (.array .byte)) (by decide))) |>.ext E8) (((X.ext E3).wr W5).ext E8) (Or.inr ⟨(w24 hw), rfl, rfl⟩) (w9 hw) (ty := .byte) (by decide) (by first | rfl | assumption) (by first | rfl | assumption) (hwsM _ (List.mem_of_getElem? (i := 0) rfl)) (Or.inl (List.mem_of_getElem? (i := 0) rfl)) (fun q => by cases q) rfl d_jdk_42_method_149_23 rfl (fun h9 W10 => ?_)
    have e8 : cd1 = 0 := by rcases n7 with ⟨q, -⟩ | ⟨-, -, -, q⟩; · exact q
                            · simp [chs] at q
    subst e8
    exact W.retV ok d_jdk_42_method_149_26 (Nat.le_of_ble_eq_true rfl) (Nat.le_of_ble_eq_true rfl) (fun x (q : x ∈ M) => q) (fun kp => ⟨rfl, t1, 0, bs1, n2, ((((F1.ext E3).same W5).ext E8).other W10 (Or.inr (slot_ne (Or.inr (w23 hw)) (Or.inr (w24 hw)) (by decide) (t := (.array .byte)) (by decide) (t' := .byte) (by decide)))), (((F2.ext E3).other W5 (Or.inr (slot_ne (Or.inr (w24 hw)) (Or.inr (w23 hw)) (by decide) (t := .byte) (by decide) (t' := (.array .byte)) (by decide)))).ext E8).same W10, (((n6.other W5 hat).ext E8).other W10 hat), n7⟩)
  · have hne : cs ≠ [] := fun e => c0 (by rw [e]; rfl)
    have hpos : 0 < cs.length := List.length_pos_iff.mpr hne
    obtain ⟨g, hg, Fg⟩ := hE.compact
    refine W.getS ok (pc' := 30) (w36 hw) Via.refl Fg d_jdk_42_method_149_27 rfl ?_
    refine W.ifeq ok (pcY := 58) (pcN := 33) d_jdk_42_method_149_30 rfl (by decide) rfl (fun q => absurd q hg) (fun _ => ?_)
    refine W.aloadN ok (pc' := 34) d_jdk_42_method_149_33 rfl rfl rfl ?_
    refine W.iloadN ok (pc' := 35) d_jdk_42_method_149_34 rfl rfl ?_
    refine W.iloadN ok (pc' := 36) d_jdk_42_method_149_35 rfl rfl ?_
    refine W.callS ok (rest := []) (cl' := (true, [])) (pc' := 39) (w78 hw) (w79 hw) (w80 hw) (w81 hw) (by decide) pd_2 rfl (k_cmp3L l Z a0 hE b cs h Ab hcap hlat) (fun _ q => (nomatch q)) (fun q => ⟨q, fun _ q => (nomatch q)⟩) rfl rfl (Nat.le_of_ble_eq_true rfl) (Nat.le_of_ble_eq_true rfl) (Nat.le_of_ble_eq_true rfl) (Nat.le_of_ble_eq_true rfl) d_jdk_42_method_149_36 rfl rfl (fun v h11 hq K12 => ?_)
    obtain ⟨t, rfl, ht, At⟩ := hq
    show W B h11 1 13 M (true, []) 39 #[.val (.ref a), .val (.ref b), .val (.int (0 : Int32)), .val (.int cs.length.toInt32), .val .null, .unset] [(.ref t)]
    refine W.astore ok (pc' := 41) (L' := #[.val (.ref a), .val (.ref b), .val (.int (0 : Int32)), .val (.int cs.length.toInt32), .val .null, .val (.ref t)]) d_jdk_42_method_149_39 rfl rfl rfl ?_
    refine W.aloadN ok (pc' := 42) d_jdk_42_method_149_41 rfl rfl rfl ?_
    refine W.aload ok (pc' := 44) d_jdk_42_method_149_42 rfl rfl rfl ?_
    refine W.iloadN ok (pc' := 45) d_jdk_42_method_149_44 rfl rfl ?_
    refine W.callS ok (rest := [(.ref a)]) (cl' := (true, [])) (pc' := 48) (w85 hw) (w86 hw) (w80 hw) (w87 hw) (by decide) pd_3 rfl (k_cLen l Z a0 hE t (cs.map b8) cs.length.toInt32 h11 At) (fun _ q => (nomatch q)) (fun q => ⟨q, fun _ q => (nomatch q)⟩) rfl rfl (Nat.le_of_ble_eq_true rfl) (Nat.le_of_ble_eq_true rfl) (Nat.le_of_ble_eq_true rfl) (Nat.le_of_ble_eq_true rfl) d_jdk_42_method_149_45 rfl rfl (pureK ?_)
    show W B h11 1 13 M (true, []) 48 #[.val (.ref a), .val (.ref b), .val (.int (0 : Int32)), .val (.int cs.length.toInt32), .val .null, .val (.ref t)] [(.int (b8 (XT.ushr (cs.length.toInt32 - (cs.map b8).length.toInt32) (31 : Int32)))), (.ref a)]
    rw [show b8 (XT.ushr (cs.length.toInt32 - (cs.map b8).length.toInt32) (31 : Int32)) = 0 by rw [List.length_map, Int32.sub_self]; exact ushr31_zero]
    have ltt := At.gt
    refine W.putF ok (pc' := 51) (cl' := (false, [])) (w28 hw) Via.refl (F2.ext (ext_keep K12)) (X.ext (ext_keep K12)) (Or.inr ⟨(w24 hw), rfl, rfl⟩) (w9 hw) (ty := .byte) (by decide) (by first | rfl | assumption) (by first | rfl | assumption) (hwsM _ (List.mem_of_getElem? (i := 0) rfl)) (Or.inl (List.mem_of_getElem? (i := 0) rfl)) (fun q => by cases q) rfl d_jdk_42_method_149_48 rfl (fun h13 W14 => ?_)
    refine W.aloadN ok (pc' := 52) d_jdk_42_method_149_51 rfl rfl rfl ?_
    refine W.aload ok (pc' := 54) d_jdk_42_method_149_52 rfl rfl rfl ?_
    refine W.putF ok (pc' := 57) (cl' := (false, [])) (w27 hw) Via.refl ((F1.ext (ext_keep K12)).other W14 (Or.inr (slot_ne (Or.inr (w23 hw)) (Or.inr (w24 hw)) (by decide) (t := (.array .byte)) (by decide) (t' := .byte) (by decide)))) ((X.ext (ext_keep K12)).wr W14) (Or.inr ⟨(w23 hw), rfl, rfl⟩) (w9 hw) (ty := (.array .byte)) (by decide) rfl rfl (hwsM _ (List.mem_of_getElem? (i := 0) rfl)) (Or.inl (List.mem_of_getElem? (i := 0) rfl)) (fun q => by cases q) rfl d_jdk_42_method_149_54 rfl (fun h15 W16 => ?_)
    exact W.retV ok d_jdk_42_method_149_57 (Nat.le_of_ble_eq_true rfl) (Nat.le_of_ble_eq_true rfl) (fun x (q : x ∈ M) => q) (fun kp => ⟨rfl, t, (0 : Int32), _, fun q => absurd (hM _ q) (by omega), ((F1.ext (ext_keep K12)).other W14 (Or.inr (slot_ne (Or.inr (w23 hw)) (Or.inr (w24 hw)) (by decide) (t := (.array .byte)) (by decide) (t' := .byte) (by decide)))).same W16, ((F2.ext (ext_keep K12)).same W14).other W16 (Or.inr (slot_ne (Or.inr (w24 hw)) (Or.inr (w23 hw)) (by decide) (t := .byte) (by decide) (t' := (.array .byte)) (by decide))), (At.other W14 (ane (by omega))).other W16 (ane (by omega)), Or.inl ⟨rfl, rfl, fun c hc => ⟨(rc c hc).1, hlat c hc⟩⟩⟩)
set_option maxRecDepth 65536 in
set_option maxHeartbeats 4000000 in
theorem k_initC (l : Launch) (Z : State) (a0 : Array Value) (hE : Ev Z a0) (a b : Addr) (cs : List Int32) (h : Heap) (X : Exa Z h a ST) (F1 : Fld Z h a ST "value" "[B" .null) (F2 : Fld Z h a ST "coder" "B" (.int 0)) (Ab : ArI Z h b .char cs) (hcap : cs.length ≤ 13) (hlat : ∀ c ∈ cs, c.toInt ≤ 255) : Con l Z false (⟨"java/lang/String", "<init>", "([C)V"⟩ : MethodName) jdk_42_method_3_code 2 none ({ frames := 3, cells := 4, slots := 13, locals := 52 } : Room) [(.ref a), (.ref b)] h [a] false (fun M v h' => v = none ∧ ∃ t cd bs, t ∉ M ∧ Fld Z h' a ST "value" "[B" (.ref t) ∧ Fld Z h' a ST "coder" "B" (.int cd) ∧ ArI Z h' t .byte bs ∧ Cod cd cs bs) := by
  have hw := hE.1
  refine Con.intro (L0 := #[.val (.ref a), .val (.ref b)]) (by decide +kernel) (fun m => ef_of rfl) ?_
  intro B M hwsM ok
  refine W.aloadN ok (pc' := 1) d_jdk_42_method_3_0 rfl rfl rfl ?_
  refine W.aloadN ok (pc' := 2) d_jdk_42_method_3_1 rfl rfl rfl ?_
  refine W.iconst ok (pc' := 3) (0 : Int32) d_jdk_42_method_3_2 rfl rfl ?_
  refine W.aloadN ok (pc' := 4) d_jdk_42_method_3_3 rfl rfl rfl ?_
  refine W.lenI ok (pc' := 5) Ab cs.length.toInt32 rfl d_jdk_42_method_3_4 rfl ?_
  refine W.aconstNull ok (pc' := 6) d_jdk_42_method_3_5 rfl ?_
  refine W.callI ok (rest := []) (cl' := (false, [])) (pc' := 9) rfl (w14 hw) (w15 hw) (w10 hw) (w17 hw) (by decide) pd_4 rfl (k_init4 l Z a0 hE a b cs h X F1 F2 Ab hcap hlat) (fun w q => by simp only [List.mem_cons, List.not_mem_nil, or_false] at q; subst q; exact ⟨(hwsM _ (List.mem_of_getElem? (i := 0) rfl)), (Or.inl (List.mem_of_getElem? (i := 0) rfl))⟩) (fun q => by cases q) rfl rfl (Nat.le_of_ble_eq_true rfl) (Nat.le_of_ble_eq_true rfl) (Nat.le_of_ble_eq_true rfl) (Nat.le_of_ble_eq_true rfl) d_jdk_42_method_3_6 rfl rfl (fun v h1 hq K2 => ?_)
  obtain ⟨rfl, hq⟩ := hq
  show W B h1 4 13 M (false, []) 9 #[.val (.ref a), .val (.ref b)] []
  exact W.retV ok d_jdk_42_method_3_9 (Nat.le_of_ble_eq_true rfl) (Nat.le_of_ble_eq_true rfl) (fun x (q : x ∈ M) => q) (fun kp => ⟨rfl, hq⟩)
set_option maxRecDepth 65536 in
set_option maxHeartbeats 4000000 in
theorem k_pick (l : Launch) (Z : State) (a0 : Array Value) (hE : Ev Z a0) (m t w s : Int32) (h : Heap) (ht : c16 t = t) : Con l Z false (⟨"com/example/inkan/inkan/jose/KeyManagementAlgorithmNamedPinLaw", "pick", "(ICII)C"⟩ : MethodName) method_3_code 4 (some .char) ({ frames := 0, cells := 0, slots := 0, locals := 0 } : Room) [(.int m), (.int t), (.int w), (.int s)] h [] false (fun M v h' => v = some (.int (pk m t w s)) ∧ h' = h) := by
  have hw := hE.1
  refine Con.intro (L0 := #[.val (.int m), .val (.int t), .val (.int w), .val (.int s)]) (by decide +kernel) (fun m => ef_of rfl) ?_
  intro B M hwsM ok
  refine W.iloadN ok (pc' := 1) d_method_3_0 rfl rfl ?_
  refine W.ifne ok (pcY := 13) (pcN := 4) d_method_3_1 rfl (by decide) rfl (fun c0 => ?_) (fun c0 => ?_)
  · refine W.iloadN ok (pc' := 5) d_method_3_4 rfl rfl ?_
    refine W.iloadN ok (pc' := 6) d_method_3_5 rfl rfl ?_
    refine W.iushr ok (pc' := 7) d_method_3_6 rfl ?_
    refine W.sipush ok (pc' := 10) (255 : Int32) d_method_3_7 rfl rfl ?_
    refine W.iand ok (pc' := 11) d_method_3_10 rfl ?_
    refine W.i2c ok (pc' := 12) d_method_3_11 rfl ?_
    exact W.retC ok d_method_3_12 (c16_c16 _) (Nat.le_of_ble_eq_true rfl) (Nat.le_of_ble_eq_true rfl) (fun x (q : x ∈ M) => q) (fun kp => ⟨by rw [pk, if_pos c0], rfl⟩)
  · refine W.iloadN ok (pc' := 14) d_method_3_13 rfl rfl ?_
    exact W.retC ok d_method_3_14 ht (Nat.le_of_ble_eq_true rfl) (Nat.le_of_ble_eq_true rfl) (fun x (q : x ∈ M) => q) (fun kp => ⟨by rw [pk, if_neg c0], rfl⟩)
set_option maxRecDepth 65536 in
set_option maxHeartbeats 4000000 in
theorem k_str (l : Launch) (Z : State) (a0 : Array Value) (hE : Ev Z a0) (ch : Addr) (x0 x1 x2 x3 x4 x5 x6 x7 x8 x9 x10 x11 x12 : Int32) (ln : Nat) (h : Heap) (A : ArI Z h ch .char [x0, x1, x2, x3, x4, x5, x6, x7, x8, x9, x10, x11, x12]) (hr : ∀ x ∈ ([x0, x1, x2, x3, x4, x5, x6, x7, x8, x9, x10, x11, x12] : List Int32), 0 ≤ x.toInt ∧ x.toInt ≤ 255) (hl : ln ≤ 13) : Con l Z false (⟨"com/example/inkan/inkan/jose/KeyManagementAlgorithmNamedPinLaw", "str", "([CI)Ljava/lang/String;"⟩ : MethodName) method_4_code 2 (some (.object "java/lang/String")) ({ frames := 4, cells := 6, slots := 29, locals := 66 } : Room) [(.ref ch), (.int ln.toInt32)] h [] false (fun M v h' => ∃ r, v = some (.ref r) ∧ h.size ≤ r ∧ StrM Z h' M r (([x0, x1, x2, x3, x4, x5, x6, x7, x8, x9, x10, x11, x12] : List Int32).take ln)) := by
  have hw := hE.1
  refine Con.intro (L0 := #[.val (.ref ch), .val (.int ln.toInt32)]) (by decide +kernel) (fun m => ef_of rfl) ?_
  intro B M hwsM ok
  have ltc := A.gt
  obtain rfl | rfl | rfl | rfl | rfl | rfl | rfl | rfl | rfl | rfl | rfl | rfl | rfl | rfl : ln = 0 ∨ ln = 1 ∨ ln = 2 ∨ ln = 3 ∨ ln = 4 ∨ ln = 5 ∨ ln = 6 ∨ ln = 7 ∨ ln = 8 ∨ ln = 9 ∨ ln = 10 ∨ ln = 11 ∨ ln = 12 ∨ ln = 13 := by omega
  · refine W.iloadN ok (pc' := 1) d_method_4_0 rfl rfl ?_
    refine W.ifne ok (pcY := 15) (pcN := 4) d_method_4_1 rfl (by decide) rfl (fun _ => ?_) (fun q => absurd rfl q)
    refine W.lt fun hM1 => ?_
    refine W.new ok (pc' := 7) (w8 hw) (w9 hw) (w10 hw) d_method_4_4 rfl (Nat.le_of_ble_eq_true rfl) (Nat.le_of_ble_eq_true rfl) (fun a2 h3 z4 ea5 E6 X7 D8 U9 => ?_)
    refine W.dup ok (pc' := 8) d_method_4_7 rfl rfl ?_
    refine W.iconst ok (pc' := 9) (0 : Int32) d_method_4_8 rfl rfl ?_
    refine W.newC ok (pc' := 11) (cap := 0) (w0 hw) (by decide) (by decide) (by decide) d_method_4_9 rfl (Nat.le_of_ble_eq_true rfl) (Nat.le_of_ble_eq_true rfl) (fun a10 h11 z12 ea13 E14 A15 => ?_)
    replace A15 := A15.cast (cs' := []) rfl
    have l16 := gtE X7
    have l17 := E6.1
    have l18 := E14.1
    have nab19 : a2 ≠ a10 := ane (by omega)
    have nch20 : ch ≠ a10 := ane (by omega)
    refine W.callI ok (rest := [(.ref a2)]) (cl' := (true, [])) (pc' := 14) rfl (w11 hw) (w12 hw) (w10 hw) (w13 hw) (by decide) pd_5 rfl (k_initC l Z a0 hE a2 a10 [] h11 (X7.ext E14) ((D8 (Or.inr (w23 hw)) (ty := (.array .byte)) (by decide)).ext E14) ((D8 (Or.inr (w24 hw)) (ty := .byte) (by decide)).ext E14) A15 (by simp) (fun c hc => (hr c (List.mem_of_mem_take (i := 0) hc)).2)) (fun w q => by simp only [List.mem_cons, List.not_mem_nil, or_false] at q; subst q; exact ⟨(List.mem_cons_of_mem _ (List.mem_cons_self ..)), (Or.inr z4)⟩) (fun q => ⟨q, fun w q => by simp only [List.mem_cons, List.not_mem_nil, or_false] at q; subst q; exact z4⟩) rfl rfl (Nat.le_of_ble_eq_true rfl) (Nat.le_of_ble_eq_true rfl) (Nat.le_of_ble_eq_true rfl) (Nat.le_of_ble_eq_true rfl) d_method_4_11 rfl rfl (fun v h29 hq K30 => ?_)
    obtain ⟨rfl, t21, cd22, bs23, q24, q25, q26, q27, q28⟩ := hq
    show W B h29 6 17 (a10 :: a2 :: M) (true, []) 14 #[.val (.ref ch), .val (.int ((0 : Nat).toInt32))] [(.ref a2)]
    have E31 := ExtK (ExtT E6 E14) K30 (by simp; omega)
    have S1 : StrM Z h29 M a2 [] := ⟨t21, cd22, bs23, fun z => absurd (hM1 _ z) (by omega), fun z => q24 (List.mem_cons_of_mem _ (List.mem_cons_of_mem _ z)), ((X7.ext E14).keep K30), q25, q26, q27, q28⟩
    refine W.drop (M' := M) (fun x z => (List.mem_cons_of_mem _ (List.mem_cons_of_mem _ z))) ?_
    exact W.retA ok d_method_4_14 rfl rfl (Nat.le_of_ble_eq_true rfl) (Nat.le_of_ble_eq_true rfl) (fun x (q : x ∈ M) => q) (fun kp => ⟨a2, rfl, Nat.le_of_eq ea5, S1⟩)
  · refine W.iloadN ok (pc' := 1) d_method_4_0 rfl rfl ?_
    refine W.ifne ok (pcY := 15) (pcN := 4) d_method_4_1 rfl (by decide) rfl (fun q => absurd q (by decide)) (fun _ => ?_)
    refine W.iloadN ok (pc' := 16) d_method_4_15 rfl rfl ?_
    refine W.iconst ok (pc' := 17) (1 : Int32) d_method_4_16 rfl rfl ?_
    refine W.icmpne ok (pcY := 37) (pcN := 20) d_method_4_17 rfl (by decide) rfl (fun _ => ?_) (fun q => absurd (by decide) q)
    refine W.lt fun hM32 => ?_
    refine W.new ok (pc' := 23) (w8 hw) (w9 hw) (w10 hw) d_method_4_20 rfl (Nat.le_of_ble_eq_true rfl) (Nat.le_of_ble_eq_true rfl) (fun a33 h34 z35 ea36 E37 X38 D39 U40 => ?_)
    refine W.dup ok (pc' := 24) d_method_4_23 rfl rfl ?_
    refine W.iconst ok (pc' := 25) (1 : Int32) d_method_4_24 rfl rfl ?_
    refine W.newC ok (pc' := 27) (cap := 1) (w0 hw) (by decide) (by decide) (by decide) d_method_4_25 rfl (Nat.le_of_ble_eq_true rfl) (Nat.le_of_ble_eq_true rfl) (fun a41 h42 z43 ea44 E45 A46 => ?_)
    replace A46 := A46.cast (cs' := [0]) rfl
    have l47 := gtE X38
    have l48 := E37.1
    have l49 := E45.1
    have nab50 : a33 ≠ a41 := ane (by omega)
    have nch51 : ch ≠ a41 := ane (by omega)
    refine W.dup ok (pc' := 28) d_method_4_27 rfl rfl ?_
    refine W.iconst ok (pc' := 29) (0 : Int32) d_method_4_28 rfl rfl ?_
    refine W.aloadN ok (pc' := 30) d_method_4_29 rfl rfl rfl ?_
    refine W.iconst ok (pc' := 31) (0 : Int32) d_method_4_30 rfl rfl ?_
    refine W.caload ok (pc' := 32) ((A.ext E37).ext E45) x0 (by decide) rfl d_method_4_31 rfl ?_
    refine W.castore ok (pc' := 33) (cl' := (true, [])) A46 (by decide) (Nat.le_of_ble_eq_true rfl) (List.mem_cons_self ..) (Or.inr z43) (fun q => ⟨q, z43⟩) rfl d_method_4_32 rfl (fun h52 Wr53 A54 => ?_)
    replace A54 := A54.cast (cs' := [x0]) (by rw [c16_of ⟨(hr x0 (by simp)).1, by have := (hr x0 (by simp)).2; omega⟩]; rfl)
    refine W.callI ok (rest := [(.ref a33)]) (cl' := (true, [])) (pc' := 36) rfl (w11 hw) (w12 hw) (w10 hw) (w13 hw) (by decide) pd_5 rfl (k_initC l Z a0 hE a33 a41 [x0] h52 ((X38.ext E45).wr Wr53) (((D39 (Or.inr (w23 hw)) (ty := (.array .byte)) (by decide)).ext E45).other Wr53 (Or.inl nab50)) (((D39 (Or.inr (w24 hw)) (ty := .byte) (by decide)).ext E45).other Wr53 (Or.inl nab50)) A54 (by simp) (fun c hc => (hr c (List.mem_of_mem_take (i := 1) hc)).2)) (fun w q => by simp only [List.mem_cons, List.not_mem_nil, or_false] at q; subst q; exact ⟨(List.mem_cons_of_mem _ (List.mem_cons_self ..)), (Or.inr z35)⟩) (fun q => ⟨q, fun w q => by simp only [List.mem_cons, List.not_mem_nil, or_false] at q; subst q; exact z35⟩) rfl rfl (Nat.le_of_ble_eq_true rfl) (Nat.le_of_ble_eq_true rfl) (Nat.le_of_ble_eq_true rfl) (Nat.le_of_ble_eq_true rfl) d_method_4_33 rfl rfl (fun v h63 hq K64 => ?_)
    obtain ⟨rfl, t55, cd56, bs57, q58, q59, q60, q61, q62⟩ := hq
    show W B h63 6 18 (a41 :: a33 :: M) (true, []) 36 #[.val (.ref ch), .val (.int ((1 : Nat).toInt32))] [(.ref a33)]
    have E65 := ExtK (ExtW (ExtT E37 E45) Wr53 (by omega)) K64 (by simp; omega)
    have S1 : StrM Z h63 M a33 [x0] := ⟨t55, cd56, bs57, fun z => absurd (hM32 _ z) (by omega), fun z => q58 (List.mem_cons_of_mem _ (List.mem_cons_of_mem _ z)), (((X38.ext E45).wr Wr53).keep K64), q59, q60, q61, q62⟩
    refine W.drop (M' := M) (fun x z => (List.mem_cons_of_mem _ (List.mem_cons_of_mem _ z))) ?_
    exact W.retA ok d_method_4_36 rfl rfl (Nat.le_of_ble_eq_true rfl) (Nat.le_of_ble_eq_true rfl) (fun x (q : x ∈ M) => q) (fun kp => ⟨a33, rfl, Nat.le_of_eq ea36, S1⟩)
  · refine W.iloadN ok (pc' := 1) d_method_4_0 rfl rfl ?_
    refine W.ifne ok (pcY := 15) (pcN := 4) d_method_4_1 rfl (by decide) rfl (fun q => absurd q (by decide)) (fun _ => ?_)
    refine W.iloadN ok (pc' := 16) d_method_4_15 rfl rfl ?_
    refine W.iconst ok (pc' := 17) (1 : Int32) d_method_4_16 rfl rfl ?_
    refine W.icmpne ok (pcY := 37) (pcN := 20) d_method_4_17 rfl (by decide) rfl (fun q => absurd q (by decide)) (fun _ => ?_)
    refine W.iloadN ok (pc' := 38) d_method_4_37 rfl rfl ?_
    refine W.iconst ok (pc' := 39) (2 : Int32) d_method_4_38 rfl rfl ?_
    refine W.icmpne ok (pcY := 65) (pcN := 42) d_method_4_39 rfl (by decide) rfl (fun _ => ?_) (fun q => absurd (by decide) q)
    refine W.lt fun hM66 => ?_
    refine W.new ok (pc' := 45) (w8 hw) (w9 hw) (w10 hw) d_method_4_42 rfl (Nat.le_of_ble_eq_true rfl) (Nat.le_of_ble_eq_true rfl) (fun a67 h68 z69 ea70 E71 X72 D73 U74 => ?_)
    refine W.dup ok (pc' := 46) d_method_4_45 rfl rfl ?_
    refine W.iconst ok (pc' := 47) (2 : Int32) d_method_4_46 rfl rfl ?_
    refine W.newC ok (pc' := 49) (cap := 2) (w0 hw) (by decide) (by decide) (by decide) d_method_4_47 rfl (Nat.le_of_ble_eq_true rfl) (Nat.le_of_ble_eq_true rfl) (fun a75 h76 z77 ea78 E79 A80 => ?_)
    replace A80 := A80.cast (cs' := [0, 0]) rfl
    have l81 := gtE X72
    have l82 := E71.1
    have l83 := E79.1
    have nab84 : a67 ≠ a75 := ane (by omega)
    have nch85 : ch ≠ a75 := ane (by omega)
    refine W.dup ok (pc' := 50) d_method_4_49 rfl rfl ?_
    refine W.iconst ok (pc' := 51) (0 : Int32) d_method_4_50 rfl rfl ?_
    refine W.aloadN ok (pc' := 52) d_method_4_51 rfl rfl rfl ?_
    refine W.iconst ok (pc' := 53) (0 : Int32) d_method_4_52 rfl rfl ?_
    refine W.caload ok (pc' := 54) ((A.ext E71).ext E79) x0 (by decide) rfl d_method_4_53 rfl ?_
    refine W.castore ok (pc' := 55) (cl' := (true, [])) A80 (by decide) (Nat.le_of_ble_eq_true rfl) (List.mem_cons_self ..) (Or.inr z77) (fun q => ⟨q, z77⟩) rfl d_method_4_54 rfl (fun h86 Wr87 A88 => ?_)
    replace A88 := A88.cast (cs' := [x0, 0]) (by rw [c16_of ⟨(hr x0 (by simp)).1, by have := (hr x0 (by simp)).2; omega⟩]; rfl)
    refine W.dup ok (pc' := 56) d_method_4_55 rfl rfl ?_
    refine W.iconst ok (pc' := 57) (1 : Int32) d_method_4_56 rfl rfl ?_
    refine W.aloadN ok (pc' := 58) d_method_4_57 rfl rfl rfl ?_
    refine W.iconst ok (pc' := 59) (1 : Int32) d_method_4_58 rfl rfl ?_
    refine W.caload ok (pc' := 60) (((A.ext E71).ext E79).other Wr87 nch85) x1 (by decide) rfl d_method_4_59 rfl ?_
    refine W.castore ok (pc' := 61) (cl' := (true, [])) A88 (by decide) (Nat.le_of_ble_eq_true rfl) (List.mem_cons_self ..) (Or.inr z77) (fun q => ⟨q, z77⟩) rfl d_method_4_60 rfl (fun h89 Wr90 A91 => ?_)
    replace A91 := A91.cast (cs' := [x0, x1]) (by rw [c16_of ⟨(hr x1 (by simp)).1, by have := (hr x1 (by simp)).2; omega⟩]; rfl)
    refine W.callI ok (rest := [(.ref a67)]) (cl' := (true, [])) (pc' := 64) rfl (w11 hw) (w12 hw) (w10 hw) (w13 hw) (by decide) pd_5 rfl (k_initC l Z a0 hE a67 a75 [x0, x1] h89 (((X72.ext E79).wr Wr87).wr Wr90) ((((D73 (Or.inr (w23 hw)) (ty := (.array .byte)) (by decide)).ext E79).other Wr87 (Or.inl nab84)).other Wr90 (Or.inl nab84)) ((((D73 (Or.inr (w24 hw)) (ty := .byte) (by decide)).ext E79).other Wr87 (Or.inl nab84)).other Wr90 (Or.inl nab84)) A91 (by simp) (fun c hc => (hr c (List.mem_of_mem_take (i := 2) hc)).2)) (fun w q => by simp only [List.mem_cons, List.not_mem_nil, or_false] at q; subst q; exact ⟨(List.mem_cons_of_mem _ (List.mem_cons_self ..)), (Or.inr z69)⟩) (fun q => ⟨q, fun w q => by simp only [List.mem_cons, List.not_mem_nil, or_false] at q; subst q; exact z69⟩) rfl rfl (Nat.le_of_ble_eq_true rfl) (Nat.le_of_ble_eq_true rfl) (Nat.le_of_ble_eq_true rfl) (Nat.le_of_ble_eq_true rfl) d_method_4_61 rfl rfl (fun v h100 hq K101 => ?_)
    obtain ⟨rfl, t92, cd93, bs94, q95, q96, q97, q98, q99⟩ := hq
    show W B h100 6 19 (a75 :: a67 :: M) (true, []) 64 #[.val (.ref ch), .val (.int ((2 : Nat).toInt32))] [(.ref a67)]
    have E102 := ExtK (ExtW (ExtW (ExtT E71 E79) Wr87 (by omega)) Wr90 (by omega)) K101 (by simp; omega)
    have S1 : StrM Z h100 M a67 [x0, x1] := ⟨t92, cd93, bs94, fun z => absurd (hM66 _ z) (by omega), fun z => q95 (List.mem_cons_of_mem _ (List.mem_cons_of_mem _ z)), ((((X72.ext E79).wr Wr87).wr Wr90).keep K101), q96, q97, q98, q99⟩
    refine W.drop (M' := M) (fun x z => (List.mem_cons_of_mem _ (List.mem_cons_of_mem _ z))) ?_
    exact W.retA ok d_method_4_64 rfl rfl (Nat.le_of_ble_eq_true rfl) (Nat.le_of_ble_eq_true rfl) (fun x (q : x ∈ M) => q) (fun kp => ⟨a67, rfl, Nat.le_of_eq ea70, S1⟩)
  · refine W.iloadN ok (pc' := 1) d_method_4_0 rfl rfl ?_
    refine W.ifne ok (pcY := 15) (pcN := 4) d_method_4_1 rfl (by decide) rfl (fun q => absurd q (by decide)) (fun _ => ?_)
    refine W.iloadN ok (pc' := 16) d_method_4_15 rfl rfl ?_
    refine W.iconst ok (pc' := 17) (1 : Int32) d_method_4_16 rfl rfl ?_
    refine W.icmpne ok (pcY := 37) (pcN := 20) d_method_4_17 rfl (by decide) rfl (fun q => absurd q (by decide)) (fun _ => ?_)
    refine W.iloadN ok (pc' := 38) d_method_4_37 rfl rfl ?_
    refine W.iconst ok (pc' := 39) (2 : Int32) d_method_4_38 rfl rfl ?_
    refine W.icmpne ok (pcY := 65) (pcN := 42) d_method_4_39 rfl (by decide) rfl (fun q => absurd q (by decide)) (fun _ => ?_)
    refine W.iloadN ok (pc' := 66) d_method_4_65 rfl rfl ?_
    refine W.iconst ok (pc' := 67) (3 : Int32) d_method_4_66 rfl rfl ?_
    refine W.icmpne ok (pcY := 99) (pcN := 70) d_method_4_67 rfl (by decide) rfl (fun _ => ?_) (fun q => absurd (by decide) q)
    refine W.lt fun hM103 => ?_
    refine W.new ok (pc' := 73) (w8 hw) (w9 hw) (w10 hw) d_method_4_70 rfl (Nat.le_of_ble_eq_true rfl) (Nat.le_of_ble_eq_true rfl) (fun a104 h105 z106 ea107 E108 X109 D110 U111 => ?_)
    refine W.dup ok (pc' := 74) d_method_4_73 rfl rfl ?_
    refine W.iconst ok (pc' := 75) (3 : Int32) d_method_4_74 rfl rfl ?_
    refine W.newC ok (pc' := 77) (cap := 3) (w0 hw) (by decide) (by decide) (by decide) d_method_4_75 rfl (Nat.le_of_ble_eq_true rfl) (Nat.le_of_ble_eq_true rfl) (fun a112 h113 z114 ea115 E116 A117 => ?_)
    replace A117 := A117.cast (cs' := [0, 0, 0]) rfl
    have l118 := gtE X109
    have l119 := E108.1
    have l120 := E116.1
    have nab121 : a104 ≠ a112 := ane (by omega)
    have nch122 : ch ≠ a112 := ane (by omega)
    refine W.dup ok (pc' := 78) d_method_4_77 rfl rfl ?_
    refine W.iconst ok (pc' := 79) (0 : Int32) d_method_4_78 rfl rfl ?_
    refine W.aloadN ok (pc' := 80) d_method_4_79 rfl rfl rfl ?_
    refine W.iconst ok (pc' := 81) (0 : Int32) d_method_4_80 rfl rfl ?_
    refine W.caload ok (pc' := 82) ((A.ext E108).ext E116) x0 (by decide) rfl d_method_4_81 rfl ?_
    refine W.castore ok (pc' := 83) (cl' := (true, [])) A117 (by decide) (Nat.le_of_ble_eq_true rfl) (List.mem_cons_self ..) (Or.inr z114) (fun q => ⟨q, z114⟩) rfl d_method_4_82 rfl (fun h123 Wr124 A125 => ?_)
    replace A125 := A125.cast (cs' := [x0, 0, 0]) (by rw [c16_of ⟨(hr x0 (by simp)).1, by have := (hr x0 (by simp)).2; omega⟩]; rfl)
    refine W.dup ok (pc' := 84) d_method_4_83 rfl rfl ?_
    refine W.iconst ok (pc' := 85) (1 : Int32) d_method_4_84 rfl rfl ?_
    refine W.aloadN ok (pc' := 86) d_method_4_85 rfl rfl rfl ?_
    refine W.iconst ok (pc' := 87) (1 : Int32) d_method_4_86 rfl rfl ?_
    refine W.caload ok (pc' := 88) (((A.ext E108).ext E116).other Wr124 nch122) x1 (by decide) rfl d_method_4_87 rfl ?_
    refine W.castore ok (pc' := 89) (cl' := (true, [])) A125 (by decide) (Nat.le_of_ble_eq_true rfl) (List.mem_cons_self ..) (Or.inr z114) (fun q => ⟨q, z114⟩) rfl d_method_4_88 rfl (fun h126 Wr127 A128 => ?_)
    replace A128 := A128.cast (cs' := [x0, x1, 0]) (by rw [c16_of ⟨(hr x1 (by simp)).1, by have := (hr x1 (by simp)).2; omega⟩]; rfl)
    refine W.dup ok (pc' := 90) d_method_4_89 rfl rfl ?_
    refine W.iconst ok (pc' := 91) (2 : Int32) d_method_4_90 rfl rfl ?_
    refine W.aloadN ok (pc' := 92) d_method_4_91 rfl rfl rfl ?_
    refine W.iconst ok (pc' := 93) (2 : Int32) d_method_4_92 rfl rfl ?_
    refine W.caload ok (pc' := 94) ((((A.ext E108).ext E116).other Wr124 nch122).other Wr127 nch122) x2 (by decide) rfl d_method_4_93 rfl ?_
    refine W.castore ok (pc' := 95) (cl' := (true, [])) A128 (by decide) (Nat.le_of_ble_eq_true rfl) (List.mem_cons_self ..) (Or.inr z114) (fun q => ⟨q, z114⟩) rfl d_method_4_94 rfl (fun h129 Wr130 A131 => ?_)
    replace A131 := A131.cast (cs' := [x0, x1, x2]) (by rw [c16_of ⟨(hr x2 (by simp)).1, by have := (hr x2 (by simp)).2; omega⟩]; rfl)
    refine W.callI ok (rest := [(.ref a104)]) (cl' := (true, [])) (pc' := 98) rfl (w11 hw) (w12 hw) (w10 hw) (w13 hw) (by decide) pd_5 rfl (k_initC l Z a0 hE a104 a112 [x0, x1, x2] h129 ((((X109.ext E116).wr Wr124).wr Wr127).wr Wr130) (((((D110 (Or.inr (w23 hw)) (ty := (.array .byte)) (by decide)).ext E116).other Wr124 (Or.inl nab121)).other Wr127 (Or.inl nab121)).other Wr130 (Or.inl nab121)) (((((D110 (Or.inr (w24 hw)) (ty := .byte) (by decide)).ext E116).other Wr124 (Or.inl nab121)).other Wr127 (Or.inl nab121)).other Wr130 (Or.inl nab121)) A131 (by simp) (fun c hc => (hr c (List.mem_of_mem_take (i := 3) hc)).2)) (fun w q => by simp only [List.mem_cons, List.not_mem_nil, or_false] at q; subst q; exact ⟨(List.mem_cons_of_mem _ (List.mem_cons_self ..)), (Or.inr z106)⟩) (fun q => ⟨q, fun w q => by simp only [List.mem_cons, List.not_mem_nil, or_false] at q; subst q; exact z106⟩) rfl rfl (Nat.le_of_ble_eq_true rfl) (Nat.le_of_ble_eq_true rfl) (Nat.le_of_ble_eq_true rfl) (Nat.le_of_ble_eq_true rfl) d_method_4_95 rfl rfl (fun v h140 hq K141 => ?_)
    obtain ⟨rfl, t132, cd133, bs134, q135, q136, q137, q138, q139⟩ := hq
    show W B h140 6 20 (a112 :: a104 :: M) (true, []) 98 #[.val (.ref ch), .val (.int ((3 : Nat).toInt32))] [(.ref a104)]
    have E142 := ExtK (ExtW (ExtW (ExtW (ExtT E108 E116) Wr124 (by omega)) Wr127 (by omega)) Wr130 (by omega)) K141 (by simp; omega)
    have S1 : StrM Z h140 M a104 [x0, x1, x2] := ⟨t132, cd133, bs134, fun z => absurd (hM103 _ z) (by omega), fun z => q135 (List.mem_cons_of_mem _ (List.mem_cons_of_mem _ z)), (((((X109.ext E116).wr Wr124).wr Wr127).wr Wr130).keep K141), q136, q137, q138, q139⟩
    refine W.drop (M' := M) (fun x z => (List.mem_cons_of_mem _ (List.mem_cons_of_mem _ z))) ?_
    exact W.retA ok d_method_4_98 rfl rfl (Nat.le_of_ble_eq_true rfl) (Nat.le_of_ble_eq_true rfl) (fun x (q : x ∈ M) => q) (fun kp => ⟨a104, rfl, Nat.le_of_eq ea107, S1⟩)
  · refine W.iloadN ok (pc' := 1) d_method_4_0 rfl rfl ?_
    refine W.ifne ok (pcY := 15) (pcN := 4) d_method_4_1 rfl (by decide) rfl (fun q => absurd q (by decide)) (fun _ => ?_)
    refine W.iloadN ok (pc' := 16) d_method_4_15 rfl rfl ?_
    refine W.iconst ok (pc' := 17) (1 : Int32) d_method_4_16 rfl rfl ?_
    refine W.icmpne ok (pcY := 37) (pcN := 20) d_method_4_17 rfl (by decide) rfl (fun q => absurd q (by decide)) (fun _ => ?_)
    refine W.iloadN ok (pc' := 38) d_method_4_37 rfl rfl ?_
    refine W.iconst ok (pc' := 39) (2 : Int32) d_method_4_38 rfl rfl ?_
    refine W.icmpne ok (pcY := 65) (pcN := 42) d_method_4_39 rfl (by decide) rfl (fun q => absurd q (by decide)) (fun _ => ?_)
    refine W.iloadN ok (pc' := 66) d_method_4_65 rfl rfl ?_
    refine W.iconst ok (pc' := 67) (3 : Int32) d_method_4_66 rfl rfl ?_
    refine W.icmpne ok (pcY := 99) (pcN := 70) d_method_4_67 rfl (by decide) rfl (fun q => absurd q (by decide)) (fun _ => ?_)
    refine W.iloadN ok (pc' := 100) d_method_4_99 rfl rfl ?_
    refine W.iconst ok (pc' := 101) (4 : Int32) d_method_4_100 rfl rfl ?_
    refine W.icmpne ok (pcY := 139) (pcN := 104) d_method_4_101 rfl (by decide) rfl (fun _ => ?_) (fun q => absurd (by decide) q)
    refine W.lt fun hM143 => ?_
    refine W.new ok (pc' := 107) (w8 hw) (w9 hw) (w10 hw) d_method_4_104 rfl (Nat.le_of_ble_eq_true rfl) (Nat.le_of_ble_eq_true rfl) (fun a144 h145 z146 ea147 E148 X149 D150 U151 => ?_)
    refine W.dup ok (pc' := 108) d_method_4_107 rfl rfl ?_
    refine W.iconst ok (pc' := 109) (4 : Int32) d_method_4_108 rfl rfl ?_
    refine W.newC ok (pc' := 111) (cap := 4) (w0 hw) (by decide) (by decide) (by decide) d_method_4_109 rfl (Nat.le_of_ble_eq_true rfl) (Nat.le_of_ble_eq_true rfl) (fun a152 h153 z154 ea155 E156 A157 => ?_)
    replace A157 := A157.cast (cs' := [0, 0, 0, 0]) rfl
    have l158 := gtE X149
    have l159 := E148.1
    have l160 := E156.1
    have nab161 : a144 ≠ a152 := ane (by omega)
    have nch162 : ch ≠ a152 := ane (by omega)
    refine W.dup ok (pc' := 112) d_method_4_111 rfl rfl ?_
    refine W.iconst ok (pc' := 113) (0 : Int32) d_method_4_112 rfl rfl ?_
    refine W.aloadN ok (pc' := 114) d_method_4_113 rfl rfl rfl ?_
    refine W.iconst ok (pc' := 115) (0 : Int32) d_method_4_114 rfl rfl ?_
    refine W.caload ok (pc' := 116) ((A.ext E148).ext E156) x0 (by decide) rfl d_method_4_115 rfl ?_
    refine W.castore ok (pc' := 117) (cl' := (true, [])) A157 (by decide) (Nat.le_of_ble_eq_true rfl) (List.mem_cons_self ..) (Or.inr z154) (fun q => ⟨q, z154⟩) rfl d_method_4_116 rfl (fun h163 Wr164 A165 => ?_)
    replace A165 := A165.cast (cs' := [x0, 0, 0, 0]) (by rw [c16_of ⟨(hr x0 (by simp)).1, by have := (hr x0 (by simp)).2; omega⟩]; rfl)
    refine W.dup ok (pc' := 118) d_method_4_117 rfl rfl ?_
    refine W.iconst ok (pc' := 119) (1 : Int32) d_method_4_118 rfl rfl ?_
    refine W.aloadN ok (pc' := 120) d_method_4_119 rfl rfl rfl ?_
    refine W.iconst ok (pc' := 121) (1 : Int32) d_method_4_120 rfl rfl ?_
    refine W.caload ok (pc' := 122) (((A.ext E148).ext E156).other Wr164 nch162) x1 (by decide) rfl d_method_4_121 rfl ?_
    refine W.castore ok (pc' := 123) (cl' := (true, [])) A165 (by decide) (Nat.le_of_ble_eq_true rfl) (List.mem_cons_self ..) (Or.inr z154) (fun q => ⟨q, z154⟩) rfl d_method_4_122 rfl (fun h166 Wr167 A168 => ?_)
    replace A168 := A168.cast (cs' := [x0, x1, 0, 0]) (by rw [c16_of ⟨(hr x1 (by simp)).1, by have := (hr x1 (by simp)).2; omega⟩]; rfl)
    refine W.dup ok (pc' := 124) d_method_4_123 rfl rfl ?_
    refine W.iconst ok (pc' := 125) (2 : Int32) d_method_4_124 rfl rfl ?_
    refine W.aloadN ok (pc' := 126) d_method_4_125 rfl rfl rfl ?_
    refine W.iconst ok (pc' := 127) (2 : Int32) d_method_4_126 rfl rfl ?_
    refine W.caload ok (pc' := 128) ((((A.ext E148).ext E156).other Wr164 nch162).other Wr167 nch162) x2 (by decide) rfl d_method_4_127 rfl ?_
    refine W.castore ok (pc' := 129) (cl' := (true, [])) A168 (by decide) (Nat.le_of_ble_eq_true rfl) (List.mem_cons_self ..) (Or.inr z154) (fun q => ⟨q, z154⟩) rfl d_method_4_128 rfl (fun h169 Wr170 A171 => ?_)
    replace A171 := A171.cast (cs' := [x0, x1, x2, 0]) (by rw [c16_of ⟨(hr x2 (by simp)).1, by have := (hr x2 (by simp)).2; omega⟩]; rfl)
    refine W.dup ok (pc' := 130) d_method_4_129 rfl rfl ?_
    refine W.iconst ok (pc' := 131) (3 : Int32) d_method_4_130 rfl rfl ?_
    refine W.aloadN ok (pc' := 132) d_method_4_131 rfl rfl rfl ?_
    refine W.iconst ok (pc' := 133) (3 : Int32) d_method_4_132 rfl rfl ?_
    refine W.caload ok (pc' := 134) (((((A.ext E148).ext E156).other Wr164 nch162).other Wr167 nch162).other Wr170 nch162) x3 (by decide) rfl d_method_4_133 rfl ?_
    refine W.castore ok (pc' := 135) (cl' := (true, [])) A171 (by decide) (Nat.le_of_ble_eq_true rfl) (List.mem_cons_self ..) (Or.inr z154) (fun q => ⟨q, z154⟩) rfl d_method_4_134 rfl (fun h172 Wr173 A174 => ?_)
    replace A174 := A174.cast (cs' := [x0, x1, x2, x3]) (by rw [c16_of ⟨(hr x3 (by simp)).1, by have := (hr x3 (by simp)).2; omega⟩]; rfl)
    refine W.callI ok (rest := [(.ref a144)]) (cl' := (true, [])) (pc' := 138) rfl (w11 hw) (w12 hw) (w10 hw) (w13 hw) (by decide) pd_5 rfl (k_initC l Z a0 hE a144 a152 [x0, x1, x2, x3] h172 (((((X149.ext E156).wr Wr164).wr Wr167).wr Wr170).wr Wr173) ((((((D150 (Or.inr (w23 hw)) (ty := (.array .byte)) (by decide)).ext E156).other Wr164 (Or.inl nab161)).other Wr167 (Or.inl nab161)).other Wr170 (Or.inl nab161)).other Wr173 (Or.inl nab161)) ((((((D150 (Or.inr (w24 hw)) (ty := .byte) (by decide)).ext E156).other Wr164 (Or.inl nab161)).other Wr167 (Or.inl nab161)).other Wr170 (Or.inl nab161)).other Wr173 (Or.inl nab161)) A174 (by simp) (fun c hc => (hr c (List.mem_of_mem_take (i := 4) hc)).2)) (fun w q => by simp only [List.mem_cons, List.not_mem_nil, or_false] at q; subst q; exact ⟨(List.mem_cons_of_mem _ (List.mem_cons_self ..)), (Or.inr z146)⟩) (fun q => ⟨q, fun w q => by simp only [List.mem_cons, List.not_mem_nil, or_false] at q; subst q; exact z146⟩) rfl rfl (Nat.le_of_ble_eq_true rfl) (Nat.le_of_ble_eq_true rfl) (Nat.le_of_ble_eq_true rfl) (Nat.le_of_ble_eq_true rfl) d_method_4_135 rfl rfl (fun v h183 hq K184 => ?_)
    obtain ⟨rfl, t175, cd176, bs177, q178, q179, q180, q181, q182⟩ := hq
    show W B h183 6 21 (a152 :: a144 :: M) (true, []) 138 #[.val (.ref ch), .val (.int ((4 : Nat).toInt32))] [(.ref a144)]
    have E185 := ExtK (ExtW (ExtW (ExtW (ExtW (ExtT E148 E156) Wr164 (by omega)) Wr167 (by omega)) Wr170 (by omega)) Wr173 (by omega)) K184 (by simp; omega)
    have S1 : StrM Z h183 M a144 [x0, x1, x2, x3] := ⟨t175, cd176, bs177, fun z => absurd (hM143 _ z) (by omega), fun z => q178 (List.mem_cons_of_mem _ (List.mem_cons_of_mem _ z)), ((((((X149.ext E156).wr Wr164).wr Wr167).wr Wr170).wr Wr173).keep K184), q179, q180, q181, q182⟩
    refine W.drop (M' := M) (fun x z => (List.mem_cons_of_mem _ (List.mem_cons_of_mem _ z))) ?_
    exact W.retA ok d_method_4_138 rfl rfl (Nat.le_of_ble_eq_true rfl) (Nat.le_of_ble_eq_true rfl) (fun x (q : x ∈ M) => q) (fun kp => ⟨a144, rfl, Nat.le_of_eq ea147, S1⟩)
  · refine W.iloadN ok (pc' := 1) d_method_4_0 rfl rfl ?_
    refine W.ifne ok (pcY := 15) (pcN := 4) d_method_4_1 rfl (by decide) rfl (fun q => absurd q (by decide)) (fun _ => ?_)
    refine W.iloadN ok (pc' := 16) d_method_4_15 rfl rfl ?_
    refine W.iconst ok (pc' := 17) (1 : Int32) d_method_4_16 rfl rfl ?_
    refine W.icmpne ok (pcY := 37) (pcN := 20) d_method_4_17 rfl (by decide) rfl (fun q => absurd q (by decide)) (fun _ => ?_)
    refine W.iloadN ok (pc' := 38) d_method_4_37 rfl rfl ?_
    refine W.iconst ok (pc' := 39) (2 : Int32) d_method_4_38 rfl rfl ?_
    refine W.icmpne ok (pcY := 65) (pcN := 42) d_method_4_39 rfl (by decide) rfl (fun q => absurd q (by decide)) (fun _ => ?_)
    refine W.iloadN ok (pc' := 66) d_method_4_65 rfl rfl ?_
    refine W.iconst ok (pc' := 67) (3 : Int32) d_method_4_66 rfl rfl ?_
    refine W.icmpne ok (pcY := 99) (pcN := 70) d_method_4_67 rfl (by decide) rfl (fun q => absurd q (by decide)) (fun _ => ?_)
    refine W.iloadN ok (pc' := 100) d_method_4_99 rfl rfl ?_
    refine W.iconst ok (pc' := 101) (4 : Int32) d_method_4_100 rfl rfl ?_
    refine W.icmpne ok (pcY := 139) (pcN := 104) d_method_4_101 rfl (by decide) rfl (fun q => absurd q (by decide)) (fun _ => ?_)
    refine W.iloadN ok (pc' := 140) d_method_4_139 rfl rfl ?_
    refine W.iconst ok (pc' := 141) (5 : Int32) d_method_4_140 rfl rfl ?_
    refine W.icmpne ok (pcY := 185) (pcN := 144) d_method_4_141 rfl (by decide) rfl (fun _ => ?_) (fun q => absurd (by decide) q)
    refine W.lt fun hM186 => ?_
    refine W.new ok (pc' := 147) (w8 hw) (w9 hw) (w10 hw) d_method_4_144 rfl (Nat.le_of_ble_eq_true rfl) (Nat.le_of_ble_eq_true rfl) (fun a187 h188 z189 ea190 E191 X192 D193 U194 => ?_)
    refine W.dup ok (pc' := 148) d_method_4_147 rfl rfl ?_
    refine W.iconst ok (pc' := 149) (5 : Int32) d_method_4_148 rfl rfl ?_
    refine W.newC ok (pc' := 151) (cap := 5) (w0 hw) (by decide) (by decide) (by decide) d_method_4_149 rfl (Nat.le_of_ble_eq_true rfl) (Nat.le_of_ble_eq_true rfl) (fun a195 h196 z197 ea198 E199 A200 => ?_)
    replace A200 := A200.cast (cs' := [0, 0, 0, 0, 0]) rfl
    have l201 := gtE X192
    have l202 := E191.1
    have l203 := E199.1
    have nab204 : a187 ≠ a195 := ane (by omega)
    have nch205 : ch ≠ a195 := ane (by omega)
    refine W.dup ok (pc' := 152) d_method_4_151 rfl rfl ?_
    refine W.iconst ok (pc' := 153) (0 : Int32) d_method_4_152 rfl rfl ?_
    refine W.aloadN ok (pc' := 154) d_method_4_153 rfl rfl rfl ?_
    refine W.iconst ok (pc' := 155) (0 : Int32) d_method_4_154 rfl rfl ?_
    refine W.caload ok (pc' := 156) ((A.ext E191).ext E199) x0 (by decide) rfl d_method_4_155 rfl ?_
    refine W.castore ok (pc' := 157) (cl' := (true, [])) A200 (by decide) (Nat.le_of_ble_eq_true rfl) (List.mem_cons_self ..) (Or.inr z197) (fun q => ⟨q, z197⟩) rfl d_method_4_156 rfl (fun h206 Wr207 A208 => ?_)
    replace A208 := A208.cast (cs' := [x0, 0, 0, 0, 0]) (by rw [c16_of ⟨(hr x0 (by simp)).1, by have := (hr x0 (by simp)).2; omega⟩]; rfl)
    refine W.dup ok (pc' := 158) d_method_4_157 rfl rfl ?_
    refine W.iconst ok (pc' := 159) (1 : Int32) d_method_4_158 rfl rfl ?_
    refine W.aloadN ok (pc' := 160) d_method_4_159 rfl rfl rfl ?_
    refine W.iconst ok (pc' := 161) (1 : Int32) d_method_4_160 rfl rfl ?_
    refine W.caload ok (pc' := 162) (((A.ext E191).ext E199).other Wr207 nch205) x1 (by decide) rfl d_method_4_161 rfl ?_
    refine W.castore ok (pc' := 163) (cl' := (true, [])) A208 (by decide) (Nat.le_of_ble_eq_true rfl) (List.mem_cons_self ..) (Or.inr z197) (fun q => ⟨q, z197⟩) rfl d_method_4_162 rfl (fun h209 Wr210 A211 => ?_)
    replace A211 := A211.cast (cs' := [x0, x1, 0, 0, 0]) (by rw [c16_of ⟨(hr x1 (by simp)).1, by have := (hr x1 (by simp)).2; omega⟩]; rfl)
    refine W.dup ok (pc' := 164) d_method_4_163 rfl rfl ?_
    refine W.iconst ok (pc' := 165) (2 : Int32) d_method_4_164 rfl rfl ?_
    refine W.aloadN ok (pc' := 166) d_method_4_165 rfl rfl rfl ?_
    refine W.iconst ok (pc' := 167) (2 : Int32) d_method_4_166 rfl rfl ?_
    refine W.caload ok (pc' := 168) ((((A.ext E191).ext E199).other Wr207 nch205).other Wr210 nch205) x2 (by decide) rfl d_method_4_167 rfl ?_
    refine W.castore ok (pc' := 169) (cl' := (true, [])) A211 (by decide) (Nat.le_of_ble_eq_true rfl) (List.mem_cons_self ..) (Or.inr z197) (fun q => ⟨q, z197⟩) rfl d_method_4_168 rfl (fun h212 Wr213 A214 => ?_)
    replace A214 := A214.cast (cs' := [x0, x1, x2, 0, 0]) (by rw [c16_of ⟨(hr x2 (by simp)).1, by have := (hr x2 (by simp)).2; omega⟩]; rfl)
    refine W.dup ok (pc' := 170) d_method_4_169 rfl rfl ?_
    refine W.iconst ok (pc' := 171) (3 : Int32) d_method_4_170 rfl rfl ?_
    refine W.aloadN ok (pc' := 172) d_method_4_171 rfl rfl rfl ?_
    refine W.iconst ok (pc' := 173) (3 : Int32) d_method_4_172 rfl rfl ?_
    refine W.caload ok (pc' := 174) (((((A.ext E191).ext E199).other Wr207 nch205).other Wr210 nch205).other Wr213 nch205) x3 (by decide) rfl d_method_4_173 rfl ?_
    refine W.castore ok (pc' := 175) (cl' := (true, [])) A214 (by decide) (Nat.le_of_ble_eq_true rfl) (List.mem_cons_self ..) (Or.inr z197) (fun q => ⟨q, z197⟩) rfl d_method_4_174 rfl (fun h215 Wr216 A217 => ?_)
    replace A217 := A217.cast (cs' := [x0, x1, x2, x3, 0]) (by rw [c16_of ⟨(hr x3 (by simp)).1, by have := (hr x3 (by simp)).2; omega⟩]; rfl)
    refine W.dup ok (pc' := 176) d_method_4_175 rfl rfl ?_
    refine W.iconst ok (pc' := 177) (4 : Int32) d_method_4_176 rfl rfl ?_
    refine W.aloadN ok (pc' := 178) d_method_4_177 rfl rfl rfl ?_
    refine W.iconst ok (pc' := 179) (4 : Int32) d_method_4_178 rfl rfl ?_
    refine W.caload ok (pc' := 180) ((((((A.ext E191).ext E199).other Wr207 nch205).other Wr210 nch205).other Wr213 nch205).other Wr216 nch205) x4 (by decide) rfl d_method_4_179 rfl ?_
    refine W.castore ok (pc' := 181) (cl' := (true, [])) A217 (by decide) (Nat.le_of_ble_eq_true rfl) (List.mem_cons_self ..) (Or.inr z197) (fun q => ⟨q, z197⟩) rfl d_method_4_180 rfl (fun h218 Wr219 A220 => ?_)
    replace A220 := A220.cast (cs' := [x0, x1, x2, x3, x4]) (by rw [c16_of ⟨(hr x4 (by simp)).1, by have := (hr x4 (by simp)).2; omega⟩]; rfl)
    refine W.callI ok (rest := [(.ref a187)]) (cl' := (true, [])) (pc' := 184) rfl (w11 hw) (w12 hw) (w10 hw) (w13 hw) (by decide) pd_5 rfl (k_initC l Z a0 hE a187 a195 [x0, x1, x2, x3, x4] h218 ((((((X192.ext E199).wr Wr207).wr Wr210).wr Wr213).wr Wr216).wr Wr219) (((((((D193 (Or.inr (w23 hw)) (ty := (.array .byte)) (by decide)).ext E199).other Wr207 (Or.inl nab204)).other Wr210 (Or.inl nab204)).other Wr213 (Or.inl nab204)).other Wr216 (Or.inl nab204)).other Wr219 (Or.inl nab204)) (((((((D193 (Or.inr (w24 hw)) (ty := .byte) (by decide)).ext E199).other Wr207 (Or.inl nab204)).other Wr210 (Or.inl nab204)).other Wr213 (Or.inl nab204)).other Wr216 (Or.inl nab204)).other Wr219 (Or.inl nab204)) A220 (by simp) (fun c hc => (hr c (List.mem_of_mem_take (i := 5) hc)).2)) (fun w q => by simp only [List.mem_cons, List.not_mem_nil, or_false] at q; subst q; exact ⟨(List.mem_cons_of_mem _ (List.mem_cons_self ..)), (Or.inr z189)⟩) (fun q => ⟨q, fun w q => by simp only [List.mem_cons, List.not_mem_nil, or_false] at q; subst q; exact z189⟩) rfl rfl (Nat.le_of_ble_eq_true rfl) (Nat.le_of_ble_eq_true rfl) (Nat.le_of_ble_eq_true rfl) (Nat.le_of_ble_eq_true rfl) d_method_4_181 rfl rfl (fun v h229 hq K230 => ?_)
    obtain ⟨rfl, t221, cd222, bs223, q224, q225, q226, q227, q228⟩ := hq
    show W B h229 6 22 (a195 :: a187 :: M) (true, []) 184 #[.val (.ref ch), .val (.int ((5 : Nat).toInt32))] [(.ref a187)]
    have E231 := ExtK (ExtW (ExtW (ExtW (ExtW (ExtW (ExtT E191 E199) Wr207 (by omega)) Wr210 (by omega)) Wr213 (by omega)) Wr216 (by omega)) Wr219 (by omega)) K230 (by simp; omega)
    have S1 : StrM Z h229 M a187 [x0, x1, x2, x3, x4] := ⟨t221, cd222, bs223, fun z => absurd (hM186 _ z) (by omega), fun z => q224 (List.mem_cons_of_mem _ (List.mem_cons_of_mem _ z)), (((((((X192.ext E199).wr Wr207).wr Wr210).wr Wr213).wr Wr216).wr Wr219).keep K230), q225, q226, q227, q228⟩
    refine W.drop (M' := M) (fun x z => (List.mem_cons_of_mem _ (List.mem_cons_of_mem _ z))) ?_
    exact W.retA ok d_method_4_184 rfl rfl (Nat.le_of_ble_eq_true rfl) (Nat.le_of_ble_eq_true rfl) (fun x (q : x ∈ M) => q) (fun kp => ⟨a187, rfl, Nat.le_of_eq ea190, S1⟩)
  · refine W.iloadN ok (pc' := 1) d_method_4_0 rfl rfl ?_
    refine W.ifne ok (pcY := 15) (pcN := 4) d_method_4_1 rfl (by decide) rfl (fun q => absurd q (by decide)) (fun _ => ?_)
    refine W.iloadN ok (pc' := 16) d_method_4_15 rfl rfl ?_
    refine W.iconst ok (pc' := 17) (1 : Int32) d_method_4_16 rfl rfl ?_
    refine W.icmpne ok (pcY := 37) (pcN := 20) d_method_4_17 rfl (by decide) rfl (fun q => absurd q (by decide)) (fun _ => ?_)
    refine W.iloadN ok (pc' := 38) d_method_4_37 rfl rfl ?_
    refine W.iconst ok (pc' := 39) (2 : Int32) d_method_4_38 rfl rfl ?_
    refine W.icmpne ok (pcY := 65) (pcN := 42) d_method_4_39 rfl (by decide) rfl (fun q => absurd q (by decide)) (fun _ => ?_)
    refine W.iloadN ok (pc' := 66) d_method_4_65 rfl rfl ?_
    refine W.iconst ok (pc' := 67) (3 : Int32) d_method_4_66 rfl rfl ?_
    refine W.icmpne ok (pcY := 99) (pcN := 70) d_method_4_67 rfl (by decide) rfl (fun q => absurd q (by decide)) (fun _ => ?_)
    refine W.iloadN ok (pc' := 100) d_method_4_99 rfl rfl ?_
    refine W.iconst ok (pc' := 101) (4 : Int32) d_method_4_100 rfl rfl ?_
    refine W.icmpne ok (pcY := 139) (pcN := 104) d_method_4_101 rfl (by decide) rfl (fun q => absurd q (by decide)) (fun _ => ?_)
    refine W.iloadN ok (pc' := 140) d_method_4_139 rfl rfl ?_
    refine W.iconst ok (pc' := 141) (5 : Int32) d_method_4_140 rfl rfl ?_
    refine W.icmpne ok (pcY := 185) (pcN := 144) d_method_4_141 rfl (by decide) rfl (fun q => absurd q (by decide)) (fun _ => ?_)
    refine W.iloadN ok (pc' := 186) d_method_4_185 rfl rfl ?_
    refine W.bipush ok (pc' := 188) (6 : Int32) d_method_4_186 rfl rfl ?_
    refine W.icmpne ok (pcY := 239) (pcN := 191) d_method_4_188 rfl (by decide) rfl (fun _ => ?_) (fun q => absurd (by decide) q)
    refine W.lt fun hM232 => ?_
    refine W.new ok (pc' := 194) (w8 hw) (w9 hw) (w10 hw) d_method_4_191 rfl (Nat.le_of_ble_eq_true rfl) (Nat.le_of_ble_eq_true rfl) (fun a233 h234 z235 ea236 E237 X238 D239 U240 => ?_)
    refine W.dup ok (pc' := 195) d_method_4_194 rfl rfl ?_
    refine W.bipush ok (pc' := 197) (6 : Int32) d_method_4_195 rfl rfl ?_
    refine W.newC ok (pc' := 199) (cap := 6) (w0 hw) (by decide) (by decide) (by decide) d_method_4_197 rfl (Nat.le_of_ble_eq_true rfl) (Nat.le_of_ble_eq_true rfl) (fun a241 h242 z243 ea244 E245 A246 => ?_)
    replace A246 := A246.cast (cs' := [0, 0, 0, 0, 0, 0]) rfl
    have l247 := gtE X238
    have l248 := E237.1
    have l249 := E245.1
    have nab250 : a233 ≠ a241 := ane (by omega)
    have nch251 : ch ≠ a241 := ane (by omega)
    refine W.dup ok (pc' := 200) d_method_4_199 rfl rfl ?_
    refine W.iconst ok (pc' := 201) (0 : Int32) d_method_4_200 rfl rfl ?_
    refine W.aloadN ok (pc' := 202) d_method_4_201 rfl rfl rfl ?_
    refine W.iconst ok (pc' := 203) (0 : Int32) d_method_4_202 rfl rfl ?_
    refine W.caload ok (pc' := 204) ((A.ext E237).ext E245) x0 (by decide) rfl d_method_4_203 rfl ?_
    refine W.castore ok (pc' := 205) (cl' := (true, [])) A246 (by decide) (Nat.le_of_ble_eq_true rfl) (List.mem_cons_self ..) (Or.inr z243) (fun q => ⟨q, z243⟩) rfl d_method_4_204 rfl (fun h252 Wr253 A254 => ?_)
    replace A254 := A254.cast (cs' := [x0, 0, 0, 0, 0, 0]) (by rw [c16_of ⟨(hr x0 (by simp)).1, by have := (hr x0 (by simp)).2; omega⟩]; rfl)
    refine W.dup ok (pc' := 206) d_method_4_205 rfl rfl ?_
    refine W.iconst ok (pc' := 207) (1 : Int32) d_method_4_206 rfl rfl ?_
    refine W.aloadN ok (pc' := 208) d_method_4_207 rfl rfl rfl ?_
    refine W.iconst ok (pc' := 209) (1 : Int32) d_method_4_208 rfl rfl ?_
    refine W.caload ok (pc' := 210) (((A.ext E237).ext E245).other Wr253 nch251) x1 (by decide) rfl d_method_4_209 rfl ?_
    refine W.castore ok (pc' := 211) (cl' := (true, [])) A254 (by decide) (Nat.le_of_ble_eq_true rfl) (List.mem_cons_self ..) (Or.inr z243) (fun q => ⟨q, z243⟩) rfl d_method_4_210 rfl (fun h255 Wr256 A257 => ?_)
    replace A257 := A257.cast (cs' := [x0, x1, 0, 0, 0, 0]) (by rw [c16_of ⟨(hr x1 (by simp)).1, by have := (hr x1 (by simp)).2; omega⟩]; rfl)
    refine W.dup ok (pc' := 212) d_method_4_211 rfl rfl ?_
    refine W.iconst ok (pc' := 213) (2 : Int32) d_method_4_212 rfl rfl ?_
    refine W.aloadN ok (pc' := 214) d_method_4_213 rfl rfl rfl ?_
    refine W.iconst ok (pc' := 215) (2 : Int32) d_method_4_214 rfl rfl ?_
    refine W.caload ok (pc' := 216) ((((A.ext E237).ext E245).other Wr253 nch251).other Wr256 nch251) x2 (by decide) rfl d_method_4_215 rfl ?_
    refine W.castore ok (pc' := 217) (cl' := (true, [])) A257 (by decide) (Nat.le_of_ble_eq_true rfl) (List.mem_cons_self ..) (Or.inr z243) (fun q => ⟨q, z243⟩) rfl d_method_4_216 rfl (fun h258 Wr259 A260 => ?_)
    replace A260 := A260.cast (cs' := [x0, x1, x2, 0, 0, 0]) (by rw [c16_of ⟨(hr x2 (by simp)).1, by have := (hr x2 (by simp)).2; omega⟩]; rfl)
    refine W.dup ok (pc' := 218) d_method_4_217 rfl rfl ?_
    refine W.iconst ok (pc' := 219) (3 : Int32) d_method_4_218 rfl rfl ?_
    refine W.aloadN ok (pc' := 220) d_method_4_219 rfl rfl rfl ?_
    refine W.iconst ok (pc' := 221) (3 : Int32) d_method_4_220 rfl rfl ?_
    refine W.caload ok (pc' := 222) (((((A.ext E237).ext E245).other Wr253 nch251).other Wr256 nch251).other Wr259 nch251) x3 (by decide) rfl d_method_4_221 rfl ?_
    refine W.castore ok (pc' := 223) (cl' := (true, [])) A260 (by decide) (Nat.le_of_ble_eq_true rfl) (List.mem_cons_self ..) (Or.inr z243) (fun q => ⟨q, z243⟩) rfl d_method_4_222 rfl (fun h261 Wr262 A263 => ?_)
    replace A263 := A263.cast (cs' := [x0, x1, x2, x3, 0, 0]) (by rw [c16_of ⟨(hr x3 (by simp)).1, by have := (hr x3 (by simp)).2; omega⟩]; rfl)
    refine W.dup ok (pc' := 224) d_method_4_223 rfl rfl ?_
    refine W.iconst ok (pc' := 225) (4 : Int32) d_method_4_224 rfl rfl ?_
    refine W.aloadN ok (pc' := 226) d_method_4_225 rfl rfl rfl ?_
    refine W.iconst ok (pc' := 227) (4 : Int32) d_method_4_226 rfl rfl ?_
    refine W.caload ok (pc' := 228) ((((((A.ext E237).ext E245).other Wr253 nch251).other Wr256 nch251).other Wr259 nch251).other Wr262 nch251) x4 (by decide) rfl d_method_4_227 rfl ?_
    refine W.castore ok (pc' := 229) (cl' := (true, [])) A263 (by decide) (Nat.le_of_ble_eq_true rfl) (List.mem_cons_self ..) (Or.inr z243) (fun q => ⟨q, z243⟩) rfl d_method_4_228 rfl (fun h264 Wr265 A266 => ?_)
    replace A266 := A266.cast (cs' := [x0, x1, x2, x3, x4, 0]) (by rw [c16_of ⟨(hr x4 (by simp)).1, by have := (hr x4 (by simp)).2; omega⟩]; rfl)
    refine W.dup ok (pc' := 230) d_method_4_229 rfl rfl ?_
    refine W.iconst ok (pc' := 231) (5 : Int32) d_method_4_230 rfl rfl ?_
    refine W.aloadN ok (pc' := 232) d_method_4_231 rfl rfl rfl ?_
    refine W.iconst ok (pc' := 233) (5 : Int32) d_method_4_232 rfl rfl ?_
    refine W.caload ok (pc' := 234) (((((((A.ext E237).ext E245).other Wr253 nch251).other Wr256 nch251).other Wr259 nch251).other Wr262 nch251).other Wr265 nch251) x5 (by decide) rfl d_method_4_233 rfl ?_
    refine W.castore ok (pc' := 235) (cl' := (true, [])) A266 (by decide) (Nat.le_of_ble_eq_true rfl) (List.mem_cons_self ..) (Or.inr z243) (fun q => ⟨q, z243⟩) rfl d_method_4_234 rfl (fun h267 Wr268 A269 => ?_)
    replace A269 := A269.cast (cs' := [x0, x1, x2, x3, x4, x5]) (by rw [c16_of ⟨(hr x5 (by simp)).1, by have := (hr x5 (by simp)).2; omega⟩]; rfl)
    refine W.callI ok (rest := [(.ref a233)]) (cl' := (true, [])) (pc' := 238) rfl (w11 hw) (w12 hw) (w10 hw) (w13 hw) (by decide) pd_5 rfl (k_initC l Z a0 hE a233 a241 [x0, x1, x2, x3, x4, x5] h267 (((((((X238.ext E245).wr Wr253).wr Wr256).wr Wr259).wr Wr262).wr Wr265).wr Wr268) ((((((((D239 (Or.inr (w23 hw)) (ty := (.array .byte)) (by decide)).ext E245).other Wr253 (Or.inl nab250)).other Wr256 (Or.inl nab250)).other Wr259 (Or.inl nab250)).other Wr262 (Or.inl nab250)).other Wr265 (Or.inl nab250)).other Wr268 (Or.inl nab250)) ((((((((D239 (Or.inr (w24 hw)) (ty := .byte) (by decide)).ext E245).other Wr253 (Or.inl nab250)).other Wr256 (Or.inl nab250)).other Wr259 (Or.inl nab250)).other Wr262 (Or.inl nab250)).other Wr265 (Or.inl nab250)).other Wr268 (Or.inl nab250)) A269 (by simp) (fun c hc => (hr c (List.mem_of_mem_take (i := 6) hc)).2)) (fun w q => by simp only [List.mem_cons, List.not_mem_nil, or_false] at q; subst q; exact ⟨(List.mem_cons_of_mem _ (List.mem_cons_self ..)), (Or.inr z235)⟩) (fun q => ⟨q, fun w q => by simp only [List.mem_cons, List.not_mem_nil, or_false] at q; subst q; exact z235⟩) rfl rfl (Nat.le_of_ble_eq_true rfl) (Nat.le_of_ble_eq_true rfl) (Nat.le_of_ble_eq_true rfl) (Nat.le_of_ble_eq_true rfl) d_method_4_235 rfl rfl (fun v h278 hq K279 => ?_)
    obtain ⟨rfl, t270, cd271, bs272, q273, q274, q275, q276, q277⟩ := hq
    show W B h278 6 23 (a241 :: a233 :: M) (true, []) 238 #[.val (.ref ch), .val (.int ((6 : Nat).toInt32))] [(.ref a233)]
    have E280 := ExtK (ExtW (ExtW (ExtW (ExtW (ExtW (ExtW (ExtT E237 E245) Wr253 (by omega)) Wr256 (by omega)) Wr259 (by omega)) Wr262 (by omega)) Wr265 (by omega)) Wr268 (by omega)) K279 (by simp; omega)
    have S1 : StrM Z h278 M a233 [x0, x1, x2, x3, x4, x5] := ⟨t270, cd271, bs272, fun z => absurd (hM232 _ z) (by omega), fun z => q273 (List.mem_cons_of_mem _ (List.mem_cons_of_mem _ z)), ((((((((X238.ext E245).wr Wr253).wr Wr256).wr Wr259).wr Wr262).wr Wr265).wr Wr268).keep K279), q274, q275, q276, q277⟩
    refine W.drop (M' := M) (fun x z => (List.mem_cons_of_mem _ (List.mem_cons_of_mem _ z))) ?_
    exact W.retA ok d_method_4_238 rfl rfl (Nat.le_of_ble_eq_true rfl) (Nat.le_of_ble_eq_true rfl) (fun x (q : x ∈ M) => q) (fun kp => ⟨a233, rfl, Nat.le_of_eq ea236, S1⟩)
  · refine W.iloadN ok (pc' := 1) d_method_4_0 rfl rfl ?_
    refine W.ifne ok (pcY := 15) (pcN := 4) d_method_4_1 rfl (by decide) rfl (fun q => absurd q (by decide)) (fun _ => ?_)
    refine W.iloadN ok (pc' := 16) d_method_4_15 rfl rfl ?_
    refine W.iconst ok (pc' := 17) (1 : Int32) d_method_4_16 rfl rfl ?_
    refine W.icmpne ok (pcY := 37) (pcN := 20) d_method_4_17 rfl (by decide) rfl (fun q => absurd q (by decide)) (fun _ => ?_)
    refine W.iloadN ok (pc' := 38) d_method_4_37 rfl rfl ?_
    refine W.iconst ok (pc' := 39) (2 : Int32) d_method_4_38 rfl rfl ?_
    refine W.icmpne ok (pcY := 65) (pcN := 42) d_method_4_39 rfl (by decide) rfl (fun q => absurd q (by decide)) (fun _ => ?_)
    refine W.iloadN ok (pc' := 66) d_method_4_65 rfl rfl ?_
    refine W.iconst ok (pc' := 67) (3 : Int32) d_method_4_66 rfl rfl ?_
    refine W.icmpne ok (pcY := 99) (pcN := 70) d_method_4_67 rfl (by decide) rfl (fun q => absurd q (by decide)) (fun _ => ?_)
    refine W.iloadN ok (pc' := 100) d_method_4_99 rfl rfl ?_
    refine W.iconst ok (pc' := 101) (4 : Int32) d_method_4_100 rfl rfl ?_
    refine W.icmpne ok (pcY := 139) (pcN := 104) d_method_4_101 rfl (by decide) rfl (fun q => absurd q (by decide)) (fun _ => ?_)
    refine W.iloadN ok (pc' := 140) d_method_4_139 rfl rfl ?_
    refine W.iconst ok (pc' := 141) (5 : Int32) d_method_4_140 rfl rfl ?_
    refine W.icmpne ok (pcY := 185) (pcN := 144) d_method_4_141 rfl (by decide) rfl (fun q => absurd q (by decide)) (fun _ => ?_)
    refine W.iloadN ok (pc' := 186) d_method_4_185 rfl rfl ?_
    refine W.bipush ok (pc' := 188) (6 : Int32) d_method_4_186 rfl rfl ?_
    refine W.icmpne ok (pcY := 239) (pcN := 191) d_method_4_188 rfl (by decide) rfl (fun q => absurd q (by decide)) (fun _ => ?_)
    refine W.iloadN ok (pc' := 240) d_method_4_239 rfl rfl ?_
    refine W.bipush ok (pc' := 242) (7 : Int32) d_method_4_240 rfl rfl ?_
    refine W.icmpne ok (pcY := 301) (pcN := 245) d_method_4_242 rfl (by decide) rfl (fun _ => ?_) (fun q => absurd (by decide) q)
    refine W.lt fun hM281 => ?_
    refine W.new ok (pc' := 248) (w8 hw) (w9 hw) (w10 hw) d_method_4_245 rfl (Nat.le_of_ble_eq_true rfl) (Nat.le_of_ble_eq_true rfl) (fun a282 h283 z284 ea285 E286 X287 D288 U289 => ?_)
    refine W.dup ok (pc' := 249) d_method_4_248 rfl rfl ?_
    refine W.bipush ok (pc' := 251) (7 : Int32) d_method_4_249 rfl rfl ?_
    refine W.newC ok (pc' := 253) (cap := 7) (w0 hw) (by decide) (by decide) (by decide) d_method_4_251 rfl (Nat.le_of_ble_eq_true rfl) (Nat.le_of_ble_eq_true rfl) (fun a290 h291 z292 ea293 E294 A295 => ?_)
    replace A295 := A295.cast (cs' := [0, 0, 0, 0, 0, 0, 0]) rfl
    have l296 := gtE X287
    have l297 := E286.1
    have l298 := E294.1
    have nab299 : a282 ≠ a290 := ane (by omega)
    have nch300 : ch ≠ a290 := ane (by omega)
    refine W.dup ok (pc' := 254) d_method_4_253 rfl rfl ?_
    refine W.iconst ok (pc' := 255) (0 : Int32) d_method_4_254 rfl rfl ?_
    refine W.aloadN ok (pc' := 256) d_method_4_255 rfl rfl rfl ?_
    refine W.iconst ok (pc' := 257) (0 : Int32) d_method_4_256 rfl rfl ?_
    refine W.caload ok (pc' := 258) ((A.ext E286).ext E294) x0 (by decide) rfl d_method_4_257 rfl ?_
    refine W.castore ok (pc' := 259) (cl' := (true, [])) A295 (by decide) (Nat.le_of_ble_eq_true rfl) (List.mem_cons_self ..) (Or.inr z292) (fun q => ⟨q, z292⟩) rfl d_method_4_258 rfl (fun h301 Wr302 A303 => ?_)
    replace A303 := A303.cast (cs' := [x0, 0, 0, 0, 0, 0, 0]) (by rw [c16_of ⟨(hr x0 (by simp)).1, by have := (hr x0 (by simp)).2; omega⟩]; rfl)
    refine W.dup ok (pc' := 260) d_method_4_259 rfl rfl ?_
    refine W.iconst ok (pc' := 261) (1 : Int32) d_method_4_260 rfl rfl ?_
    refine W.aloadN ok (pc' := 262) d_method_4_261 rfl rfl rfl ?_
    refine W.iconst ok (pc' := 263) (1 : Int32) d_method_4_262 rfl rfl ?_
    refine W.caload ok (pc' := 264) (((A.ext E286).ext E294).other Wr302 nch300) x1 (by decide) rfl d_method_4_263 rfl ?_
    refine W.castore ok (pc' := 265) (cl' := (true, [])) A303 (by decide) (Nat.le_of_ble_eq_true rfl) (List.mem_cons_self ..) (Or.inr z292) (fun q => ⟨q, z292⟩) rfl d_method_4_264 rfl (fun h304 Wr305 A306 => ?_)
    replace A306 := A306.cast (cs' := [x0, x1, 0, 0, 0, 0, 0]) (by rw [c16_of ⟨(hr x1 (by simp)).1, by have := (hr x1 (by simp)).2; omega⟩]; rfl)
    refine W.dup ok (pc' := 266) d_method_4_265 rfl rfl ?_
    refine W.iconst ok (pc' := 267) (2 : Int32) d_method_4_266 rfl rfl ?_
    refine W.aloadN ok (pc' := 268) d_method_4_267 rfl rfl rfl ?_
    refine W.iconst ok (pc' := 269) (2 : Int32) d_method_4_268 rfl rfl ?_
    refine W.caload ok (pc' := 270) ((((A.ext E286).ext E294).other Wr302 nch300).other Wr305 nch300) x2 (by decide) rfl d_method_4_269 rfl ?_
    refine W.castore ok (pc' := 271) (cl' := (true, [])) A306 (by decide) (Nat.le_of_ble_eq_true rfl) (List.mem_cons_self ..) (Or.inr z292) (fun q => ⟨q, z292⟩) rfl d_method_4_270 rfl (fun h307 Wr308 A309 => ?_)
    replace A309 := A309.cast (cs' := [x0, x1, x2, 0, 0, 0, 0]) (by rw [c16_of ⟨(hr x2 (by simp)).1, by have := (hr x2 (by simp)).2; omega⟩]; rfl)
    refine W.dup ok (pc' := 272) d_method_4_271 rfl rfl ?_
    refine W.iconst ok (pc' := 273) (3 : Int32) d_method_4_272 rfl rfl ?_
    refine W.aloadN ok (pc' := 274) d_method_4_273 rfl rfl rfl ?_
    refine W.iconst ok (pc' := 275) (3 : Int32) d_method_4_274 rfl rfl ?_
    refine W.caload ok (pc' := 276) (((((A.ext E286).ext E294).other Wr302 nch300).other Wr305 nch300).other Wr308 nch300) x3 (by decide) rfl d_method_4_275 rfl ?_
    refine W.castore ok (pc' := 277) (cl' := (true, [])) A309 (by decide) (Nat.le_of_ble_eq_true rfl) (List.mem_cons_self ..) (Or.inr z292) (fun q => ⟨q, z292⟩) rfl d_method_4_276 rfl (fun h310 Wr311 A312 => ?_)
    replace A312 := A312.cast (cs' := [x0, x1, x2, x3, 0, 0, 0]) (by rw [c16_of ⟨(hr x3 (by simp)).1, by have := (hr x3 (by simp)).2; omega⟩]; rfl)
    refine W.dup ok (pc' := 278) d_method_4_277 rfl rfl ?_
    refine W.iconst ok (pc' := 279) (4 : Int32) d_method_4_278 rfl rfl ?_
    refine W.aloadN ok (pc' := 280) d_method_4_279 rfl rfl rfl ?_
    refine W.iconst ok (pc' := 281) (4 : Int32) d_method_4_280 rfl rfl ?_
    refine W.caload ok (pc' := 282) ((((((A.ext E286).ext E294).other Wr302 nch300).other Wr305 nch300).other Wr308 nch300).other Wr311 nch300) x4 (by decide) rfl d_method_4_281 rfl ?_
    refine W.castore ok (pc' := 283) (cl' := (true, [])) A312 (by decide) (Nat.le_of_ble_eq_true rfl) (List.mem_cons_self ..) (Or.inr z292) (fun q => ⟨q, z292⟩) rfl d_method_4_282 rfl (fun h313 Wr314 A315 => ?_)
    replace A315 := A315.cast (cs' := [x0, x1, x2, x3, x4, 0, 0]) (by rw [c16_of ⟨(hr x4 (by simp)).1, by have := (hr x4 (by simp)).2; omega⟩]; rfl)
    refine W.dup ok (pc' := 284) d_method_4_283 rfl rfl ?_
    refine W.iconst ok (pc' := 285) (5 : Int32) d_method_4_284 rfl rfl ?_
    refine W.aloadN ok (pc' := 286) d_method_4_285 rfl rfl rfl ?_
    refine W.iconst ok (pc' := 287) (5 : Int32) d_method_4_286 rfl rfl ?_
    refine W.caload ok (pc' := 288) (((((((A.ext E286).ext E294).other Wr302 nch300).other Wr305 nch300).other Wr308 nch300).other Wr311 nch300).other Wr314 nch300) x5 (by decide) rfl d_method_4_287 rfl ?_
    refine W.castore ok (pc' := 289) (cl' := (true, [])) A315 (by decide) (Nat.le_of_ble_eq_true rfl) (List.mem_cons_self ..) (Or.inr z292) (fun q => ⟨q, z292⟩) rfl d_method_4_288 rfl (fun h316 Wr317 A318 => ?_)
    replace A318 := A318.cast (cs' := [x0, x1, x2, x3, x4, x5, 0]) (by rw [c16_of ⟨(hr x5 (by simp)).1, by have := (hr x5 (by simp)).2; omega⟩]; rfl)
    refine W.dup ok (pc' := 290) d_method_4_289 rfl rfl ?_
    refine W.bipush ok (pc' := 292) (6 : Int32) d_method_4_290 rfl rfl ?_
    refine W.aloadN ok (pc' := 293) d_method_4_292 rfl rfl rfl ?_
    refine W.bipush ok (pc' := 295) (6 : Int32) d_method_4_293 rfl rfl ?_
    refine W.caload ok (pc' := 296) ((((((((A.ext E286).ext E294).other Wr302 nch300).other Wr305 nch300).other Wr308 nch300).other Wr311 nch300).other Wr314 nch300).other Wr317 nch300) x6 (by decide) rfl d_method_4_295 rfl ?_
    refine W.castore ok (pc' := 297) (cl' := (true, [])) A318 (by decide) (Nat.le_of_ble_eq_true rfl) (List.mem_cons_self ..) (Or.inr z292) (fun q => ⟨q, z292⟩) rfl d_method_4_296 rfl (fun h319 Wr320 A321 => ?_)
    replace A321 := A321.cast (cs' := [x0, x1, x2, x3, x4, x5, x6]) (by rw [c16_of ⟨(hr x6 (by simp)).1, by have := (hr x6 (by simp)).2; omega⟩]; rfl)
    refine W.callI ok (rest := [(.ref a282)]) (cl' := (true, [])) (pc' := 300) rfl (w11 hw) (w12 hw) (w10 hw) (w13 hw) (by decide) pd_5 rfl (k_initC l Z a0 hE a282 a290 [x0, x1, x2, x3, x4, x5, x6] h319 ((((((((X287.ext E294).wr Wr302).wr Wr305).wr Wr308).wr Wr311).wr Wr314).wr Wr317).wr Wr320) (((((((((D288 (Or.inr (w23 hw)) (ty := (.array .byte)) (by decide)).ext E294).other Wr302 (Or.inl nab299)).other Wr305 (Or.inl nab299)).other Wr308 (Or.inl nab299)).other Wr311 (Or.inl nab299)).other Wr314 (Or.inl nab299)).other Wr317 (Or.inl nab299)).other Wr320 (Or.inl nab299)) (((((((((D288 (Or.inr (w24 hw)) (ty := .byte) (by decide)).ext E294).other Wr302 (Or.inl nab299)).other Wr305 (Or.inl nab299)).other Wr308 (Or.inl nab299)).other Wr311 (Or.inl nab299)).other Wr314 (Or.inl nab299)).other Wr317 (Or.inl nab299)).other Wr320 (Or.inl nab299)) A321 (by simp) (fun c hc => (hr c (List.mem_of_mem_take (i := 7) hc)).2)) (fun w q => by simp only [List.mem_cons, List.not_mem_nil, or_false] at q; subst q; exact ⟨(List.mem_cons_of_mem _ (List.mem_cons_self ..)), (Or.inr z284)⟩) (fun q => ⟨q, fun w q => by simp only [List.mem_cons, List.not_mem_nil, or_false] at q; subst q; exact z284⟩) rfl rfl (Nat.le_of_ble_eq_true rfl) (Nat.le_of_ble_eq_true rfl) (Nat.le_of_ble_eq_true rfl) (Nat.le_of_ble_eq_true rfl) d_method_4_297 rfl rfl (fun v h330 hq K331 => ?_)
    obtain ⟨rfl, t322, cd323, bs324, q325, q326, q327, q328, q329⟩ := hq
    show W B h330 6 24 (a290 :: a282 :: M) (true, []) 300 #[.val (.ref ch), .val (.int ((7 : Nat).toInt32))] [(.ref a282)]
    have E332 := ExtK (ExtW (ExtW (ExtW (ExtW (ExtW (ExtW (ExtW (ExtT E286 E294) Wr302 (by omega)) Wr305 (by omega)) Wr308 (by omega)) Wr311 (by omega)) Wr314 (by omega)) Wr317 (by omega)) Wr320 (by omega)) K331 (by simp; omega)
    have S1 : StrM Z h330 M a282 [x0, x1, x2, x3, x4, x5, x6] := ⟨t322, cd323, bs324, fun z => absurd (hM281 _ z) (by omega), fun z => q325 (List.mem_cons_of_mem _ (List.mem_cons_of_mem _ z)), (((((((((X287.ext E294).wr Wr302).wr Wr305).wr Wr308).wr Wr311).wr Wr314).wr Wr317).wr Wr320).keep K331), q326, q327, q328, q329⟩
    refine W.drop (M' := M) (fun x z => (List.mem_cons_of_mem _ (List.mem_cons_of_mem _ z))) ?_
    exact W.retA ok d_method_4_300 rfl rfl (Nat.le_of_ble_eq_true rfl) (Nat.le_of_ble_eq_true rfl) (fun x (q : x ∈ M) => q) (fun kp => ⟨a282, rfl, Nat.le_of_eq ea285, S1⟩)
  · refine W.iloadN ok (pc' := 1) d_method_4_0 rfl rfl ?_
    refine W.ifne ok (pcY := 15) (pcN := 4) d_method_4_1 rfl (by decide) rfl (fun q => absurd q (by decide)) (fun _ => ?_)
    refine W.iloadN ok (pc' := 16) d_method_4_15 rfl rfl ?_
    refine W.iconst ok (pc' := 17) (1 : Int32) d_method_4_16 rfl rfl ?_
    refine W.icmpne ok (pcY := 37) (pcN := 20) d_method_4_17 rfl (by decide) rfl (fun q => absurd q (by decide)) (fun _ => ?_)
    refine W.iloadN ok (pc' := 38) d_method_4_37 rfl rfl ?_
    refine W.iconst ok (pc' := 39) (2 : Int32) d_method_4_38 rfl rfl ?_
    refine W.icmpne ok (pcY := 65) (pcN := 42) d_method_4_39 rfl (by decide) rfl (fun q => absurd q (by decide)) (fun _ => ?_)
    refine W.iloadN ok (pc' := 66) d_method_4_65 rfl rfl ?_
    refine W.iconst ok (pc' := 67) (3 : Int32) d_method_4_66 rfl rfl ?_
    refine W.icmpne ok (pcY := 99) (pcN := 70) d_method_4_67 rfl (by decide) rfl (fun q => absurd q (by decide)) (fun _ => ?_)
    refine W.iloadN ok (pc' := 100) d_method_4_99 rfl rfl ?_
    refine W.iconst ok (pc' := 101) (4 : Int32) d_method_4_100 rfl rfl ?_
    refine W.icmpne ok (pcY := 139) (pcN := 104) d_method_4_101 rfl (by decide) rfl (fun q => absurd q (by decide)) (fun _ => ?_)
    refine W.iloadN ok (pc' := 140) d_method_4_139 rfl rfl ?_
    refine W.iconst ok (pc' := 141) (5 : Int32) d_method_4_140 rfl rfl ?_
    refine W.icmpne ok (pcY := 185) (pcN := 144) d_method_4_141 rfl (by decide) rfl (fun q => absurd q (by decide)) (fun _ => ?_)
    refine W.iloadN ok (pc' := 186) d_method_4_185 rfl rfl ?_
    refine W.bipush ok (pc' := 188) (6 : Int32) d_method_4_186 rfl rfl ?_
    refine W.icmpne ok (pcY := 239) (pcN := 191) d_method_4_188 rfl (by decide) rfl (fun q => absurd q (by decide)) (fun _ => ?_)
    refine W.iloadN ok (pc' := 240) d_method_4_239 rfl rfl ?_
    refine W.bipush ok (pc' := 242) (7 : Int32) d_method_4_240 rfl rfl ?_
    refine W.icmpne ok (pcY := 301) (pcN := 245) d_method_4_242 rfl (by decide) rfl (fun q => absurd q (by decide)) (fun _ => ?_)
    refine W.iloadN ok (pc' := 302) d_method_4_301 rfl rfl ?_
    refine W.bipush ok (pc' := 304) (8 : Int32) d_method_4_302 rfl rfl ?_
    refine W.icmpne ok (pcY := 371) (pcN := 307) d_method_4_304 rfl (by decide) rfl (fun _ => ?_) (fun q => absurd (by decide) q)
    refine W.lt fun hM333 => ?_
    refine W.new ok (pc' := 310) (w8 hw) (w9 hw) (w10 hw) d_method_4_307 rfl (Nat.le_of_ble_eq_true rfl) (Nat.le_of_ble_eq_true rfl) (fun a334 h335 z336 ea337 E338 X339 D340 U341 => ?_)
    refine W.dup ok (pc' := 311) d_method_4_310 rfl rfl ?_
    refine W.bipush ok (pc' := 313) (8 : Int32) d_method_4_311 rfl rfl ?_
    refine W.newC ok (pc' := 315) (cap := 8) (w0 hw) (by decide) (by decide) (by decide) d_method_4_313 rfl (Nat.le_of_ble_eq_true rfl) (Nat.le_of_ble_eq_true rfl) (fun a342 h343 z344 ea345 E346 A347 => ?_)
    replace A347 := A347.cast (cs' := [0, 0, 0, 0, 0, 0, 0, 0]) rfl
    have l348 := gtE X339
    have l349 := E338.1
    have l350 := E346.1
    have nab351 : a334 ≠ a342 := ane (by omega)
    have nch352 : ch ≠ a342 := ane (by omega)
    refine W.dup ok (pc' := 316) d_method_4_315 rfl rfl ?_
    refine W.iconst ok (pc' := 317) (0 : Int32) d_method_4_316 rfl rfl ?_
    refine W.aloadN ok (pc' := 318) d_method_4_317 rfl rfl rfl ?_
    refine W.iconst ok (pc' := 319) (0 : Int32) d_method_4_318 rfl rfl ?_
    refine W.caload ok (pc' := 320) ((A.ext E338).ext E346) x0 (by decide) rfl d_method_4_319 rfl ?_
    refine W.castore ok (pc' := 321) (cl' := (true, [])) A347 (by decide) (Nat.le_of_ble_eq_true rfl) (List.mem_cons_self ..) (Or.inr z344) (fun q => ⟨q, z344⟩) rfl d_method_4_320 rfl (fun h353 Wr354 A355 => ?_)
    replace A355 := A355.cast (cs' := [x0, 0, 0, 0, 0, 0, 0, 0]) (by rw [c16_of ⟨(hr x0 (by simp)).1, by have := (hr x0 (by simp)).2; omega⟩]; rfl)
    refine W.dup ok (pc' := 322) d_method_4_321 rfl rfl ?_
    refine W.iconst ok (pc' := 323) (1 : Int32) d_method_4_322 rfl rfl ?_
    refine W.aloadN ok (pc' := 324) d_method_4_323 rfl rfl rfl ?_
    refine W.iconst ok (pc' := 325) (1 : Int32) d_method_4_324 rfl rfl ?_
    refine W.caload ok (pc' := 326) (((A.ext E338).ext E346).other Wr354 nch352) x1 (by decide) rfl d_method_4_325 rfl ?_
    refine W.castore ok (pc' := 327) (cl' := (true, [])) A355 (by decide) (Nat.le_of_ble_eq_true rfl) (List.mem_cons_self ..) (Or.inr z344) (fun q => ⟨q, z344⟩) rfl d_method_4_326 rfl (fun h356 Wr357 A358 => ?_)
    replace A358 := A358.cast (cs' := [x0, x1, 0, 0, 0, 0, 0, 0]) (by rw [c16_of ⟨(hr x1 (by simp)).1, by have := (hr x1 (by simp)).2; omega⟩]; rfl)
    refine W.dup ok (pc' := 328) d_method_4_327 rfl rfl ?_
    refine W.iconst ok (pc' := 329) (2 : Int32) d_method_4_328 rfl rfl ?_
    refine W.aloadN ok (pc' := 330) d_method_4_329 rfl rfl rfl ?_
    refine W.iconst ok (pc' := 331) (2 : Int32) d_method_4_330 rfl rfl ?_
    refine W.caload ok (pc' := 332) ((((A.ext E338).ext E346).other Wr354 nch352).other Wr357 nch352) x2 (by decide) rfl d_method_4_331 rfl ?_
    refine W.castore ok (pc' := 333) (cl' := (true, [])) A358 (by decide) (Nat.le_of_ble_eq_true rfl) (List.mem_cons_self ..) (Or.inr z344) (fun q => ⟨q, z344⟩) rfl d_method_4_332 rfl (fun h359 Wr360 A361 => ?_)
    replace A361 := A361.cast (cs' := [x0, x1, x2, 0, 0, 0, 0, 0]) (by rw [c16_of ⟨(hr x2 (by simp)).1, by have := (hr x2 (by simp)).2; omega⟩]; rfl)
    refine W.dup ok (pc' := 334) d_method_4_333 rfl rfl ?_
    refine W.iconst ok (pc' := 335) (3 : Int32) d_method_4_334 rfl rfl ?_
    refine W.aloadN ok (pc' := 336) d_method_4_335 rfl rfl rfl ?_
    refine W.iconst ok (pc' := 337) (3 : Int32) d_method_4_336 rfl rfl ?_
    refine W.caload ok (pc' := 338) (((((A.ext E338).ext E346).other Wr354 nch352).other Wr357 nch352).other Wr360 nch352) x3 (by decide) rfl d_method_4_337 rfl ?_
    refine W.castore ok (pc' := 339) (cl' := (true, [])) A361 (by decide) (Nat.le_of_ble_eq_true rfl) (List.mem_cons_self ..) (Or.inr z344) (fun q => ⟨q, z344⟩) rfl d_method_4_338 rfl (fun h362 Wr363 A364 => ?_)
    replace A364 := A364.cast (cs' := [x0, x1, x2, x3, 0, 0, 0, 0]) (by rw [c16_of ⟨(hr x3 (by simp)).1, by have := (hr x3 (by simp)).2; omega⟩]; rfl)
    refine W.dup ok (pc' := 340) d_method_4_339 rfl rfl ?_
    refine W.iconst ok (pc' := 341) (4 : Int32) d_method_4_340 rfl rfl ?_
    refine W.aloadN ok (pc' := 342) d_method_4_341 rfl rfl rfl ?_
    refine W.iconst ok (pc' := 343) (4 : Int32) d_method_4_342 rfl rfl ?_
    refine W.caload ok (pc' := 344) ((((((A.ext E338).ext E346).other Wr354 nch352).other Wr357 nch352).other Wr360 nch352).other Wr363 nch352) x4 (by decide) rfl d_method_4_343 rfl ?_
    refine W.castore ok (pc' := 345) (cl' := (true, [])) A364 (by decide) (Nat.le_of_ble_eq_true rfl) (List.mem_cons_self ..) (Or.inr z344) (fun q => ⟨q, z344⟩) rfl d_method_4_344 rfl (fun h365 Wr366 A367 => ?_)
    replace A367 := A367.cast (cs' := [x0, x1, x2, x3, x4, 0, 0, 0]) (by rw [c16_of ⟨(hr x4 (by simp)).1, by have := (hr x4 (by simp)).2; omega⟩]; rfl)
    refine W.dup ok (pc' := 346) d_method_4_345 rfl rfl ?_
    refine W.iconst ok (pc' := 347) (5 : Int32) d_method_4_346 rfl rfl ?_
    refine W.aloadN ok (pc' := 348) d_method_4_347 rfl rfl rfl ?_
    refine W.iconst ok (pc' := 349) (5 : Int32) d_method_4_348 rfl rfl ?_
    refine W.caload ok (pc' := 350) (((((((A.ext E338).ext E346).other Wr354 nch352).other Wr357 nch352).other Wr360 nch352).other Wr363 nch352).other Wr366 nch352) x5 (by decide) rfl d_method_4_349 rfl ?_
    refine W.castore ok (pc' := 351) (cl' := (true, [])) A367 (by decide) (Nat.le_of_ble_eq_true rfl) (List.mem_cons_self ..) (Or.inr z344) (fun q => ⟨q, z344⟩) rfl d_method_4_350 rfl (fun h368 Wr369 A370 => ?_)
    replace A370 := A370.cast (cs' := [x0, x1, x2, x3, x4, x5, 0, 0]) (by rw [c16_of ⟨(hr x5 (by simp)).1, by have := (hr x5 (by simp)).2; omega⟩]; rfl)
    refine W.dup ok (pc' := 352) d_method_4_351 rfl rfl ?_
    refine W.bipush ok (pc' := 354) (6 : Int32) d_method_4_352 rfl rfl ?_
    refine W.aloadN ok (pc' := 355) d_method_4_354 rfl rfl rfl ?_
    refine W.bipush ok (pc' := 357) (6 : Int32) d_method_4_355 rfl rfl ?_
    refine W.caload ok (pc' := 358) ((((((((A.ext E338).ext E346).other Wr354 nch352).other Wr357 nch352).other Wr360 nch352).other Wr363 nch352).other Wr366 nch352).other Wr369 nch352) x6 (by decide) rfl d_method_4_357 rfl ?_
    refine W.castore ok (pc' := 359) (cl' := (true, [])) A370 (by decide) (Nat.le_of_ble_eq_true rfl) (List.mem_cons_self ..) (Or.inr z344) (fun q => ⟨q, z344⟩) rfl d_method_4_358 rfl (fun h371 Wr372 A373 => ?_)
    replace A373 := A373.cast (cs' := [x0, x1, x2, x3, x4, x5, x6, 0]) (by rw [c16_of ⟨(hr x6 (by simp)).1, by have := (hr x6 (by simp)).2; omega⟩]; rfl)
    refine W.dup ok (pc' := 360) d_method_4_359 rfl rfl ?_
    refine W.bipush ok (pc' := 362) (7 : Int32) d_method_4_360 rfl rfl ?_
    refine W.aloadN ok (pc' := 363) d_method_4_362 rfl rfl rfl ?_
    refine W.bipush ok (pc' := 365) (7 : Int32) d_method_4_363 rfl rfl ?_
    refine W.caload ok (pc' := 366) (((((((((A.ext E338).ext E346).other Wr354 nch352).other Wr357 nch352).other Wr360 nch352).other Wr363 nch352).other Wr366 nch352).other Wr369 nch352).other Wr372 nch352) x7 (by decide) rfl d_method_4_365 rfl ?_
    refine W.castore ok (pc' := 367) (cl' := (true, [])) A373 (by decide) (Nat.le_of_ble_eq_true rfl) (List.mem_cons_self ..) (Or.inr z344) (fun q => ⟨q, z344⟩) rfl d_method_4_366 rfl (fun h374 Wr375 A376 => ?_)
    replace A376 := A376.cast (cs' := [x0, x1, x2, x3, x4, x5, x6, x7]) (by rw [c16_of ⟨(hr x7 (by simp)).1, by have := (hr x7 (by simp)).2; omega⟩]; rfl)
    refine W.callI ok (rest := [(.ref a334)]) (cl' := (true, [])) (pc' := 370) rfl (w11 hw) (w12 hw) (w10 hw) (w13 hw) (by decide) pd_5 rfl (k_initC l Z a0 hE a334 a342 [x0, x1, x2, x3, x4, x5, x6, x7] h374 (((((((((X339.ext E346).wr Wr354).wr Wr357).wr Wr360).wr Wr363).wr Wr366).wr Wr369).wr Wr372).wr Wr375) ((((((((((D340 (Or.inr (w23 hw)) (ty := (.array .byte)) (by decide)).ext E346).other Wr354 (Or.inl nab351)).other Wr357 (Or.inl nab351)).other Wr360 (Or.inl nab351)).other Wr363 (Or.inl nab351)).other Wr366 (Or.inl nab351)).other Wr369 (Or.inl nab351)).other Wr372 (Or.inl nab351)).other Wr375 (Or.inl nab351)) ((((((((((D340 (Or.inr (w24 hw)) (ty := .byte) (by decide)).ext E346).other Wr354 (Or.inl nab351)).other Wr357 (Or.inl nab351)).other Wr360 (Or.inl nab351)).other Wr363 (Or.inl nab351)).other Wr366 (Or.inl nab351)).other Wr369 (Or.inl nab351)).other Wr372 (Or.inl nab351)).other Wr375 (Or.inl nab351)) A376 (by simp) (fun c hc => (hr c (List.mem_of_mem_take (i := 8) hc)).2)) (fun w q => by simp only [List.mem_cons, List.not_mem_nil, or_false] at q; subst q; exact ⟨(List.mem_cons_of_mem _ (List.mem_cons_self ..)), (Or.inr z336)⟩) (fun q => ⟨q, fun w q => by simp only [List.mem_cons, List.not_mem_nil, or_false] at q; subst q; exact z336⟩) rfl rfl (Nat.le_of_ble_eq_true rfl) (Nat.le_of_ble_eq_true rfl) (Nat.le_of_ble_eq_true rfl) (Nat.le_of_ble_eq_true rfl) d_method_4_367 rfl rfl (fun v h385 hq K386 => ?_)
    obtain ⟨rfl, t377, cd378, bs379, q380, q381, q382, q383, q384⟩ := hq
    show W B h385 6 25 (a342 :: a334 :: M) (true, []) 370 #[.val (.ref ch), .val (.int ((8 : Nat).toInt32))] [(.ref a334)]
    have E387 := ExtK (ExtW (ExtW (ExtW (ExtW (ExtW (ExtW (ExtW (ExtW (ExtT E338 E346) Wr354 (by omega)) Wr357 (by omega)) Wr360 (by omega)) Wr363 (by omega)) Wr366 (by omega)) Wr369 (by omega)) Wr372 (by omega)) Wr375 (by omega)) K386 (by simp; omega)
    have S1 : StrM Z h385 M a334 [x0, x1, x2, x3, x4, x5, x6, x7] := ⟨t377, cd378, bs379, fun z => absurd (hM333 _ z) (by omega), fun z => q380 (List.mem_cons_of_mem _ (List.mem_cons_of_mem _ z)), ((((((((((X339.ext E346).wr Wr354).wr Wr357).wr Wr360).wr Wr363).wr Wr366).wr Wr369).wr Wr372).wr Wr375).keep K386), q381, q382, q383, q384⟩
    refine W.drop (M' := M) (fun x z => (List.mem_cons_of_mem _ (List.mem_cons_of_mem _ z))) ?_
    exact W.retA ok d_method_4_370 rfl rfl (Nat.le_of_ble_eq_true rfl) (Nat.le_of_ble_eq_true rfl) (fun x (q : x ∈ M) => q) (fun kp => ⟨a334, rfl, Nat.le_of_eq ea337, S1⟩)
  · refine W.iloadN ok (pc' := 1) d_method_4_0 rfl rfl ?_
    refine W.ifne ok (pcY := 15) (pcN := 4) d_method_4_1 rfl (by decide) rfl (fun q => absurd q (by decide)) (fun _ => ?_)
    refine W.iloadN ok (pc' := 16) d_method_4_15 rfl rfl ?_
    refine W.iconst ok (pc' := 17) (1 : Int32) d_method_4_16 rfl rfl ?_
    refine W.icmpne ok (pcY := 37) (pcN := 20) d_method_4_17 rfl (by decide) rfl (fun q => absurd q (by decide)) (fun _ => ?_)
    refine W.iloadN ok (pc' := 38) d_method_4_37 rfl rfl ?_
    refine W.iconst ok (pc' := 39) (2 : Int32) d_method_4_38 rfl rfl ?_
    refine W.icmpne ok (pcY := 65) (pcN := 42) d_method_4_39 rfl (by decide) rfl (fun q => absurd q (by decide)) (fun _ => ?_)
    refine W.iloadN ok (pc' := 66) d_method_4_65 rfl rfl ?_
    refine W.iconst ok (pc' := 67) (3 : Int32) d_method_4_66 rfl rfl ?_
    refine W.icmpne ok (pcY := 99) (pcN := 70) d_method_4_67 rfl (by decide) rfl (fun q => absurd q (by decide)) (fun _ => ?_)
    refine W.iloadN ok (pc' := 100) d_method_4_99 rfl rfl ?_
    refine W.iconst ok (pc' := 101) (4 : Int32) d_method_4_100 rfl rfl ?_
    refine W.icmpne ok (pcY := 139) (pcN := 104) d_method_4_101 rfl (by decide) rfl (fun q => absurd q (by decide)) (fun _ => ?_)
    refine W.iloadN ok (pc' := 140) d_method_4_139 rfl rfl ?_
    refine W.iconst ok (pc' := 141) (5 : Int32) d_method_4_140 rfl rfl ?_
    refine W.icmpne ok (pcY := 185) (pcN := 144) d_method_4_141 rfl (by decide) rfl (fun q => absurd q (by decide)) (fun _ => ?_)
    refine W.iloadN ok (pc' := 186) d_method_4_185 rfl rfl ?_
    refine W.bipush ok (pc' := 188) (6 : Int32) d_method_4_186 rfl rfl ?_
    refine W.icmpne ok (pcY := 239) (pcN := 191) d_method_4_188 rfl (by decide) rfl (fun q => absurd q (by decide)) (fun _ => ?_)
    refine W.iloadN ok (pc' := 240) d_method_4_239 rfl rfl ?_
    refine W.bipush ok (pc' := 242) (7 : Int32) d_method_4_240 rfl rfl ?_
    refine W.icmpne ok (pcY := 301) (pcN := 245) d_method_4_242 rfl (by decide) rfl (fun q => absurd q (by decide)) (fun _ => ?_)
    refine W.iloadN ok (pc' := 302) d_method_4_301 rfl rfl ?_
    refine W.bipush ok (pc' := 304) (8 : Int32) d_method_4_302 rfl rfl ?_
    refine W.icmpne ok (pcY := 371) (pcN := 307) d_method_4_304 rfl (by decide) rfl (fun q => absurd q (by decide)) (fun _ => ?_)
    refine W.iloadN ok (pc' := 372) d_method_4_371 rfl rfl ?_
    refine W.bipush ok (pc' := 374) (9 : Int32) d_method_4_372 rfl rfl ?_
    refine W.icmpne ok (pcY := 449) (pcN := 377) d_method_4_374 rfl (by decide) rfl (fun _ => ?_) (fun q => absurd (by decide) q)
    refine W.lt fun hM388 => ?_
    refine W.new ok (pc' := 380) (w8 hw) (w9 hw) (w10 hw) d_method_4_377 rfl (Nat.le_of_ble_eq_true rfl) (Nat.le_of_ble_eq_true rfl) (fun a389 h390 z391 ea392 E393 X394 D395 U396 => ?_)
    refine W.dup ok (pc' := 381) d_method_4_380 rfl rfl ?_
    refine W.bipush ok (pc' := 383) (9 : Int32) d_method_4_381 rfl rfl ?_
    refine W.newC ok (pc' := 385) (cap := 9) (w0 hw) (by decide) (by decide) (by decide) d_method_4_383 rfl (Nat.le_of_ble_eq_true rfl) (Nat.le_of_ble_eq_true rfl) (fun a397 h398 z399 ea400 E401 A402 => ?_)
    replace A402 := A402.cast (cs' := [0, 0, 0, 0, 0, 0, 0, 0, 0]) rfl
    have l403 := gtE X394
    have l404 := E393.1
    have l405 := E401.1
    have nab406 : a389 ≠ a397 := ane (by omega)
    have nch407 : ch ≠ a397 := ane (by omega)
    refine W.dup ok (pc' := 386) d_method_4_385 rfl rfl ?_
    refine W.iconst ok (pc' := 387) (0 : Int32) d_method_4_386 rfl rfl ?_
    refine W.aloadN ok (pc' := 388) d_method_4_387 rfl rfl rfl ?_
    refine W.iconst ok (pc' := 389) (0 : Int32) d_method_4_388 rfl rfl ?_
    refine W.caload ok (pc' := 390) ((A.ext E393).ext E401) x0 (by decide) rfl d_method_4_389 rfl ?_
    refine W.castore ok (pc' := 391) (cl' := (true, [])) A402 (by decide) (Nat.le_of_ble_eq_true rfl) (List.mem_cons_self ..) (Or.inr z399) (fun q => ⟨q, z399⟩) rfl d_method_4_390 rfl (fun h408 Wr409 A410 => ?_)
    replace A410 := A410.cast (cs' := [x0, 0, 0, 0, 0, 0, 0, 0, 0]) (by rw [c16_of ⟨(hr x0 (by simp)).1, by have := (hr x0 (by simp)).2; omega⟩]; rfl)
    refine W.dup ok (pc' := 392) d_method_4_391 rfl rfl ?_
    refine W.iconst ok (pc' := 393) (1 : Int32) d_method_4_392 rfl rfl ?_
    refine W.aloadN ok (pc' := 394) d_method_4_393 rfl rfl rfl ?_
    refine W.iconst ok (pc' := 395) (1 : Int32) d_method_4_394 rfl rfl ?_
    refine W.caload ok (pc' := 396) (((A.ext E393).ext E401).other Wr409 nch407) x1 (by decide) rfl d_method_4_395 rfl ?_
    refine W.castore ok (pc' := 397) (cl' := (true, [])) A410 (by decide) (Nat.le_of_ble_eq_true rfl) (List.mem_cons_self ..) (Or.inr z399) (fun q => ⟨q, z399⟩) rfl d_method_4_396 rfl (fun h411 Wr412 A413 => ?_)
    replace A413 := A413.cast (cs' := [x0, x1, 0, 0, 0, 0, 0, 0, 0]) (by rw [c16_of ⟨(hr x1 (by simp)).1, by have := (hr x1 (by simp)).2; omega⟩]; rfl)
    refine W.dup ok (pc' := 398) d_method_4_397 rfl rfl ?_
    refine W.iconst ok (pc' := 399) (2 : Int32) d_method_4_398 rfl rfl ?_
    refine W.aloadN ok (pc' := 400) d_method_4_399 rfl rfl rfl ?_
    refine W.iconst ok (pc' := 401) (2 : Int32) d_method_4_400 rfl rfl ?_
    refine W.caload ok (pc' := 402) ((((A.ext E393).ext E401).other Wr409 nch407).other Wr412 nch407) x2 (by decide) rfl d_method_4_401 rfl ?_
    refine W.castore ok (pc' := 403) (cl' := (true, [])) A413 (by decide) (Nat.le_of_ble_eq_true rfl) (List.mem_cons_self ..) (Or.inr z399) (fun q => ⟨q, z399⟩) rfl d_method_4_402 rfl (fun h414 Wr415 A416 => ?_)
    replace A416 := A416.cast (cs' := [x0, x1, x2, 0, 0, 0, 0, 0, 0]) (by rw [c16_of ⟨(hr x2 (by simp)).1, by have := (hr x2 (by simp)).2; omega⟩]; rfl)
    refine W.dup ok (pc' := 404) d_method_4_403 rfl rfl ?_
    refine W.iconst ok (pc' := 405) (3 : Int32) d_method_4_404 rfl rfl ?_
    refine W.aloadN ok (pc' := 406) d_method_4_405 rfl rfl rfl ?_
    refine W.iconst ok (pc' := 407) (3 : Int32) d_method_4_406 rfl rfl ?_
    refine W.caload ok (pc' := 408) (((((A.ext E393).ext E401).other Wr409 nch407).other Wr412 nch407).other Wr415 nch407) x3 (by decide) rfl d_method_4_407 rfl ?_
    refine W.castore ok (pc' := 409) (cl' := (true, [])) A416 (by decide) (Nat.le_of_ble_eq_true rfl) (List.mem_cons_self ..) (Or.inr z399) (fun q => ⟨q, z399⟩) rfl d_method_4_408 rfl (fun h417 Wr418 A419 => ?_)
    replace A419 := A419.cast (cs' := [x0, x1, x2, x3, 0, 0, 0, 0, 0]) (by rw [c16_of ⟨(hr x3 (by simp)).1, by have := (hr x3 (by simp)).2; omega⟩]; rfl)
    refine W.dup ok (pc' := 410) d_method_4_409 rfl rfl ?_
    refine W.iconst ok (pc' := 411) (4 : Int32) d_method_4_410 rfl rfl ?_
    refine W.aloadN ok (pc' := 412) d_method_4_411 rfl rfl rfl ?_
    refine W.iconst ok (pc' := 413) (4 : Int32) d_method_4_412 rfl rfl ?_
    refine W.caload ok (pc' := 414) ((((((A.ext E393).ext E401).other Wr409 nch407).other Wr412 nch407).other Wr415 nch407).other Wr418 nch407) x4 (by decide) rfl d_method_4_413 rfl ?_
    refine W.castore ok (pc' := 415) (cl' := (true, [])) A419 (by decide) (Nat.le_of_ble_eq_true rfl) (List.mem_cons_self ..) (Or.inr z399) (fun q => ⟨q, z399⟩) rfl d_method_4_414 rfl (fun h420 Wr421 A422 => ?_)
    replace A422 := A422.cast (cs' := [x0, x1, x2, x3, x4, 0, 0, 0, 0]) (by rw [c16_of ⟨(hr x4 (by simp)).1, by have := (hr x4 (by simp)).2; omega⟩]; rfl)
    refine W.dup ok (pc' := 416) d_method_4_415 rfl rfl ?_
    refine W.iconst ok (pc' := 417) (5 : Int32) d_method_4_416 rfl rfl ?_
    refine W.aloadN ok (pc' := 418) d_method_4_417 rfl rfl rfl ?_
    refine W.iconst ok (pc' := 419) (5 : Int32) d_method_4_418 rfl rfl ?_
    refine W.caload ok (pc' := 420) (((((((A.ext E393).ext E401).other Wr409 nch407).other Wr412 nch407).other Wr415 nch407).other Wr418 nch407).other Wr421 nch407) x5 (by decide) rfl d_method_4_419 rfl ?_
    refine W.castore ok (pc' := 421) (cl' := (true, [])) A422 (by decide) (Nat.le_of_ble_eq_true rfl) (List.mem_cons_self ..) (Or.inr z399) (fun q => ⟨q, z399⟩) rfl d_method_4_420 rfl (fun h423 Wr424 A425 => ?_)
    replace A425 := A425.cast (cs' := [x0, x1, x2, x3, x4, x5, 0, 0, 0]) (by rw [c16_of ⟨(hr x5 (by simp)).1, by have := (hr x5 (by simp)).2; omega⟩]; rfl)
    refine W.dup ok (pc' := 422) d_method_4_421 rfl rfl ?_
    refine W.bipush ok (pc' := 424) (6 : Int32) d_method_4_422 rfl rfl ?_
    refine W.aloadN ok (pc' := 425) d_method_4_424 rfl rfl rfl ?_
    refine W.bipush ok (pc' := 427) (6 : Int32) d_method_4_425 rfl rfl ?_
    refine W.caload ok (pc' := 428) ((((((((A.ext E393).ext E401).other Wr409 nch407).other Wr412 nch407).other Wr415 nch407).other Wr418 nch407).other Wr421 nch407).other Wr424 nch407) x6 (by decide) rfl d_method_4_427 rfl ?_
    refine W.castore ok (pc' := 429) (cl' := (true, [])) A425 (by decide) (Nat.le_of_ble_eq_true rfl) (List.mem_cons_self ..) (Or.inr z399) (fun q => ⟨q, z399⟩) rfl d_method_4_428 rfl (fun h426 Wr427 A428 => ?_)
    replace A428 := A428.cast (cs' := [x0, x1, x2, x3, x4, x5, x6, 0, 0]) (by rw [c16_of ⟨(hr x6 (by simp)).1, by have := (hr x6 (by simp)).2; omega⟩]; rfl)
    refine W.dup ok (pc' := 430) d_method_4_429 rfl rfl ?_
    refine W.bipush ok (pc' := 432) (7 : Int32) d_method_4_430 rfl rfl ?_
    refine W.aloadN ok (pc' := 433) d_method_4_432 rfl rfl rfl ?_
    refine W.bipush ok (pc' := 435) (7 : Int32) d_method_4_433 rfl rfl ?_
    refine W.caload ok (pc' := 436) (((((((((A.ext E393).ext E401).other Wr409 nch407).other Wr412 nch407).other Wr415 nch407).other Wr418 nch407).other Wr421 nch407).other Wr424 nch407).other Wr427 nch407) x7 (by decide) rfl d_method_4_435 rfl ?_
    refine W.castore ok (pc' := 437) (cl' := (true, [])) A428 (by decide) (Nat.le_of_ble_eq_true rfl) (List.mem_cons_self ..) (Or.inr z399) (fun q => ⟨q, z399⟩) rfl d_method_4_436 rfl (fun h429 Wr430 A431 => ?_)
    replace A431 := A431.cast (cs' := [x0, x1, x2, x3, x4, x5, x6, x7, 0]) (by rw [c16_of ⟨(hr x7 (by simp)).1, by have := (hr x7 (by simp)).2; omega⟩]; rfl)
    refine W.dup ok (pc' := 438) d_method_4_437 rfl rfl ?_
    refine W.bipush ok (pc' := 440) (8 : Int32) d_method_4_438 rfl rfl ?_
    refine W.aloadN ok (pc' := 441) d_method_4_440 rfl rfl rfl ?_
    refine W.bipush ok (pc' := 443) (8 : Int32) d_method_4_441 rfl rfl ?_
    refine W.caload ok (pc' := 444) ((((((((((A.ext E393).ext E401).other Wr409 nch407).other Wr412 nch407).other Wr415 nch407).other Wr418 nch407).other Wr421 nch407).other Wr424 nch407).other Wr427 nch407).other Wr430 nch407) x8 (by decide) rfl d_method_4_443 rfl ?_
    refine W.castore ok (pc' := 445) (cl' := (true, [])) A431 (by decide) (Nat.le_of_ble_eq_true rfl) (List.mem_cons_self ..) (Or.inr z399) (fun q => ⟨q, z399⟩) rfl d_method_4_444 rfl (fun h432 Wr433 A434 => ?_)
    replace A434 := A434.cast (cs' := [x0, x1, x2, x3, x4, x5, x6, x7, x8]) (by rw [c16_of ⟨(hr x8 (by simp)).1, by have := (hr x8 (by simp)).2; omega⟩]; rfl)
    refine W.callI ok (rest := [(.ref a389)]) (cl' := (true, [])) (pc' := 448) rfl (w11 hw) (w12 hw) (w10 hw) (w13 hw) (by decide) pd_5 rfl (k_initC l Z a0 hE a389 a397 [x0, x1, x2, x3, x4, x5, x6, x7, x8] h432 ((((((((((X394.ext E401).wr Wr409).wr Wr412).wr Wr415).wr Wr418).wr Wr421).wr Wr424).wr Wr427).wr Wr430).wr Wr433) (((((((((((D395 (Or.inr (w23 hw)) (ty := (.array .byte)) (by decide)).ext E401).other Wr409 (Or.inl nab406)).other Wr412 (Or.inl nab406)).other Wr415 (Or.inl nab406)).other Wr418 (Or.inl nab406)).other Wr421 (Or.inl nab406)).other Wr424 (Or.inl nab406)).other Wr427 (Or.inl nab406)).other Wr430 (Or.inl nab406)).other Wr433 (Or.inl nab406)) (((((((((((D395 (Or.inr (w24 hw)) (ty := .byte) (by decide)).ext E401).other Wr409 (Or.inl nab406)).other Wr412 (Or.inl nab406)).other Wr415 (Or.inl nab406)).other Wr418 (Or.inl nab406)).other Wr421 (Or.inl nab406)).other Wr424 (Or.inl nab406)).other Wr427 (Or.inl nab406)).other Wr430 (Or.inl nab406)).other Wr433 (Or.inl nab406)) A434 (by simp) (fun c hc => (hr c (List.mem_of_mem_take (i := 9) hc)).2)) (fun w q => by simp only [List.mem_cons, List.not_mem_nil, or_false] at q; subst q; exact ⟨(List.mem_cons_of_mem _ (List.mem_cons_self ..)), (Or.inr z391)⟩) (fun q => ⟨q, fun w q => by simp only [List.mem_cons, List.not_mem_nil, or_false] at q; subst q; exact z391⟩) rfl rfl (Nat.le_of_ble_eq_true rfl) (Nat.le_of_ble_eq_true rfl) (Nat.le_of_ble_eq_true rfl) (Nat.le_of_ble_eq_true rfl) d_method_4_445 rfl rfl (fun v h443 hq K444 => ?_)
    obtain ⟨rfl, t435, cd436, bs437, q438, q439, q440, q441, q442⟩ := hq
    show W B h443 6 26 (a397 :: a389 :: M) (true, []) 448 #[.val (.ref ch), .val (.int ((9 : Nat).toInt32))] [(.ref a389)]
    have E445 := ExtK (ExtW (ExtW (ExtW (ExtW (ExtW (ExtW (ExtW (ExtW (ExtW (ExtT E393 E401) Wr409 (by omega)) Wr412 (by omega)) Wr415 (by omega)) Wr418 (by omega)) Wr421 (by omega)) Wr424 (by omega)) Wr427 (by omega)) Wr430 (by omega)) Wr433 (by omega)) K444 (by simp; omega)
    have S1 : StrM Z h443 M a389 [x0, x1, x2, x3, x4, x5, x6, x7, x8] := ⟨t435, cd436, bs437, fun z => absurd (hM388 _ z) (by omega), fun z => q438 (List.mem_cons_of_mem _ (List.mem_cons_of_mem _ z)), (((((((((((X394.ext E401).wr Wr409).wr Wr412).wr Wr415).wr Wr418).wr Wr421).wr Wr424).wr Wr427).wr Wr430).wr Wr433).keep K444), q439, q440, q441, q442⟩
    refine W.drop (M' := M) (fun x z => (List.mem_cons_of_mem _ (List.mem_cons_of_mem _ z))) ?_
    exact W.retA ok d_method_4_448 rfl rfl (Nat.le_of_ble_eq_true rfl) (Nat.le_of_ble_eq_true rfl) (fun x (q : x ∈ M) => q) (fun kp => ⟨a389, rfl, Nat.le_of_eq ea392, S1⟩)
  · refine W.iloadN ok (pc' := 1) d_method_4_0 rfl rfl ?_
    refine W.ifne ok (pcY := 15) (pcN := 4) d_method_4_1 rfl (by decide) rfl (fun q => absurd q (by decide)) (fun _ => ?_)
    refine W.iloadN ok (pc' := 16) d_method_4_15 rfl rfl ?_
    refine W.iconst ok (pc' := 17) (1 : Int32) d_method_4_16 rfl rfl ?_
    refine W.icmpne ok (pcY := 37) (pcN := 20) d_method_4_17 rfl (by decide) rfl (fun q => absurd q (by decide)) (fun _ => ?_)
    refine W.iloadN ok (pc' := 38) d_method_4_37 rfl rfl ?_
    refine W.iconst ok (pc' := 39) (2 : Int32) d_method_4_38 rfl rfl ?_
    refine W.icmpne ok (pcY := 65) (pcN := 42) d_method_4_39 rfl (by decide) rfl (fun q => absurd q (by decide)) (fun _ => ?_)
    refine W.iloadN ok (pc' := 66) d_method_4_65 rfl rfl ?_
    refine W.iconst ok (pc' := 67) (3 : Int32) d_method_4_66 rfl rfl ?_
    refine W.icmpne ok (pcY := 99) (pcN := 70) d_method_4_67 rfl (by decide) rfl (fun q => absurd q (by decide)) (fun _ => ?_)
    refine W.iloadN ok (pc' := 100) d_method_4_99 rfl rfl ?_
    refine W.iconst ok (pc' := 101) (4 : Int32) d_method_4_100 rfl rfl ?_
    refine W.icmpne ok (pcY := 139) (pcN := 104) d_method_4_101 rfl (by decide) rfl (fun q => absurd q (by decide)) (fun _ => ?_)
    refine W.iloadN ok (pc' := 140) d_method_4_139 rfl rfl ?_
    refine W.iconst ok (pc' := 141) (5 : Int32) d_method_4_140 rfl rfl ?_
    refine W.icmpne ok (pcY := 185) (pcN := 144) d_method_4_141 rfl (by decide) rfl (fun q => absurd q (by decide)) (fun _ => ?_)
    refine W.iloadN ok (pc' := 186) d_method_4_185 rfl rfl ?_
    refine W.bipush ok (pc' := 188) (6 : Int32) d_method_4_186 rfl rfl ?_
    refine W.icmpne ok (pcY := 239) (pcN := 191) d_method_4_188 rfl (by decide) rfl (fun q => absurd q (by decide)) (fun _ => ?_)
    refine W.iloadN ok (pc' := 240) d_method_4_239 rfl rfl ?_
    refine W.bipush ok (pc' := 242) (7 : Int32) d_method_4_240 rfl rfl ?_
    refine W.icmpne ok (pcY := 301) (pcN := 245) d_method_4_242 rfl (by decide) rfl (fun q => absurd q (by decide)) (fun _ => ?_)
    refine W.iloadN ok (pc' := 302) d_method_4_301 rfl rfl ?_
    refine W.bipush ok (pc' := 304) (8 : Int32) d_method_4_302 rfl rfl ?_
    refine W.icmpne ok (pcY := 371) (pcN := 307) d_method_4_304 rfl (by decide) rfl (fun q => absurd q (by decide)) (fun _ => ?_)
    refine W.iloadN ok (pc' := 372) d_method_4_371 rfl rfl ?_
    refine W.bipush ok (pc' := 374) (9 : Int32) d_method_4_372 rfl rfl ?_
    refine W.icmpne ok (pcY := 449) (pcN := 377) d_method_4_374 rfl (by decide) rfl (fun q => absurd q (by decide)) (fun _ => ?_)
    refine W.iloadN ok (pc' := 450) d_method_4_449 rfl rfl ?_
    refine W.bipush ok (pc' := 452) (10 : Int32) d_method_4_450 rfl rfl ?_
    refine W.icmpne ok (pcY := 535) (pcN := 455) d_method_4_452 rfl (by decide) rfl (fun _ => ?_) (fun q => absurd (by decide) q)
    refine W.lt fun hM446 => ?_
    refine W.new ok (pc' := 458) (w8 hw) (w9 hw) (w10 hw) d_method_4_455 rfl (Nat.le_of_ble_eq_true rfl) (Nat.le_of_ble_eq_true rfl) (fun a447 h448 z449 ea450 E451 X452 D453 U454 => ?_)
    refine W.dup ok (pc' := 459) d_method_4_458 rfl rfl ?_
    refine W.bipush ok (pc' := 461) (10 : Int32) d_method_4_459 rfl rfl ?_
    refine W.newC ok (pc' := 463) (cap := 10) (w0 hw) (by decide) (by decide) (by decide) d_method_4_461 rfl (Nat.le_of_ble_eq_true rfl) (Nat.le_of_ble_eq_true rfl) (fun a455 h456 z457 ea458 E459 A460 => ?_)
    replace A460 := A460.cast (cs' := [0, 0, 0, 0, 0, 0, 0, 0, 0, 0]) rfl
    have l461 := gtE X452
    have l462 := E451.1
    have l463 := E459.1
    have nab464 : a447 ≠ a455 := ane (by omega)
    have nch465 : ch ≠ a455 := ane (by omega)
    refine W.dup ok (pc' := 464) d_method_4_463 rfl rfl ?_
    refine W.iconst ok (pc' := 465) (0 : Int32) d_method_4_464 rfl rfl ?_
    refine W.aloadN ok (pc' := 466) d_method_4_465 rfl rfl rfl ?_
    refine W.iconst ok (pc' := 467) (0 : Int32) d_method_4_466 rfl rfl ?_
    refine W.caload ok (pc' := 468) ((A.ext E451).ext E459) x0 (by decide) rfl d_method_4_467 rfl ?_
    refine W.castore ok (pc' := 469) (cl' := (true, [])) A460 (by decide) (Nat.le_of_ble_eq_true rfl) (List.mem_cons_self ..) (Or.inr z457) (fun q => ⟨q, z457⟩) rfl d_method_4_468 rfl (fun h466 Wr467 A468 => ?_)
    replace A468 := A468.cast (cs' := [x0, 0, 0, 0, 0, 0, 0, 0, 0, 0]) (by rw [c16_of ⟨(hr x0 (by simp)).1, by have := (hr x0 (by simp)).2; omega⟩]; rfl)
    refine W.dup ok (pc' := 470) d_method_4_469 rfl rfl ?_
    refine W.iconst ok (pc' := 471) (1 : Int32) d_method_4_470 rfl rfl ?_
    refine W.aloadN ok (pc' := 472) d_method_4_471 rfl rfl rfl ?_
    refine W.iconst ok (pc' := 473) (1 : Int32) d_method_4_472 rfl rfl ?_
    refine W.caload ok (pc' := 474) (((A.ext E451).ext E459).other Wr467 nch465) x1 (by decide) rfl d_method_4_473 rfl ?_
    refine W.castore ok (pc' := 475) (cl' := (true, [])) A468 (by decide) (Nat.le_of_ble_eq_true rfl) (List.mem_cons_self ..) (Or.inr z457) (fun q => ⟨q, z457⟩) rfl d_method_4_474 rfl (fun h469 Wr470 A471 => ?_)
    replace A471 := A471.cast (cs' := [x0, x1, 0, 0, 0, 0, 0, 0, 0, 0]) (by rw [c16_of ⟨(hr x1 (by simp)).1, by have := (hr x1 (by simp)).2; omega⟩]; rfl)
    refine W.dup ok (pc' := 476) d_method_4_475 rfl rfl ?_
    refine W.iconst ok (pc' := 477) (2 : Int32) d_method_4_476 rfl rfl ?_
    refine W.aloadN ok (pc' := 478) d_method_4_477 rfl rfl rfl ?_
    refine W.iconst ok (pc' := 479) (2 : Int32) d_method_4_478 rfl rfl ?_
    refine W.caload ok (pc' := 480) ((((A.ext E451).ext E459).other Wr467 nch465).other Wr470 nch465) x2 (by decide) rfl d_method_4_479 rfl ?_
    refine W.castore ok (pc' := 481) (cl' := (true, [])) A471 (by decide) (Nat.le_of_ble_eq_true rfl) (List.mem_cons_self ..) (Or.inr z457) (fun q => ⟨q, z457⟩) rfl d_method_4_480 rfl (fun h472 Wr473 A474 => ?_)
    replace A474 := A474.cast (cs' := [x0, x1, x2, 0, 0, 0, 0, 0, 0, 0]) (by rw [c16_of ⟨(hr x2 (by simp)).1, by have := (hr x2 (by simp)).2; omega⟩]; rfl)
    refine W.dup ok (pc' := 482) d_method_4_481 rfl rfl ?_
    refine W.iconst ok (pc' := 483) (3 : Int32) d_method_4_482 rfl rfl ?_
    refine W.aloadN ok (pc' := 484) d_method_4_483 rfl rfl rfl ?_
    refine W.iconst ok (pc' := 485) (3 : Int32) d_method_4_484 rfl rfl ?_
    refine W.caload ok (pc' := 486) (((((A.ext E451).ext E459).other Wr467 nch465).other Wr470 nch465).other Wr473 nch465) x3 (by decide) rfl d_method_4_485 rfl ?_
    refine W.castore ok (pc' := 487) (cl' := (true, [])) A474 (by decide) (Nat.le_of_ble_eq_true rfl) (List.mem_cons_self ..) (Or.inr z457) (fun q => ⟨q, z457⟩) rfl d_method_4_486 rfl (fun h475 Wr476 A477 => ?_)
    replace A477 := A477.cast (cs' := [x0, x1, x2, x3, 0, 0, 0, 0, 0, 0]) (by rw [c16_of ⟨(hr x3 (by simp)).1, by have := (hr x3 (by simp)).2; omega⟩]; rfl)
    refine W.dup ok (pc' := 488) d_method_4_487 rfl rfl ?_
    refine W.iconst ok (pc' := 489) (4 : Int32) d_method_4_488 rfl rfl ?_
    refine W.aloadN ok (pc' := 490) d_method_4_489 rfl rfl rfl ?_
    refine W.iconst ok (pc' := 491) (4 : Int32) d_method_4_490 rfl rfl ?_
    refine W.caload ok (pc' := 492) ((((((A.ext E451).ext E459).other Wr467 nch465).other Wr470 nch465).other Wr473 nch465).other Wr476 nch465) x4 (by decide) rfl d_method_4_491 rfl ?_
    refine W.castore ok (pc' := 493) (cl' := (true, [])) A477 (by decide) (Nat.le_of_ble_eq_true rfl) (List.mem_cons_self ..) (Or.inr z457) (fun q => ⟨q, z457⟩) rfl d_method_4_492 rfl (fun h478 Wr479 A480 => ?_)
    replace A480 := A480.cast (cs' := [x0, x1, x2, x3, x4, 0, 0, 0, 0, 0]) (by rw [c16_of ⟨(hr x4 (by simp)).1, by have := (hr x4 (by simp)).2; omega⟩]; rfl)
    refine W.dup ok (pc' := 494) d_method_4_493 rfl rfl ?_
    refine W.iconst ok (pc' := 495) (5 : Int32) d_method_4_494 rfl rfl ?_
    refine W.aloadN ok (pc' := 496) d_method_4_495 rfl rfl rfl ?_
    refine W.iconst ok (pc' := 497) (5 : Int32) d_method_4_496 rfl rfl ?_
    refine W.caload ok (pc' := 498) (((((((A.ext E451).ext E459).other Wr467 nch465).other Wr470 nch465).other Wr473 nch465).other Wr476 nch465).other Wr479 nch465) x5 (by decide) rfl d_method_4_497 rfl ?_
    refine W.castore ok (pc' := 499) (cl' := (true, [])) A480 (by decide) (Nat.le_of_ble_eq_true rfl) (List.mem_cons_self ..) (Or.inr z457) (fun q => ⟨q, z457⟩) rfl d_method_4_498 rfl (fun h481 Wr482 A483 => ?_)
    replace A483 := A483.cast (cs' := [x0, x1, x2, x3, x4, x5, 0, 0, 0, 0]) (by rw [c16_of ⟨(hr x5 (by simp)).1, by have := (hr x5 (by simp)).2; omega⟩]; rfl)
    refine W.dup ok (pc' := 500) d_method_4_499 rfl rfl ?_
    refine W.bipush ok (pc' := 502) (6 : Int32) d_method_4_500 rfl rfl ?_
    refine W.aloadN ok (pc' := 503) d_method_4_502 rfl rfl rfl ?_
    refine W.bipush ok (pc' := 505) (6 : Int32) d_method_4_503 rfl rfl ?_
    refine W.caload ok (pc' := 506) ((((((((A.ext E451).ext E459).other Wr467 nch465).other Wr470 nch465).other Wr473 nch465).other Wr476 nch465).other Wr479 nch465).other Wr482 nch465) x6 (by decide) rfl d_method_4_505 rfl ?_
    refine W.castore ok (pc' := 507) (cl' := (true, [])) A483 (by decide) (Nat.le_of_ble_eq_true rfl) (List.mem_cons_self ..) (Or.inr z457) (fun q => ⟨q, z457⟩) rfl d_method_4_506 rfl (fun h484 Wr485 A486 => ?_)
    replace A486 := A486.cast (cs' := [x0, x1, x2, x3, x4, x5, x6, 0, 0, 0]) (by rw [c16_of ⟨(hr x6 (by simp)).1, by have := (hr x6 (by simp)).2; omega⟩]; rfl)
    refine W.dup ok (pc' := 508) d_method_4_507 rfl rfl ?_
    refine W.bipush ok (pc' := 510) (7 : Int32) d_method_4_508 rfl rfl ?_
    refine W.aloadN ok (pc' := 511) d_method_4_510 rfl rfl rfl ?_
    refine W.bipush ok (pc' := 513) (7 : Int32) d_method_4_511 rfl rfl ?_
    refine W.caload ok (pc' := 514) (((((((((A.ext E451).ext E459).other Wr467 nch465).other Wr470 nch465).other Wr473 nch465).other Wr476 nch465).other Wr479 nch465).other Wr482 nch465).other Wr485 nch465) x7 (by decide) rfl d_method_4_513 rfl ?_
    refine W.castore ok (pc' := 515) (cl' := (true, [])) A486 (by decide) (Nat.le_of_ble_eq_true rfl) (List.mem_cons_self ..) (Or.inr z457) (fun q => ⟨q, z457⟩) rfl d_method_4_514 rfl (fun h487 Wr488 A489 => ?_)
    replace A489 := A489.cast (cs' := [x0, x1, x2, x3, x4, x5, x6, x7, 0, 0]) (by rw [c16_of ⟨(hr x7 (by simp)).1, by have := (hr x7 (by simp)).2; omega⟩]; rfl)
    refine W.dup ok (pc' := 516) d_method_4_515 rfl rfl ?_
    refine W.bipush ok (pc' := 518) (8 : Int32) d_method_4_516 rfl rfl ?_
    refine W.aloadN ok (pc' := 519) d_method_4_518 rfl rfl rfl ?_
    refine W.bipush ok (pc' := 521) (8 : Int32) d_method_4_519 rfl rfl ?_
    refine W.caload ok (pc' := 522) ((((((((((A.ext E451).ext E459).other Wr467 nch465).other Wr470 nch465).other Wr473 nch465).other Wr476 nch465).other Wr479 nch465).other Wr482 nch465).other Wr485 nch465).other Wr488 nch465) x8 (by decide) rfl d_method_4_521 rfl ?_
    refine W.castore ok (pc' := 523) (cl' := (true, [])) A489 (by decide) (Nat.le_of_ble_eq_true rfl) (List.mem_cons_self ..) (Or.inr z457) (fun q => ⟨q, z457⟩) rfl d_method_4_522 rfl (fun h490 Wr491 A492 => ?_)
    replace A492 := A492.cast (cs' := [x0, x1, x2, x3, x4, x5, x6, x7, x8, 0]) (by rw [c16_of ⟨(hr x8 (by simp)).1, by have := (hr x8 (by simp)).2; omega⟩]; rfl)
    refine W.dup ok (pc' := 524) d_method_4_523 rfl rfl ?_
    refine W.bipush ok (pc' := 526) (9 : Int32) d_method_4_524 rfl rfl ?_
    refine W.aloadN ok (pc' := 527) d_method_4_526 rfl rfl rfl ?_
    refine W.bipush ok (pc' := 529) (9 : Int32) d_method_4_527 rfl rfl ?_
    refine W.caload ok (pc' := 530) (((((((((((A.ext E451).ext E459).other Wr467 nch465).other Wr470 nch465).other Wr473 nch465).other Wr476 nch465).other Wr479 nch465).other Wr482 nch465).other Wr485 nch465).other Wr488 nch465).other Wr491 nch465) x9 (by decide) rfl d_method_4_529 rfl ?_
    refine W.castore ok (pc' := 531) (cl' := (true, [])) A492 (by decide) (Nat.le_of_ble_eq_true rfl) (List.mem_cons_self ..) (Or.inr z457) (fun q => ⟨q, z457⟩) rfl d_method_4_530 rfl (fun h493 Wr494 A495 => ?_)
    replace A495 := A495.cast (cs' := [x0, x1, x2, x3, x4, x5, x6, x7, x8, x9]) (by rw [c16_of ⟨(hr x9 (by simp)).1, by have := (hr x9 (by simp)).2; omega⟩]; rfl)
    refine W.callI ok (rest := [(.ref a447)]) (cl' := (true, [])) (pc' := 534) rfl (w11 hw) (w12 hw) (w10 hw) (w13 hw) (by decide) pd_5 rfl (k_initC l Z a0 hE a447 a455 [x0, x1, x2, x3, x4, x5, x6, x7, x8, x9] h493 (((((((((((X452.ext E459).wr Wr467).wr Wr470).wr Wr473).wr Wr476).wr Wr479).wr Wr482).wr Wr485).wr Wr488).wr Wr491).wr Wr494) ((((((((((((D453 (Or.inr (w23 hw)) (ty := (.array .byte)) (by decide)).ext E459).other Wr467 (Or.inl nab464)).other Wr470 (Or.inl nab464)).other Wr473 (Or.inl nab464)).other Wr476 (Or.inl nab464)).other Wr479 (Or.inl nab464)).other Wr482 (Or.inl nab464)).other Wr485 (Or.inl nab464)).other Wr488 (Or.inl nab464)).other Wr491 (Or.inl nab464)).other Wr494 (Or.inl nab464)) ((((((((((((D453 (Or.inr (w24 hw)) (ty := .byte) (by decide)).ext E459).other Wr467 (Or.inl nab464)).other Wr470 (Or.inl nab464)).other Wr473 (Or.inl nab464)).other Wr476 (Or.inl nab464)).other Wr479 (Or.inl nab464)).other Wr482 (Or.inl nab464)).other Wr485 (Or.inl nab464)).other Wr488 (Or.inl nab464)).other Wr491 (Or.inl nab464)).other Wr494 (Or.inl nab464)) A495 (by simp) (fun c hc => (hr c (List.mem_of_mem_take (i := 10) hc)).2)) (fun w q => by simp only [List.mem_cons, List.not_mem_nil, or_false] at q; subst q; exact ⟨(List.mem_cons_of_mem _ (List.mem_cons_self ..)), (Or.inr z449)⟩) (fun q => ⟨q, fun w q => by simp only [List.mem_cons, List.not_mem_nil, or_false] at q; subst q; exact z449⟩) rfl rfl (Nat.le_of_ble_eq_true rfl) (Nat.le_of_ble_eq_true rfl) (Nat.le_of_ble_eq_true rfl) (Nat.le_of_ble_eq_true rfl) d_method_4_531 rfl rfl (fun v h504 hq K505 => ?_)
    obtain ⟨rfl, t496, cd497, bs498, q499, q500, q501, q502, q503⟩ := hq
    show W B h504 6 27 (a455 :: a447 :: M) (true, []) 534 #[.val (.ref ch), .val (.int ((10 : Nat).toInt32))] [(.ref a447)]
    have E506 := ExtK (ExtW (ExtW (ExtW (ExtW (ExtW (ExtW (ExtW (ExtW (ExtW (ExtW (ExtT E451 E459) Wr467 (by omega)) Wr470 (by omega)) Wr473 (by omega)) Wr476 (by omega)) Wr479 (by omega)) Wr482 (by omega)) Wr485 (by omega)) Wr488 (by omega)) Wr491 (by omega)) Wr494 (by omega)) K505 (by simp; omega)
    have S1 : StrM Z h504 M a447 [x0, x1, x2, x3, x4, x5, x6, x7, x8, x9] := ⟨t496, cd497, bs498, fun z => absurd (hM446 _ z) (by omega), fun z => q499 (List.mem_cons_of_mem _ (List.mem_cons_of_mem _ z)), ((((((((((((X452.ext E459).wr Wr467).wr Wr470).wr Wr473).wr Wr476).wr Wr479).wr Wr482).wr Wr485).wr Wr488).wr Wr491).wr Wr494).keep K505), q500, q501, q502, q503⟩
    refine W.drop (M' := M) (fun x z => (List.mem_cons_of_mem _ (List.mem_cons_of_mem _ z))) ?_
    exact W.retA ok d_method_4_534 rfl rfl (Nat.le_of_ble_eq_true rfl) (Nat.le_of_ble_eq_true rfl) (fun x (q : x ∈ M) => q) (fun kp => ⟨a447, rfl, Nat.le_of_eq ea450, S1⟩)
  · refine W.iloadN ok (pc' := 1) d_method_4_0 rfl rfl ?_
    refine W.ifne ok (pcY := 15) (pcN := 4) d_method_4_1 rfl (by decide) rfl (fun q => absurd q (by decide)) (fun _ => ?_)
    refine W.iloadN ok (pc' := 16) d_method_4_15 rfl rfl ?_
    refine W.iconst ok (pc' := 17) (1 : Int32) d_method_4_16 rfl rfl ?_
    refine W.icmpne ok (pcY := 37) (pcN := 20) d_method_4_17 rfl (by decide) rfl (fun q => absurd q (by decide)) (fun _ => ?_)
    refine W.iloadN ok (pc' := 38) d_method_4_37 rfl rfl ?_
    refine W.iconst ok (pc' := 39) (2 : Int32) d_method_4_38 rfl rfl ?_
    refine W.icmpne ok (pcY := 65) (pcN := 42) d_method_4_39 rfl (by decide) rfl (fun q => absurd q (by decide)) (fun _ => ?_)
    refine W.iloadN ok (pc' := 66) d_method_4_65 rfl rfl ?_
    refine W.iconst ok (pc' := 67) (3 : Int32) d_method_4_66 rfl rfl ?_
    refine W.icmpne ok (pcY := 99) (pcN := 70) d_method_4_67 rfl (by decide) rfl (fun q => absurd q (by decide)) (fun _ => ?_)
    refine W.iloadN ok (pc' := 100) d_method_4_99 rfl rfl ?_
    refine W.iconst ok (pc' := 101) (4 : Int32) d_method_4_100 rfl rfl ?_
    refine W.icmpne ok (pcY := 139) (pcN := 104) d_method_4_101 rfl (by decide) rfl (fun q => absurd q (by decide)) (fun _ => ?_)
    refine W.iloadN ok (pc' := 140) d_method_4_139 rfl rfl ?_
    refine W.iconst ok (pc' := 141) (5 : Int32) d_method_4_140 rfl rfl ?_
    refine W.icmpne ok (pcY := 185) (pcN := 144) d_method_4_141 rfl (by decide) rfl (fun q => absurd q (by decide)) (fun _ => ?_)
    refine W.iloadN ok (pc' := 186) d_method_4_185 rfl rfl ?_
    refine W.bipush ok (pc' := 188) (6 : Int32) d_method_4_186 rfl rfl ?_
    refine W.icmpne ok (pcY := 239) (pcN := 191) d_method_4_188 rfl (by decide) rfl (fun q => absurd q (by decide)) (fun _ => ?_)
    refine W.iloadN ok (pc' := 240) d_method_4_239 rfl rfl ?_
    refine W.bipush ok (pc' := 242) (7 : Int32) d_method_4_240 rfl rfl ?_
    refine W.icmpne ok (pcY := 301) (pcN := 245) d_method_4_242 rfl (by decide) rfl (fun q => absurd q (by decide)) (fun _ => ?_)
    refine W.iloadN ok (pc' := 302) d_method_4_301 rfl rfl ?_
    refine W.bipush ok (pc' := 304) (8 : Int32) d_method_4_302 rfl rfl ?_
    refine W.icmpne ok (pcY := 371) (pcN := 307) d_method_4_304 rfl (by decide) rfl (fun q => absurd q (by decide)) (fun _ => ?_)
    refine W.iloadN ok (pc' := 372) d_method_4_371 rfl rfl ?_
    refine W.bipush ok (pc' := 374) (9 : Int32) d_method_4_372 rfl rfl ?_
    refine W.icmpne ok (pcY := 449) (pcN := 377) d_method_4_374 rfl (by decide) rfl (fun q => absurd q (by decide)) (fun _ => ?_)
    refine W.iloadN ok (pc' := 450) d_method_4_449 rfl rfl ?_
    refine W.bipush ok (pc' := 452) (10 : Int32) d_method_4_450 rfl rfl ?_
    refine W.icmpne ok (pcY := 535) (pcN := 455) d_method_4_452 rfl (by decide) rfl (fun q => absurd q (by decide)) (fun _ => ?_)
    refine W.iloadN ok (pc' := 536) d_method_4_535 rfl rfl ?_
    refine W.bipush ok (pc' := 538) (11 : Int32) d_method_4_536 rfl rfl ?_
    refine W.icmpne ok (pcY := 629) (pcN := 541) d_method_4_538 rfl (by decide) rfl (fun _ => ?_) (fun q => absurd (by decide) q)
    refine W.lt fun hM507 => ?_
    refine W.new ok (pc' := 544) (w8 hw) (w9 hw) (w10 hw) d_method_4_541 rfl (Nat.le_of_ble_eq_true rfl) (Nat.le_of_ble_eq_true rfl) (fun a508 h509 z510 ea511 E512 X513 D514 U515 => ?_)
    refine W.dup ok (pc' := 545) d_method_4_544 rfl rfl ?_
    refine W.bipush ok (pc' := 547) (11 : Int32) d_method_4_545 rfl rfl ?_
    refine W.newC ok (pc' := 549) (cap := 11) (w0 hw) (by decide) (by decide) (by decide) d_method_4_547 rfl (Nat.le_of_ble_eq_true rfl) (Nat.le_of_ble_eq_true rfl) (fun a516 h517 z518 ea519 E520 A521 => ?_)
    replace A521 := A521.cast (cs' := [0, 0, 0, 0, 0, 0, 0, 0, 0, 0, 0]) rfl
    have l522 := gtE X513
    have l523 := E512.1
    have l524 := E520.1
    have nab525 : a508 ≠ a516 := ane (by omega)
    have nch526 : ch ≠ a516 := ane (by omega)
    refine W.dup ok (pc' := 550) d_method_4_549 rfl rfl ?_
    refine W.iconst ok (pc' := 551) (0 : Int32) d_method_4_550 rfl rfl ?_
    refine W.aloadN ok (pc' := 552) d_method_4_551 rfl rfl rfl ?_
    refine W.iconst ok (pc' := 553) (0 : Int32) d_method_4_552 rfl rfl ?_
    refine W.caload ok (pc' := 554) ((A.ext E512).ext E520) x0 (by decide) rfl d_method_4_553 rfl ?_
    refine W.castore ok (pc' := 555) (cl' := (true, [])) A521 (by decide) (Nat.le_of_ble_eq_true rfl) (List.mem_cons_self ..) (Or.inr z518) (fun q => ⟨q, z518⟩) rfl d_method_4_554 rfl (fun h527 Wr528 A529 => ?_)
    replace A529 := A529.cast (cs' := [x0, 0, 0, 0, 0, 0, 0, 0, 0, 0, 0]) (by rw [c16_of ⟨(hr x0 (by simp)).1, by have := (hr x0 (by simp)).2; omega⟩]; rfl)
    refine W.dup ok (pc' := 556) d_method_4_555 rfl rfl ?_
    refine W.iconst ok (pc' := 557) (1 : Int32) d_method_4_556 rfl rfl ?_
    refine W.aloadN ok (pc' := 558) d_method_4_557 rfl rfl rfl ?_
    refine W.iconst ok (pc' := 559) (1 : Int32) d_method_4_558 rfl rfl ?_
    refine W.caload ok (pc' := 560) (((A.ext E512).ext E520).other Wr528 nch526) x1 (by decide) rfl d_method_4_559 rfl ?_
    refine W.castore ok (pc' := 561) (cl' := (true, [])) A529 (by decide) (Nat.le_of_ble_eq_true rfl) (List.mem_cons_self ..) (Or.inr z518) (fun q => ⟨q, z518⟩) rfl d_method_4_560 rfl (fun h530 Wr531 A532 => ?_)
    replace A532 := A532.cast (cs' := [x0, x1, 0, 0, 0, 0, 0, 0, 0, 0, 0]) (by rw [c16_of ⟨(hr x1 (by simp)).1, by have := (hr x1 (by simp)).2; omega⟩]; rfl)
    refine W.dup ok (pc' := 562) d_method_4_561 rfl rfl ?_
    refine W.iconst ok (pc' := 563) (2 : Int32) d_method_4_562 rfl rfl ?_
    refine W.aloadN ok (pc' := 564) d_method_4_563 rfl rfl rfl ?_
    refine W.iconst ok (pc' := 565) (2 : Int32) d_method_4_564 rfl rfl ?_
    refine W.caload ok (pc' := 566) ((((A.ext E512).ext E520).other Wr528 nch526).other Wr531 nch526) x2 (by decide) rfl d_method_4_565 rfl ?_
    refine W.castore ok (pc' := 567) (cl' := (true, [])) A532 (by decide) (Nat.le_of_ble_eq_true rfl) (List.mem_cons_self ..) (Or.inr z518) (fun q => ⟨q, z518⟩) rfl d_method_4_566 rfl (fun h533 Wr534 A535 => ?_)
    replace A535 := A535.cast (cs' := [x0, x1, x2, 0, 0, 0, 0, 0, 0, 0, 0]) (by rw [c16_of ⟨(hr x2 (by simp)).1, by have := (hr x2 (by simp)).2; omega⟩]; rfl)
    refine W.dup ok (pc' := 568) d_method_4_567 rfl rfl ?_
    refine W.iconst ok (pc' := 569) (3 : Int32) d_method_4_568 rfl rfl ?_
    refine W.aloadN ok (pc' := 570) d_method_4_569 rfl rfl rfl ?_
    refine W.iconst ok (pc' := 571) (3 : Int32) d_method_4_570 rfl rfl ?_
    refine W.caload ok (pc' := 572) (((((A.ext E512).ext E520).other Wr528 nch526).other Wr531 nch526).other Wr534 nch526) x3 (by decide) rfl d_method_4_571 rfl ?_
    refine W.castore ok (pc' := 573) (cl' := (true, [])) A535 (by decide) (Nat.le_of_ble_eq_true rfl) (List.mem_cons_self ..) (Or.inr z518) (fun q => ⟨q, z518⟩) rfl d_method_4_572 rfl (fun h536 Wr537 A538 => ?_)
    replace A538 := A538.cast (cs' := [x0, x1, x2, x3, 0, 0, 0, 0, 0, 0, 0]) (by rw [c16_of ⟨(hr x3 (by simp)).1, by have := (hr x3 (by simp)).2; omega⟩]; rfl)
    refine W.dup ok (pc' := 574) d_method_4_573 rfl rfl ?_
    refine W.iconst ok (pc' := 575) (4 : Int32) d_method_4_574 rfl rfl ?_
    refine W.aloadN ok (pc' := 576) d_method_4_575 rfl rfl rfl ?_
    refine W.iconst ok (pc' := 577) (4 : Int32) d_method_4_576 rfl rfl ?_
    refine W.caload ok (pc' := 578) ((((((A.ext E512).ext E520).other Wr528 nch526).other Wr531 nch526).other Wr534 nch526).other Wr537 nch526) x4 (by decide) rfl d_method_4_577 rfl ?_
    refine W.castore ok (pc' := 579) (cl' := (true, [])) A538 (by decide) (Nat.le_of_ble_eq_true rfl) (List.mem_cons_self ..) (Or.inr z518) (fun q => ⟨q, z518⟩) rfl d_method_4_578 rfl (fun h539 Wr540 A541 => ?_)
    replace A541 := A541.cast (cs' := [x0, x1, x2, x3, x4, 0, 0, 0, 0, 0, 0]) (by rw [c16_of ⟨(hr x4 (by simp)).1, by have := (hr x4 (by simp)).2; omega⟩]; rfl)
    refine W.dup ok (pc' := 580) d_method_4_579 rfl rfl ?_
    refine W.iconst ok (pc' := 581) (5 : Int32) d_method_4_580 rfl rfl ?_
    refine W.aloadN ok (pc' := 582) d_method_4_581 rfl rfl rfl ?_
    refine W.iconst ok (pc' := 583) (5 : Int32) d_method_4_582 rfl rfl ?_
    refine W.caload ok (pc' := 584) (((((((A.ext E512).ext E520).other Wr528 nch526).other Wr531 nch526).other Wr534 nch526).other Wr537 nch526).other Wr540 nch526) x5 (by decide) rfl d_method_4_583 rfl ?_
    refine W.castore ok (pc' := 585) (cl' := (true, [])) A541 (by decide) (Nat.le_of_ble_eq_true rfl) (List.mem_cons_self ..) (Or.inr z518) (fun q => ⟨q, z518⟩) rfl d_method_4_584 rfl (fun h542 Wr543 A544 => ?_)
    replace A544 := A544.cast (cs' := [x0, x1, x2, x3, x4, x5, 0, 0, 0, 0, 0]) (by rw [c16_of ⟨(hr x5 (by simp)).1, by have := (hr x5 (by simp)).2; omega⟩]; rfl)
    refine W.dup ok (pc' := 586) d_method_4_585 rfl rfl ?_
    refine W.bipush ok (pc' := 588) (6 : Int32) d_method_4_586 rfl rfl ?_
    refine W.aloadN ok (pc' := 589) d_method_4_588 rfl rfl rfl ?_
    refine W.bipush ok (pc' := 591) (6 : Int32) d_method_4_589 rfl rfl ?_
    refine W.caload ok (pc' := 592) ((((((((A.ext E512).ext E520).other Wr528 nch526).other Wr531 nch526).other Wr534 nch526).other Wr537 nch526).other Wr540 nch526).other Wr543 nch526) x6 (by decide) rfl d_method_4_591 rfl ?_
    refine W.castore ok (pc' := 593) (cl' := (true, [])) A544 (by decide) (Nat.le_of_ble_eq_true rfl) (List.mem_cons_self ..) (Or.inr z518) (fun q => ⟨q, z518⟩) rfl d_method_4_592 rfl (fun h545 Wr546 A547 => ?_)
    replace A547 := A547.cast (cs' := [x0, x1, x2, x3, x4, x5, x6, 0, 0, 0, 0]) (by rw [c16_of ⟨(hr x6 (by simp)).1, by have := (hr x6 (by simp)).2; omega⟩]; rfl)
    refine W.dup ok (pc' := 594) d_method_4_593 rfl rfl ?_
    refine W.bipush ok (pc' := 596) (7 : Int32) d_method_4_594 rfl rfl ?_
    refine W.aloadN ok (pc' := 597) d_method_4_596 rfl rfl rfl ?_
    refine W.bipush ok (pc' := 599) (7 : Int32) d_method_4_597 rfl rfl ?_
    refine W.caload ok (pc' := 600) (((((((((A.ext E512).ext E520).other Wr528 nch526).other Wr531 nch526).other Wr534 nch526).other Wr537 nch526).other Wr540 nch526).other Wr543 nch526).other Wr546 nch526) x7 (by decide) rfl d_method_4_599 rfl ?_
    refine W.castore ok (pc' := 601) (cl' := (true, [])) A547 (by decide) (Nat.le_of_ble_eq_true rfl) (List.mem_cons_self ..) (Or.inr z518) (fun q => ⟨q, z518⟩) rfl d_method_4_600 rfl (fun h548 Wr549 A550 => ?_)
    replace A550 := A550.cast (cs' := [x0, x1, x2, x3, x4, x5, x6, x7, 0, 0, 0]) (by rw [c16_of ⟨(hr x7 (by simp)).1, by have := (hr x7 (by simp)).2; omega⟩]; rfl)
    refine W.dup ok (pc' := 602) d_method_4_601 rfl rfl ?_
    refine W.bipush ok (pc' := 604) (8 : Int32) d_method_4_602 rfl rfl ?_
    refine W.aloadN ok (pc' := 605) d_method_4_604 rfl rfl rfl ?_
    refine W.bipush ok (pc' := 607) (8 : Int32) d_method_4_605 rfl rfl ?_
    refine W.caload ok (pc' := 608) ((((((((((A.ext E512).ext E520).other Wr528 nch526).other Wr531 nch526).other Wr534 nch526).other Wr537 nch526).other Wr540 nch526).other Wr543 nch526).other Wr546 nch526).other Wr549 nch526) x8 (by decide) rfl d_method_4_607 rfl ?_
    refine W.castore ok (pc' := 609) (cl' := (true, [])) A550 (by decide) (Nat.le_of_ble_eq_true rfl) (List.mem_cons_self ..) (Or.inr z518) (fun q => ⟨q, z518⟩) rfl d_method_4_608 rfl (fun h551 Wr552 A553 => ?_)
    replace A553 := A553.cast (cs' := [x0, x1, x2, x3, x4, x5, x6, x7, x8, 0, 0]) (by rw [c16_of ⟨(hr x8 (by simp)).1, by have := (hr x8 (by simp)).2; omega⟩]; rfl)
    refine W.dup ok (pc' := 610) d_method_4_609 rfl rfl ?_
    refine W.bipush ok (pc' := 612) (9 : Int32) d_method_4_610 rfl rfl ?_
    refine W.aloadN ok (pc' := 613) d_method_4_612 rfl rfl rfl ?_
    refine W.bipush ok (pc' := 615) (9 : Int32) d_method_4_613 rfl rfl ?_
    refine W.caload ok (pc' := 616) (((((((((((A.ext E512).ext E520).other Wr528 nch526).other Wr531 nch526).other Wr534 nch526).other Wr537 nch526).other Wr540 nch526).other Wr543 nch526).other Wr546 nch526).other Wr549 nch526).other Wr552 nch526) x9 (by decide) rfl d_method_4_615 rfl ?_
    refine W.castore ok (pc' := 617) (cl' := (true, [])) A553 (by decide) (Nat.le_of_ble_eq_true rfl) (List.mem_cons_self ..) (Or.inr z518) (fun q => ⟨q, z518⟩) rfl d_method_4_616 rfl (fun h554 Wr555 A556 => ?_)
    replace A556 := A556.cast (cs' := [x0, x1, x2, x3, x4, x5, x6, x7, x8, x9, 0]) (by rw [c16_of ⟨(hr x9 (by simp)).1, by have := (hr x9 (by simp)).2; omega⟩]; rfl)
    refine W.dup ok (pc' := 618) d_method_4_617 rfl rfl ?_
    refine W.bipush ok (pc' := 620) (10 : Int32) d_method_4_618 rfl rfl ?_
    refine W.aloadN ok (pc' := 621) d_method_4_620 rfl rfl rfl ?_
    refine W.bipush ok (pc' := 623) (10 : Int32) d_method_4_621 rfl rfl ?_
    refine W.caload ok (pc' := 624) ((((((((((((A.ext E512).ext E520).other Wr528 nch526).other Wr531 nch526).other Wr534 nch526).other Wr537 nch526).other Wr540 nch526).other Wr543 nch526).other Wr546 nch526).other Wr549 nch526).other Wr552 nch526).other Wr555 nch526) x10 (by decide) rfl d_method_4_623 rfl ?_
    refine W.castore ok (pc' := 625) (cl' := (true, [])) A556 (by decide) (Nat.le_of_ble_eq_true rfl) (List.mem_cons_self ..) (Or.inr z518) (fun q => ⟨q, z518⟩) rfl d_method_4_624 rfl (fun h557 Wr558 A559 => ?_)
    replace A559 := A559.cast (cs' := [x0, x1, x2, x3, x4, x5, x6, x7, x8, x9, x10]) (by rw [c16_of ⟨(hr x10 (by simp)).1, by have := (hr x10 (by simp)).2; omega⟩]; rfl)
    refine W.callI ok (rest := [(.ref a508)]) (cl' := (true, [])) (pc' := 628) rfl (w11 hw) (w12 hw) (w10 hw) (w13 hw) (by decide) pd_5 rfl (k_initC l Z a0 hE a508 a516 [x0, x1, x2, x3, x4, x5, x6, x7, x8, x9, x10] h557 ((((((((((((X513.ext E520).wr Wr528).wr Wr531).wr Wr534).wr Wr537).wr Wr540).wr Wr543).wr Wr546).wr Wr549).wr Wr552).wr Wr555).wr Wr558) (((((((((((((D514 (Or.inr (w23 hw)) (ty := (.array .byte)) (by decide)).ext E520).other Wr528 (Or.inl nab525)).other Wr531 (Or.inl nab525)).other Wr534 (Or.inl nab525)).other Wr537 (Or.inl nab525)).other Wr540 (Or.inl nab525)).other Wr543 (Or.inl nab525)).other Wr546 (Or.inl nab525)).other Wr549 (Or.inl nab525)).other Wr552 (Or.inl nab525)).other Wr555 (Or.inl nab525)).other Wr558 (Or.inl nab525)) (((((((((((((D514 (Or.inr (w24 hw)) (ty := .byte) (by decide)).ext E520).other Wr528 (Or.inl nab525)).other Wr531 (Or.inl nab525)).other Wr534 (Or.inl nab525)).other Wr537 (Or.inl nab525)).other Wr540 (Or.inl nab525)).other Wr543 (Or.inl nab525)).other Wr546 (Or.inl nab525)).other Wr549 (Or.inl nab525)).other Wr552 (Or.inl nab525)).other Wr555 (Or.inl nab525)).other Wr558 (Or.inl nab525)) A559 (by simp) (fun c hc => (hr c (List.mem_of_mem_take (i := 11) hc)).2)) (fun w q => by simp only [List.mem_cons, List.not_mem_nil, or_false] at q; subst q; exact ⟨(List.mem_cons_of_mem _ (List.mem_cons_self ..)), (Or.inr z510)⟩) (fun q => ⟨q, fun w q => by simp only [List.mem_cons, List.not_mem_nil, or_false] at q; subst q; exact z510⟩) rfl rfl (Nat.le_of_ble_eq_true rfl) (Nat.le_of_ble_eq_true rfl) (Nat.le_of_ble_eq_true rfl) (Nat.le_of_ble_eq_true rfl) d_method_4_625 rfl rfl (fun v h568 hq K569 => ?_)
    obtain ⟨rfl, t560, cd561, bs562, q563, q564, q565, q566, q567⟩ := hq
    show W B h568 6 28 (a516 :: a508 :: M) (true, []) 628 #[.val (.ref ch), .val (.int ((11 : Nat).toInt32))] [(.ref a508)]
    have E570 := ExtK (ExtW (ExtW (ExtW (ExtW (ExtW (ExtW (ExtW (ExtW (ExtW (ExtW (ExtW (ExtT E512 E520) Wr528 (by omega)) Wr531 (by omega)) Wr534 (by omega)) Wr537 (by omega)) Wr540 (by omega)) Wr543 (by omega)) Wr546 (by omega)) Wr549 (by omega)) Wr552 (by omega)) Wr555 (by omega)) Wr558 (by omega)) K569 (by simp; omega)
    have S1 : StrM Z h568 M a508 [x0, x1, x2, x3, x4, x5, x6, x7, x8, x9, x10] := ⟨t560, cd561, bs562, fun z => absurd (hM507 _ z) (by omega), fun z => q563 (List.mem_cons_of_mem _ (List.mem_cons_of_mem _ z)), (((((((((((((X513.ext E520).wr Wr528).wr Wr531).wr Wr534).wr Wr537).wr Wr540).wr Wr543).wr Wr546).wr Wr549).wr Wr552).wr Wr555).wr Wr558).keep K569), q564, q565, q566, q567⟩
    refine W.drop (M' := M) (fun x z => (List.mem_cons_of_mem _ (List.mem_cons_of_mem _ z))) ?_
    exact W.retA ok d_method_4_628 rfl rfl (Nat.le_of_ble_eq_true rfl) (Nat.le_of_ble_eq_true rfl) (fun x (q : x ∈ M) => q) (fun kp => ⟨a508, rfl, Nat.le_of_eq ea511, S1⟩)
  · refine W.iloadN ok (pc' := 1) d_method_4_0 rfl rfl ?_
    refine W.ifne ok (pcY := 15) (pcN := 4) d_method_4_1 rfl (by decide) rfl (fun q => absurd q (by decide)) (fun _ => ?_)
    refine W.iloadN ok (pc' := 16) d_method_4_15 rfl rfl ?_
    refine W.iconst ok (pc' := 17) (1 : Int32) d_method_4_16 rfl rfl ?_
    refine W.icmpne ok (pcY := 37) (pcN := 20) d_method_4_17 rfl (by decide) rfl (fun q => absurd q (by decide)) (fun _ => ?_)
    refine W.iloadN ok (pc' := 38) d_method_4_37 rfl rfl ?_
    refine W.iconst ok (pc' := 39) (2 : Int32) d_method_4_38 rfl rfl ?_
    refine W.icmpne ok (pcY := 65) (pcN := 42) d_method_4_39 rfl (by decide) rfl (fun q => absurd q (by decide)) (fun _ => ?_)
    refine W.iloadN ok (pc' := 66) d_method_4_65 rfl rfl ?_
    refine W.iconst ok (pc' := 67) (3 : Int32) d_method_4_66 rfl rfl ?_
    refine W.icmpne ok (pcY := 99) (pcN := 70) d_method_4_67 rfl (by decide) rfl (fun q => absurd q (by decide)) (fun _ => ?_)
    refine W.iloadN ok (pc' := 100) d_method_4_99 rfl rfl ?_
    refine W.iconst ok (pc' := 101) (4 : Int32) d_method_4_100 rfl rfl ?_
    refine W.icmpne ok (pcY := 139) (pcN := 104) d_method_4_101 rfl (by decide) rfl (fun q => absurd q (by decide)) (fun _ => ?_)
    refine W.iloadN ok (pc' := 140) d_method_4_139 rfl rfl ?_
    refine W.iconst ok (pc' := 141) (5 : Int32) d_method_4_140 rfl rfl ?_
    refine W.icmpne ok (pcY := 185) (pcN := 144) d_method_4_141 rfl (by decide) rfl (fun q => absurd q (by decide)) (fun _ => ?_)
    refine W.iloadN ok (pc' := 186) d_method_4_185 rfl rfl ?_
    refine W.bipush ok (pc' := 188) (6 : Int32) d_method_4_186 rfl rfl ?_
    refine W.icmpne ok (pcY := 239) (pcN := 191) d_method_4_188 rfl (by decide) rfl (fun q => absurd q (by decide)) (fun _ => ?_)
    refine W.iloadN ok (pc' := 240) d_method_4_239 rfl rfl ?_
    refine W.bipush ok (pc' := 242) (7 : Int32) d_method_4_240 rfl rfl ?_
    refine W.icmpne ok (pcY := 301) (pcN := 245) d_method_4_242 rfl (by decide) rfl (fun q => absurd q (by decide)) (fun _ => ?_)
    refine W.iloadN ok (pc' := 302) d_method_4_301 rfl rfl ?_
    refine W.bipush ok (pc' := 304) (8 : Int32) d_method_4_302 rfl rfl ?_
    refine W.icmpne ok (pcY := 371) (pcN := 307) d_method_4_304 rfl (by decide) rfl (fun q => absurd q (by decide)) (fun _ => ?_)
    refine W.iloadN ok (pc' := 372) d_method_4_371 rfl rfl ?_
    refine W.bipush ok (pc' := 374) (9 : Int32) d_method_4_372 rfl rfl ?_
    refine W.icmpne ok (pcY := 449) (pcN := 377) d_method_4_374 rfl (by decide) rfl (fun q => absurd q (by decide)) (fun _ => ?_)
    refine W.iloadN ok (pc' := 450) d_method_4_449 rfl rfl ?_
    refine W.bipush ok (pc' := 452) (10 : Int32) d_method_4_450 rfl rfl ?_
    refine W.icmpne ok (pcY := 535) (pcN := 455) d_method_4_452 rfl (by decide) rfl (fun q => absurd q (by decide)) (fun _ => ?_)
    refine W.iloadN ok (pc' := 536) d_method_4_535 rfl rfl ?_
    refine W.bipush ok (pc' := 538) (11 : Int32) d_method_4_536 rfl rfl ?_
    refine W.icmpne ok (pcY := 629) (pcN := 541) d_method_4_538 rfl (by decide) rfl (fun q => absurd q (by decide)) (fun _ => ?_)
    refine W.iloadN ok (pc' := 630) d_method_4_629 rfl rfl ?_
    refine W.bipush ok (pc' := 632) (12 : Int32) d_method_4_630 rfl rfl ?_
    refine W.icmpne ok (pcY := 731) (pcN := 635) d_method_4_632 rfl (by decide) rfl (fun _ => ?_) (fun q => absurd (by decide) q)
    refine W.lt fun hM571 => ?_
    refine W.new ok (pc' := 638) (w8 hw) (w9 hw) (w10 hw) d_method_4_635 rfl (Nat.le_of_ble_eq_true rfl) (Nat.le_of_ble_eq_true rfl) (fun a572 h573 z574 ea575 E576 X577 D578 U579 => ?_)
    refine W.dup ok (pc' := 639) d_method_4_638 rfl rfl ?_
    refine W.bipush ok (pc' := 641) (12 : Int32) d_method_4_639 rfl rfl ?_
    refine W.newC ok (pc' := 643) (cap := 12) (w0 hw) (by decide) (by decide) (by decide) d_method_4_641 rfl (Nat.le_of_ble_eq_true rfl) (Nat.le_of_ble_eq_true rfl) (fun a580 h581 z582 ea583 E584 A585 => ?_)
    replace A585 := A585.cast (cs' := [0, 0, 0, 0, 0, 0, 0, 0, 0, 0, 0, 0]) rfl
    have l586 := gtE X577
    have l587 := E576.1
    have l588 := E584.1
    have nab589 : a572 ≠ a580 := ane (by omega)
    have nch590 : ch ≠ a580 := ane (by omega)
    refine W.dup ok (pc' := 644) d_method_4_643 rfl rfl ?_
    refine W.iconst ok (pc' := 645) (0 : Int32) d_method_4_644 rfl rfl ?_
    refine W.aloadN ok (pc' := 646) d_method_4_645 rfl rfl rfl ?_
    refine W.iconst ok (pc' := 647) (0 : Int32) d_method_4_646 rfl rfl ?_
    refine W.caload ok (pc' := 648) ((A.ext E576).ext E584) x0 (by decide) rfl d_method_4_647 rfl ?_
    refine W.castore ok (pc' := 649) (cl' := (true, [])) A585 (by decide) (Nat.le_of_ble_eq_true rfl) (List.mem_cons_self ..) (Or.inr z582) (fun q => ⟨q, z582⟩) rfl d_method_4_648 rfl (fun h591 Wr592 A593 => ?_)
    replace A593 := A593.cast (cs' := [x0, 0, 0, 0, 0, 0, 0, 0, 0, 0, 0, 0]) (by rw [c16_of ⟨(hr x0 (by simp)).1, by have := (hr x0 (by simp)).2; omega⟩]; rfl)
    refine W.dup ok (pc' := 650) d_method_4_649 rfl rfl ?_
    refine W.iconst ok (pc' := 651) (1 : Int32) d_method_4_650 rfl rfl ?_
    refine W.aloadN ok (pc' := 652) d_method_4_651 rfl rfl rfl ?_
    refine W.iconst ok (pc' := 653) (1 : Int32) d_method_4_652 rfl rfl ?_
    refine W.caload ok (pc' := 654) (((A.ext E576).ext E584).other Wr592 nch590) x1 (by decide) rfl d_method_4_653 rfl ?_
    refine W.castore ok (pc' := 655) (cl' := (true, [])) A593 (by decide) (Nat.le_of_ble_eq_true rfl) (List.mem_cons_self ..) (Or.inr z582) (fun q => ⟨q, z582⟩) rfl d_method_4_654 rfl (fun h594 Wr595 A596 => ?_)
    replace A596 := A596.cast (cs' := [x0, x1, 0, 0, 0, 0, 0, 0, 0, 0, 0, 0]) (by rw [c16_of ⟨(hr x1 (by simp)).1, by have := (hr x1 (by simp)).2; omega⟩]; rfl)
    refine W.dup ok (pc' := 656) d_method_4_655 rfl rfl ?_
    refine W.iconst ok (pc' := 657) (2 : Int32) d_method_4_656 rfl rfl ?_
    refine W.aloadN ok (pc' := 658) d_method_4_657 rfl rfl rfl ?_
    refine W.iconst ok (pc' := 659) (2 : Int32) d_method_4_658 rfl rfl ?_
    refine W.caload ok (pc' := 660) ((((A.ext E576).ext E584).other Wr592 nch590).other Wr595 nch590) x2 (by decide) rfl d_method_4_659 rfl ?_
    refine W.castore ok (pc' := 661) (cl' := (true, [])) A596 (by decide) (Nat.le_of_ble_eq_true rfl) (List.mem_cons_self ..) (Or.inr z582) (fun q => ⟨q, z582⟩) rfl d_method_4_660 rfl (fun h597 Wr598 A599 => ?_)
    replace A599 := A599.cast (cs' := [x0, x1, x2, 0, 0, 0, 0, 0, 0, 0, 0, 0]) (by rw [c16_of ⟨(hr x2 (by simp)).1, by have := (hr x2 (by simp)).2; omega⟩]; rfl)
    refine W.dup ok (pc' := 662) d_method_4_661 rfl rfl ?_
    refine W.iconst ok (pc' := 663) (3 : Int32) d_method_4_662 rfl rfl ?_
    refine W.aloadN ok (pc' := 664) d_method_4_663 rfl rfl rfl ?_
    refine W.iconst ok (pc' := 665) (3 : Int32) d_method_4_664 rfl rfl ?_
    refine W.caload ok (pc' := 666) (((((A.ext E576).ext E584).other Wr592 nch590).other Wr595 nch590).other Wr598 nch590) x3 (by decide) rfl d_method_4_665 rfl ?_
    refine W.castore ok (pc' := 667) (cl' := (true, [])) A599 (by decide) (Nat.le_of_ble_eq_true rfl) (List.mem_cons_self ..) (Or.inr z582) (fun q => ⟨q, z582⟩) rfl d_method_4_666 rfl (fun h600 Wr601 A602 => ?_)
    replace A602 := A602.cast (cs' := [x0, x1, x2, x3, 0, 0, 0, 0, 0, 0, 0, 0]) (by rw [c16_of ⟨(hr x3 (by simp)).1, by have := (hr x3 (by simp)).2; omega⟩]; rfl)
    refine W.dup ok (pc' := 668) d_method_4_667 rfl rfl ?_
    refine W.iconst ok (pc' := 669) (4 : Int32) d_method_4_668 rfl rfl ?_
    refine W.aloadN ok (pc' := 670) d_method_4_669 rfl rfl rfl ?_
    refine W.iconst ok (pc' := 671) (4 : Int32) d_method_4_670 rfl rfl ?_
    refine W.caload ok (pc' := 672) ((((((A.ext E576).ext E584).other Wr592 nch590).other Wr595 nch590).other Wr598 nch590).other Wr601 nch590) x4 (by decide) rfl d_method_4_671 rfl ?_
    refine W.castore ok (pc' := 673) (cl' := (true, [])) A602 (by decide) (Nat.le_of_ble_eq_true rfl) (List.mem_cons_self ..) (Or.inr z582) (fun q => ⟨q, z582⟩) rfl d_method_4_672 rfl (fun h603 Wr604 A605 => ?_)
    replace A605 := A605.cast (cs' := [x0, x1, x2, x3, x4, 0, 0, 0, 0, 0, 0, 0]) (by rw [c16_of ⟨(hr x4 (by simp)).1, by have := (hr x4 (by simp)).2; omega⟩]; rfl)
    refine W.dup ok (pc' := 674) d_method_4_673 rfl rfl ?_
    refine W.iconst ok (pc' := 675) (5 : Int32) d_method_4_674 rfl rfl ?_
    refine W.aloadN ok (pc' := 676) d_method_4_675 rfl rfl rfl ?_
    refine W.iconst ok (pc' := 677) (5 : Int32) d_method_4_676 rfl rfl ?_
    refine W.caload ok (pc' := 678) (((((((A.ext E576).ext E584).other Wr592 nch590).other Wr595 nch590).other Wr598 nch590).other Wr601 nch590).other Wr604 nch590) x5 (by decide) rfl d_method_4_677 rfl ?_
    refine W.castore ok (pc' := 679) (cl' := (true, [])) A605 (by decide) (Nat.le_of_ble_eq_true rfl) (List.mem_cons_self ..) (Or.inr z582) (fun q => ⟨q, z582⟩) rfl d_method_4_678 rfl (fun h606 Wr607 A608 => ?_)
    replace A608 := A608.cast (cs' := [x0, x1, x2, x3, x4, x5, 0, 0, 0, 0, 0, 0]) (by rw [c16_of ⟨(hr x5 (by simp)).1, by have := (hr x5 (by simp)).2; omega⟩]; rfl)
    refine W.dup ok (pc' := 680) d_method_4_679 rfl rfl ?_
    refine W.bipush ok (pc' := 682) (6 : Int32) d_method_4_680 rfl rfl ?_
    refine W.aloadN ok (pc' := 683) d_method_4_682 rfl rfl rfl ?_
    refine W.bipush ok (pc' := 685) (6 : Int32) d_method_4_683 rfl rfl ?_
    refine W.caload ok (pc' := 686) ((((((((A.ext E576).ext E584).other Wr592 nch590).other Wr595 nch590).other Wr598 nch590).other Wr601 nch590).other Wr604 nch590).other Wr607 nch590) x6 (by decide) rfl d_method_4_685 rfl ?_
    refine W.castore ok (pc' := 687) (cl' := (true, [])) A608 (by decide) (Nat.le_of_ble_eq_true rfl) (List.mem_cons_self ..) (Or.inr z582) (fun q => ⟨q, z582⟩) rfl d_method_4_686 rfl (fun h609 Wr610 A611 => ?_)
    replace A611 := A611.cast (cs' := [x0, x1, x2, x3, x4, x5, x6, 0, 0, 0, 0, 0]) (by rw [c16_of ⟨(hr x6 (by simp)).1, by have := (hr x6 (by simp)).2; omega⟩]; rfl)
    refine W.dup ok (pc' := 688) d_method_4_687 rfl rfl ?_
    refine W.bipush ok (pc' := 690) (7 : Int32) d_method_4_688 rfl rfl ?_
    refine W.aloadN ok (pc' := 691) d_method_4_690 rfl rfl rfl ?_
    refine W.bipush ok (pc' := 693) (7 : Int32) d_method_4_691 rfl rfl ?_
    refine W.caload ok (pc' := 694) (((((((((A.ext E576).ext E584).other Wr592 nch590).other Wr595 nch590).other Wr598 nch590).other Wr601 nch590).other Wr604 nch590).other Wr607 nch590).other Wr610 nch590) x7 (by decide) rfl d_method_4_693 rfl ?_
    refine W.castore ok (pc' := 695) (cl' := (true, [])) A611 (by decide) (Nat.le_of_ble_eq_true rfl) (List.mem_cons_self ..) (Or.inr z582) (fun q => ⟨q, z582⟩) rfl d_method_4_694 rfl (fun h612 Wr613 A614 => ?_)
    replace A614 := A614.cast (cs' := [x0, x1, x2, x3, x4, x5, x6, x7, 0, 0, 0, 0]) (by rw [c16_of ⟨(hr x7 (by simp)).1, by have := (hr x7 (by simp)).2; omega⟩]; rfl)
    refine W.dup ok (pc' := 696) d_method_4_695 rfl rfl ?_
    refine W.bipush ok (pc' := 698) (8 : Int32) d_method_4_696 rfl rfl ?_
    refine W.aloadN ok (pc' := 699) d_method_4_698 rfl rfl rfl ?_
    refine W.bipush ok (pc' := 701) (8 : Int32) d_method_4_699 rfl rfl ?_
    refine W.caload ok (pc' := 702) ((((((((((A.ext E576).ext E584).other Wr592 nch590).other Wr595 nch590).other Wr598 nch590).other Wr601 nch590).other Wr604 nch590).other Wr607 nch590).other Wr610 nch590).other Wr613 nch590) x8 (by decide) rfl d_method_4_701 rfl ?_
    refine W.castore ok (pc' := 703) (cl' := (true, [])) A614 (by decide) (Nat.le_of_ble_eq_true rfl) (List.mem_cons_self ..) (Or.inr z582) (fun q => ⟨q, z582⟩) rfl d_method_4_702 rfl (fun h615 Wr616 A617 => ?_)
    replace A617 := A617.cast (cs' := [x0, x1, x2, x3, x4, x5, x6, x7, x8, 0, 0, 0]) (by rw [c16_of ⟨(hr x8 (by simp)).1, by have := (hr x8 (by simp)).2; omega⟩]; rfl)
    refine W.dup ok (pc' := 704) d_method_4_703 rfl rfl ?_
    refine W.bipush ok (pc' := 706) (9 : Int32) d_method_4_704 rfl rfl ?_
    refine W.aloadN ok (pc' := 707) d_method_4_706 rfl rfl rfl ?_
    refine W.bipush ok (pc' := 709) (9 : Int32) d_method_4_707 rfl rfl ?_
    refine W.caload ok (pc' := 710) (((((((((((A.ext E576).ext E584).other Wr592 nch590).other Wr595 nch590).other Wr598 nch590).other Wr601 nch590).other Wr604 nch590).other Wr607 nch590).other Wr610 nch590).other Wr613 nch590).other Wr616 nch590) x9 (by decide) rfl d_method_4_709 rfl ?_
    refine W.castore ok (pc' := 711) (cl' := (true, [])) A617 (by decide) (Nat.le_of_ble_eq_true rfl) (List.mem_cons_self ..) (Or.inr z582) (fun q => ⟨q, z582⟩) rfl d_method_4_710 rfl (fun h618 Wr619 A620 => ?_)
    replace A620 := A620.cast (cs' := [x0, x1, x2, x3, x4, x5, x6, x7, x8, x9, 0, 0]) (by rw [c16_of ⟨(hr x9 (by simp)).1, by have := (hr x9 (by simp)).2; omega⟩]; rfl)
    refine W.dup ok (pc' := 712) d_method_4_711 rfl rfl ?_
    refine W.bipush ok (pc' := 714) (10 : Int32) d_method_4_712 rfl rfl ?_
    refine W.aloadN ok (pc' := 715) d_method_4_714 rfl rfl rfl ?_
    refine W.bipush ok (pc' := 717) (10 : Int32) d_method_4_715 rfl rfl ?_
    refine W.caload ok (pc' := 718) ((((((((((((A.ext E576).ext E584).other Wr592 nch590).other Wr595 nch590).other Wr598 nch590).other Wr601 nch590).other Wr604 nch590).other Wr607 nch590).other Wr610 nch590).other Wr613 nch590).other Wr616 nch590).other Wr619 nch590) x10 (by decide) rfl d_method_4_717 rfl ?_
    refine W.castore ok (pc' := 719) (cl' := (true, [])) A620 (by decide) (Nat.le_of_ble_eq_true rfl) (List.mem_cons_self ..) (Or.inr z582) (fun q => ⟨q, z582⟩) rfl d_method_4_718 rfl (fun h621 Wr622 A623 => ?_)
    replace A623 := A623.cast (cs' := [x0, x1, x2, x3, x4, x5, x6, x7, x8, x9, x10, 0]) (by rw [c16_of ⟨(hr x10 (by simp)).1, by have := (hr x10 (by simp)).2; omega⟩]; rfl)
    refine W.dup ok (pc' := 720) d_method_4_719 rfl rfl ?_
    refine W.bipush ok (pc' := 722) (11 : Int32) d_method_4_720 rfl rfl ?_
    refine W.aloadN ok (pc' := 723) d_method_4_722 rfl rfl rfl ?_
    refine W.bipush ok (pc' := 725) (11 : Int32) d_method_4_723 rfl rfl ?_
    refine W.caload ok (pc' := 726) (((((((((((((A.ext E576).ext E584).other Wr592 nch590).other Wr595 nch590).other Wr598 nch590).other Wr601 nch590).other Wr604 nch590).other Wr607 nch590).other Wr610 nch590).other Wr613 nch590).other Wr616 nch590).other Wr619 nch590).other Wr622 nch590) x11 (by decide) rfl d_method_4_725 rfl ?_
    refine W.castore ok (pc' := 727) (cl' := (true, [])) A623 (by decide) (Nat.le_of_ble_eq_true rfl) (List.mem_cons_self ..) (Or.inr z582) (fun q => ⟨q, z582⟩) rfl d_method_4_726 rfl (fun h624 Wr625 A626 => ?_)
    replace A626 := A626.cast (cs' := [x0, x1, x2, x3, x4, x5, x6, x7, x8, x9, x10, x11]) (by rw [c16_of ⟨(hr x11 (by simp)).1, by have := (hr x11 (by simp)).2; omega⟩]; rfl)
    refine W.callI ok (rest := [(.ref a572)]) (cl' := (true, [])) (pc' := 730) rfl (w11 hw) (w12 hw) (w10 hw) (w13 hw) (by decide) pd_5 rfl (k_initC l Z a0 hE a572 a580 [x0, x1, x2, x3, x4, x5, x6, x7, x8, x9, x10, x11] h624 (((((((((((((X577.ext E584).wr Wr592).wr Wr595).wr Wr598).wr Wr601).wr Wr604).wr Wr607).wr Wr610).wr Wr613).wr Wr616).wr Wr619).wr Wr622).wr Wr625) ((((((((((((((D578 (Or.inr (w23 hw)) (ty := (.array .byte)) (by decide)).ext E584).other Wr592 (Or.inl nab589)).other Wr595 (Or.inl nab589)).other Wr598 (Or.inl nab589)).other Wr601 (Or.inl nab589)).other Wr604 (Or.inl nab589)).other Wr607 (Or.inl nab589)).other Wr610 (Or.inl nab589)).other Wr613 (Or.inl nab589)).other Wr616 (Or.inl nab589)).other Wr619 (Or.inl nab589)).other Wr622 (Or.inl nab589)).other Wr625 (Or.inl nab589)) ((((((((((((((D578 (Or.inr (w24 hw)) (ty := .byte) (by decide)).ext E584).other Wr592 (Or.inl nab589)).other Wr595 (Or.inl nab589)).other Wr598 (Or.inl nab589)).other Wr601 (Or.inl nab589)).other Wr604 (Or.inl nab589)).other Wr607 (Or.inl nab589)).other Wr610 (Or.inl nab589)).other Wr613 (Or.inl nab589)).other Wr616 (Or.inl nab589)).other Wr619 (Or.inl nab589)).other Wr622 (Or.inl nab589)).other Wr625 (Or.inl nab589)) A626 (by simp) (fun c hc => (hr c (List.mem_of_mem_take (i := 12) hc)).2)) (fun w q => by simp only [List.mem_cons, List.not_mem_nil, or_false] at q; subst q; exact ⟨(List.mem_cons_of_mem _ (List.mem_cons_self ..)), (Or.inr z574)⟩) (fun q => ⟨q, fun w q => by simp only [List.mem_cons, List.not_mem_nil, or_false] at q; subst q; exact z574⟩) rfl rfl (Nat.le_of_ble_eq_true rfl) (Nat.le_of_ble_eq_true rfl) (Nat.le_of_ble_eq_true rfl) (Nat.le_of_ble_eq_true rfl) d_method_4_727 rfl rfl (fun v h635 hq K636 => ?_)
    obtain ⟨rfl, t627, cd628, bs629, q630, q631, q632, q633, q634⟩ := hq
    show W B h635 6 29 (a580 :: a572 :: M) (true, []) 730 #[.val (.ref ch), .val (.int ((12 : Nat).toInt32))] [(.ref a572)]
    have E637 := ExtK (ExtW (ExtW (ExtW (ExtW (ExtW (ExtW (ExtW (ExtW (ExtW (ExtW (ExtW (ExtW (ExtT E576 E584) Wr592 (by omega)) Wr595 (by omega)) Wr598 (by omega)) Wr601 (by omega)) Wr604 (by omega)) Wr607 (by omega)) Wr610 (by omega)) Wr613 (by omega)) Wr616 (by omega)) Wr619 (by omega)) Wr622 (by omega)) Wr625 (by omega)) K636 (by simp; omega)
    have S1 : StrM Z h635 M a572 [x0, x1, x2, x3, x4, x5, x6, x7, x8, x9, x10, x11] := ⟨t627, cd628, bs629, fun z => absurd (hM571 _ z) (by omega), fun z => q630 (List.mem_cons_of_mem _ (List.mem_cons_of_mem _ z)), ((((((((((((((X577.ext E584).wr Wr592).wr Wr595).wr Wr598).wr Wr601).wr Wr604).wr Wr607).wr Wr610).wr Wr613).wr Wr616).wr Wr619).wr Wr622).wr Wr625).keep K636), q631, q632, q633, q634⟩
    refine W.drop (M' := M) (fun x z => (List.mem_cons_of_mem _ (List.mem_cons_of_mem _ z))) ?_
    exact W.retA ok d_method_4_730 rfl rfl (Nat.le_of_ble_eq_true rfl) (Nat.le_of_ble_eq_true rfl) (fun x (q : x ∈ M) => q) (fun kp => ⟨a572, rfl, Nat.le_of_eq ea575, S1⟩)
  · refine W.iloadN ok (pc' := 1) d_method_4_0 rfl rfl ?_
    refine W.ifne ok (pcY := 15) (pcN := 4) d_method_4_1 rfl (by decide) rfl (fun q => absurd q (by decide)) (fun _ => ?_)
    refine W.iloadN ok (pc' := 16) d_method_4_15 rfl rfl ?_
    refine W.iconst ok (pc' := 17) (1 : Int32) d_method_4_16 rfl rfl ?_
    refine W.icmpne ok (pcY := 37) (pcN := 20) d_method_4_17 rfl (by decide) rfl (fun q => absurd q (by decide)) (fun _ => ?_)
    refine W.iloadN ok (pc' := 38) d_method_4_37 rfl rfl ?_
    refine W.iconst ok (pc' := 39) (2 : Int32) d_method_4_38 rfl rfl ?_
    refine W.icmpne ok (pcY := 65) (pcN := 42) d_method_4_39 rfl (by decide) rfl (fun q => absurd q (by decide)) (fun _ => ?_)
    refine W.iloadN ok (pc' := 66) d_method_4_65 rfl rfl ?_
    refine W.iconst ok (pc' := 67) (3 : Int32) d_method_4_66 rfl rfl ?_
    refine W.icmpne ok (pcY := 99) (pcN := 70) d_method_4_67 rfl (by decide) rfl (fun q => absurd q (by decide)) (fun _ => ?_)
    refine W.iloadN ok (pc' := 100) d_method_4_99 rfl rfl ?_
    refine W.iconst ok (pc' := 101) (4 : Int32) d_method_4_100 rfl rfl ?_
    refine W.icmpne ok (pcY := 139) (pcN := 104) d_method_4_101 rfl (by decide) rfl (fun q => absurd q (by decide)) (fun _ => ?_)
    refine W.iloadN ok (pc' := 140) d_method_4_139 rfl rfl ?_
    refine W.iconst ok (pc' := 141) (5 : Int32) d_method_4_140 rfl rfl ?_
    refine W.icmpne ok (pcY := 185) (pcN := 144) d_method_4_141 rfl (by decide) rfl (fun q => absurd q (by decide)) (fun _ => ?_)
    refine W.iloadN ok (pc' := 186) d_method_4_185 rfl rfl ?_
    refine W.bipush ok (pc' := 188) (6 : Int32) d_method_4_186 rfl rfl ?_
    refine W.icmpne ok (pcY := 239) (pcN := 191) d_method_4_188 rfl (by decide) rfl (fun q => absurd q (by decide)) (fun _ => ?_)
    refine W.iloadN ok (pc' := 240) d_method_4_239 rfl rfl ?_
    refine W.bipush ok (pc' := 242) (7 : Int32) d_method_4_240 rfl rfl ?_
    refine W.icmpne ok (pcY := 301) (pcN := 245) d_method_4_242 rfl (by decide) rfl (fun q => absurd q (by decide)) (fun _ => ?_)
    refine W.iloadN ok (pc' := 302) d_method_4_301 rfl rfl ?_
    refine W.bipush ok (pc' := 304) (8 : Int32) d_method_4_302 rfl rfl ?_
    refine W.icmpne ok (pcY := 371) (pcN := 307) d_method_4_304 rfl (by decide) rfl (fun q => absurd q (by decide)) (fun _ => ?_)
    refine W.iloadN ok (pc' := 372) d_method_4_371 rfl rfl ?_
    refine W.bipush ok (pc' := 374) (9 : Int32) d_method_4_372 rfl rfl ?_
    refine W.icmpne ok (pcY := 449) (pcN := 377) d_method_4_374 rfl (by decide) rfl (fun q => absurd q (by decide)) (fun _ => ?_)
    refine W.iloadN ok (pc' := 450) d_method_4_449 rfl rfl ?_
    refine W.bipush ok (pc' := 452) (10 : Int32) d_method_4_450 rfl rfl ?_
    refine W.icmpne ok (pcY := 535) (pcN := 455) d_method_4_452 rfl (by decide) rfl (fun q => absurd q (by decide)) (fun _ => ?_)
    refine W.iloadN ok (pc' := 536) d_method_4_535 rfl rfl ?_
    refine W.bipush ok (pc' := 538) (11 : Int32) d_method_4_536 rfl rfl ?_
    refine W.icmpne ok (pcY := 629) (pcN := 541) d_method_4_538 rfl (by decide) rfl (fun q => absurd q (by decide)) (fun _ => ?_)
    refine W.iloadN ok (pc' := 630) d_method_4_629 rfl rfl ?_
    refine W.bipush ok (pc' := 632) (12 : Int32) d_method_4_630 rfl rfl ?_
    refine W.icmpne ok (pcY := 731) (pcN := 635) d_method_4_632 rfl (by decide) rfl (fun q => absurd q (by decide)) (fun _ => ?_)
    refine W.lt fun hM => ?_
    refine W.new ok (pc' := 734) (w8 hw) (w9 hw) (w10 hw) d_method_4_731 rfl (Nat.le_of_ble_eq_true rfl) (Nat.le_of_ble_eq_true rfl) (fun a638 h639 z640 ea641 E642 X643 D644 U645 => ?_)
    refine W.dup ok (pc' := 735) d_method_4_734 rfl rfl ?_
    refine W.aloadN ok (pc' := 736) d_method_4_735 rfl rfl rfl ?_
    have l1 := gtE X643
    refine W.callI ok (rest := [(.ref a638)]) (cl' := (true, [])) (pc' := 739) rfl (w11 hw) (w12 hw) (w10 hw) (w13 hw) (by decide) pd_5 rfl (k_initC l Z a0 hE a638 ch [x0, x1, x2, x3, x4, x5, x6, x7, x8, x9, x10, x11, x12] h639 X643 (D644 (Or.inr (w23 hw)) (ty := (.array .byte)) (by decide)) (D644 (Or.inr (w24 hw)) (ty := .byte) (by decide)) (A.ext E642) (by simp) (fun c hc => (hr c hc).2)) (fun w q => by simp only [List.mem_cons, List.not_mem_nil, or_false] at q; subst q; exact ⟨(List.mem_cons_self ..), (Or.inr z640)⟩) (fun q => ⟨q, fun w q => by simp only [List.mem_cons, List.not_mem_nil, or_false] at q; subst q; exact z640⟩) rfl rfl (Nat.le_of_ble_eq_true rfl) (Nat.le_of_ble_eq_true rfl) (Nat.le_of_ble_eq_true rfl) (Nat.le_of_ble_eq_true rfl) d_method_4_736 rfl rfl (fun v h646 hq K647 => ?_)
    obtain ⟨rfl, t, cd, bs, q1, q2, q3, q4, q5⟩ := hq
    show W B h646 5 17 (a638 :: M) (true, []) 739 #[.val (.ref ch), .val (.int ((13 : Nat).toInt32))] [(.ref a638)]
    exact W.retA ok d_method_4_739 rfl rfl (Nat.le_of_ble_eq_true rfl) (Nat.le_of_ble_eq_true rfl) (fun x (q : x ∈ M) => (List.mem_cons_of_mem _ q)) (fun kp => ⟨a638, rfl, Nat.le_of_eq ea641, t, cd, bs, fun z => absurd (hM _ z) (by omega), fun z => q1 (List.mem_cons_of_mem _ z), X643.keep K647, q2, q3, q4, q5⟩)
set_option maxRecDepth 65536 in
set_option maxHeartbeats 4000000 in
theorem k_rnn (l : Launch) (Z : State) (a0 : Array Value) (hE : Ev Z a0) (x : Addr) (h : Heap)  : Con l Z false (⟨"java/util/Objects", "requireNonNull", "(Ljava/lang/Object;)Ljava/lang/Object;"⟩ : MethodName) jdk_31_method_10_code 1 (some (.object "java/lang/Object")) ({ frames := 0, cells := 0, slots := 0, locals := 0 } : Room) [(.ref x)] h [] false (fun M v h' => v = some (.ref x) ∧ h' = h) := by
  have hw := hE.1
  refine Con.intro (L0 := #[.val (.ref x)]) (by decide +kernel) (fun m => ef_of rfl) ?_
  intro B M hwsM ok
  refine W.aloadN ok (pc' := 1) d_jdk_31_method_10_0 rfl rfl rfl ?_
  refine W.ifnonnull ok (pcY := 12) (pcN := 4) d_jdk_31_method_10_1 rfl rfl (by decide) rfl (fun q => absurd q (fun e => by cases e)) (fun _ => ?_)
  refine W.aloadN ok (pc' := 13) d_jdk_31_method_10_12 rfl rfl rfl ?_
  exact W.retA ok d_jdk_31_method_10_13 rfl rfl (Nat.le_of_ble_eq_true rfl) (Nat.le_of_ble_eq_true rfl) (fun x (q : x ∈ M) => q) (fun kp => ⟨rfl, rfl⟩)
set_option maxRecDepth 65536 in
set_option maxHeartbeats 4000000 in
theorem k_opInit (l : Launch) (Z : State) (a0 : Array Value) (hE : Ev Z a0) (o x : Addr) (h : Heap) (X : Exa Z h o "java/util/Optional") (F : Fld Z h o "java/util/Optional" "value" "Ljava/lang/Object;" .null) : Con l Z false (⟨"java/util/Optional", "<init>", "(Ljava/lang/Object;)V"⟩ : MethodName) jdk_32_method_2_code 2 none ({ frames := 1, cells := 0, slots := 0, locals := 12 } : Room) [(.ref o), (.ref x)] h [o] false (fun M v h' => v = none ∧ Fld Z h' o "java/util/Optional" "value" "Ljava/lang/Object;" (.ref x)) := by
  have hw := hE.1
  refine Con.intro (L0 := #[.val (.ref o), .val (.ref x)]) (by decide +kernel) (fun m => ef_of rfl) ?_
  intro B M hwsM ok
  refine W.aloadN ok (pc' := 1) d_jdk_32_method_2_0 rfl rfl rfl ?_
  refine W.initO ok (pc' := 4) (w102 hw) (w19 hw) (w20 hw) rfl (Nat.le_of_ble_eq_true rfl) (Nat.le_of_ble_eq_true rfl) d_jdk_32_method_2_1 rfl ?_
  refine W.aloadN ok (pc' := 5) d_jdk_32_method_2_4 rfl rfl rfl ?_
  refine W.aloadN ok (pc' := 6) d_jdk_32_method_2_5 rfl rfl rfl ?_
  refine W.putF ok (pc' := 9) (cl' := (false, [])) (w76 hw) Via.refl F X (Or.inr ⟨(w77 hw), rfl, rfl⟩) (w93 hw) (ty := (.object "java/lang/Object")) (by decide) rfl rfl (hwsM _ (List.mem_of_getElem? (i := 0) rfl)) (Or.inl (List.mem_of_getElem? (i := 0) rfl)) (fun q => by cases q) rfl d_jdk_32_method_2_6 rfl (fun h1 W2 => ?_)
  exact W.retV ok d_jdk_32_method_2_9 (Nat.le_of_ble_eq_true rfl) (Nat.le_of_ble_eq_true rfl) (fun x (q : x ∈ M) => q) (fun kp => ⟨rfl, F.same W2⟩)
set_option maxRecDepth 65536 in
set_option maxHeartbeats 4000000 in
theorem k_of (l : Launch) (Z : State) (a0 : Array Value) (hE : Ev Z a0) (x : Addr) (h : Heap)  : Con l Z false (⟨"java/util/Optional", "of", "(Ljava/lang/Object;)Ljava/util/Optional;"⟩ : MethodName) jdk_32_method_3_code 1 (some (.object "java/util/Optional")) ({ frames := 2, cells := 1, slots := 1, locals := 26 } : Room) [(.ref x)] h [] false (fun M v h' => ∃ o, v = some (.ref o) ∧ Exa Z h' o "java/util/Optional" ∧ Fld Z h' o "java/util/Optional" "value" "Ljava/lang/Object;" (.ref x)) := by
  have hw := hE.1
  refine Con.intro (L0 := #[.val (.ref x)]) (by decide +kernel) (fun m => ef_of rfl) ?_
  intro B M hwsM ok
  refine W.new ok (pc' := 3) (w92 hw) (w93 hw) (w68 hw) d_jdk_32_method_3_0 rfl (Nat.le_of_ble_eq_true rfl) (Nat.le_of_ble_eq_true rfl) (fun a1 h2 z3 ea4 E5 X6 D7 U8 => ?_)
  refine W.dup ok (pc' := 4) d_jdk_32_method_3_3 rfl rfl ?_
  refine W.aloadN ok (pc' := 5) d_jdk_32_method_3_4 rfl rfl rfl ?_
  refine W.callS ok (rest := [(.ref a1), (.ref a1)]) (cl' := (true, [])) (pc' := 8) (w94 hw) (w95 hw) (w96 hw) (w97 hw) (by decide) pd_6 rfl (k_rnn l Z a0 hE x h2) (fun _ q => (nomatch q)) (fun q => ⟨q, fun _ q => (nomatch q)⟩) rfl rfl (Nat.le_of_ble_eq_true rfl) (Nat.le_of_ble_eq_true rfl) (Nat.le_of_ble_eq_true rfl) (Nat.le_of_ble_eq_true rfl) d_jdk_32_method_3_5 rfl rfl (pureK ?_)
  show W B h2 1 1 (a1 :: M) (true, []) 8 #[.val (.ref x)] [(.ref x), (.ref a1), (.ref a1)]
  refine W.callI ok (rest := [(.ref a1)]) (cl' := (true, [])) (pc' := 11) rfl (w98 hw) (w99 hw) (w68 hw) (w101 hw) (by decide) pd_7 rfl (k_opInit l Z a0 hE a1 x h2 X6 (D7 (Or.inr (w77 hw)) (ty := (.object "java/lang/Object")) (by decide))) (fun w q => by simp only [List.mem_cons, List.not_mem_nil, or_false] at q; subst q; exact ⟨(List.mem_cons_self ..), (Or.inr z3)⟩) (fun q => ⟨q, fun w q => by simp only [List.mem_cons, List.not_mem_nil, or_false] at q; subst q; exact z3⟩) rfl rfl (Nat.le_of_ble_eq_true rfl) (Nat.le_of_ble_eq_true rfl) (Nat.le_of_ble_eq_true rfl) (Nat.le_of_ble_eq_true rfl) d_jdk_32_method_3_8 rfl rfl (fun v h9 hq K10 => ?_)
  obtain ⟨rfl, G⟩ := hq
  show W B h9 1 1 (a1 :: M) (true, []) 11 #[.val (.ref x)] [(.ref a1)]
  exact W.retA ok d_jdk_32_method_3_11 rfl rfl (Nat.le_of_ble_eq_true rfl) (Nat.le_of_ble_eq_true rfl) (fun x (q : x ∈ M) => (List.mem_cons_of_mem _ q)) (fun kp => ⟨a1, rfl, X6.keep K10, G⟩)
set_option maxRecDepth 65536 in
set_option maxHeartbeats 4000000 in
theorem k_empty (l : Launch) (Z : State) (a0 : Array Value) (hE : Ev Z a0)  (h : Heap)  : Con l Z false (⟨"java/util/Optional", "empty", "()Ljava/util/Optional;"⟩ : MethodName) jdk_32_method_1_code 1 (some (.object "java/util/Optional")) ({ frames := 0, cells := 0, slots := 0, locals := 0 } : Room) [] h [] false (fun M v h' => ∃ o, v = some (.ref o) ∧ Exa Z h' o "java/util/Optional" ∧ Fld Z h' o "java/util/Optional" "value" "Ljava/lang/Object;" .null) := by
  have hw := hE.1
  refine Con.intro (L0 := #[.unset]) (by decide +kernel) (fun m => ef_of rfl) ?_
  intro B M hwsM ok
  obtain ⟨eo, So, Xo, Fo⟩ := hE.opt
  refine W.old ok fun oE _ => ?_
  refine W.getS ok (pc' := 3) (w70 hw) Via.refl So d_jdk_32_method_1_0 rfl ?_
  refine W.astoreN ok (pc' := 4) (L' := #[.val (.ref eo)]) d_jdk_32_method_1_3 rfl rfl rfl ?_
  refine W.aloadN ok (pc' := 5) d_jdk_32_method_1_4 rfl rfl rfl ?_
  exact W.retA ok d_jdk_32_method_1_5 rfl rfl (Nat.le_of_ble_eq_true rfl) (Nat.le_of_ble_eq_true rfl) (fun x (q : x ∈ M) => q) (fun kp => ⟨eo, rfl, Xo.ext oE, Fo.ext oE⟩)
set_option maxRecDepth 65536 in
set_option maxHeartbeats 4000000 in
theorem k_orN (l : Launch) (Z : State) (a0 : Array Value) (hE : Ev Z a0) (o : Addr) (h : Heap) (F : Fld Z h o "java/util/Optional" "value" "Ljava/lang/Object;" .null) : Con l Z false (⟨"java/util/Optional", "orElse", "(Ljava/lang/Object;)Ljava/lang/Object;"⟩ : MethodName) jdk_32_method_15_code 2 (some (.object "java/lang/Object")) ({ frames := 0, cells := 0, slots := 0, locals := 0 } : Room) [(.ref o), .null] h [] false (fun M v h' => v = some .null ∧ h' = h) := by
  have hw := hE.1
  refine Con.intro (L0 := #[.val (.ref o), .val .null]) (by decide +kernel) (fun m => ef_of rfl) ?_
  intro B M hwsM ok
  refine W.aloadN ok (pc' := 1) d_jdk_32_method_15_0 rfl rfl rfl ?_
  refine W.getF ok (pc' := 4) (w76 hw) Via.refl F d_jdk_32_method_15_1 rfl ?_
  refine W.ifnull ok (pcY := 14) (pcN := 7) d_jdk_32_method_15_4 rfl rfl (by decide) rfl (fun _ => ?_) (fun q => absurd rfl q)
  refine W.aloadN ok (pc' := 15) d_jdk_32_method_15_14 rfl rfl rfl ?_
  exact W.retA ok d_jdk_32_method_15_15 rfl rfl (Nat.le_of_ble_eq_true rfl) (Nat.le_of_ble_eq_true rfl) (fun x (q : x ∈ M) => q) (fun kp => ⟨rfl, rfl⟩)
set_option maxRecDepth 65536 in
set_option maxHeartbeats 4000000 in
theorem k_orR (l : Launch) (Z : State) (a0 : Array Value) (hE : Ev Z a0) (o x : Addr) (h : Heap) (F : Fld Z h o "java/util/Optional" "value" "Ljava/lang/Object;" (.ref x)) : Con l Z false (⟨"java/util/Optional", "orElse", "(Ljava/lang/Object;)Ljava/lang/Object;"⟩ : MethodName) jdk_32_method_15_code 2 (some (.object "java/lang/Object")) ({ frames := 0, cells := 0, slots := 0, locals := 0 } : Room) [(.ref o), .null] h [] false (fun M v h' => v = some (.ref x) ∧ h' = h) := by
  have hw := hE.1
  refine Con.intro (L0 := #[.val (.ref o), .val .null]) (by decide +kernel) (fun m => ef_of rfl) ?_
  intro B M hwsM ok
  refine W.aloadN ok (pc' := 1) d_jdk_32_method_15_0 rfl rfl rfl ?_
  refine W.getF ok (pc' := 4) (w76 hw) Via.refl F d_jdk_32_method_15_1 rfl ?_
  refine W.ifnull ok (pcY := 14) (pcN := 7) d_jdk_32_method_15_4 rfl rfl (by decide) rfl (fun q => absurd q (fun e => by cases e)) (fun _ => ?_)
  refine W.aloadN ok (pc' := 8) d_jdk_32_method_15_7 rfl rfl rfl ?_
  refine W.getF ok (pc' := 11) (w76 hw) Via.refl F d_jdk_32_method_15_8 rfl ?_
  refine W.goto ok (pc' := 15) d_jdk_32_method_15_11 (by decide) rfl ?_
  exact W.retA ok d_jdk_32_method_15_15 rfl rfl (Nat.le_of_ble_eq_true rfl) (Nat.le_of_ble_eq_true rfl) (fun x (q : x ∈ M) => q) (fun kp => ⟨rfl, rfl⟩)
set_option maxRecDepth 65536 in
set_option maxHeartbeats 4000000 in
theorem k_values (l : Launch) (Z : State) (a0 : Array Value) (hE : Ev Z a0) (va ra rb sa sb : Addr) (cl0 : Cell) (h : Heap) (hk : KMs Z va ra rb sa sb cl0) : Con l Z false (⟨"com/example/inkan/inkan/jose/KeyManagementAlgorithm", "values", "()[Lcom/example/inkan/inkan/jose/KeyManagementAlgorithm;"⟩ : MethodName) prog_8_method_1_code 0 (some (.array (.object "com/example/inkan/inkan/jose/KeyManagementAlgorithm"))) ({ frames := 1, cells := 1, slots := 2, locals := 14 } : Room) [] h [] false (fun M v h' => ∃ d, v = some (.ref d) ∧ ArR Z h' d (.object "com/example/inkan/inkan/jose/KeyManagementAlgorithm") [.ref ra, .ref rb]) := by
  have hw := hE.1
  refine Con.intro (L0 := #[]) (by decide +kernel) (fun m => ef_of rfl) ?_
  intro B M hwsM ok
  obtain ⟨k1, k2, k3, k4, k5, k6, k7, k8, k9, k10, k11, k12, k13⟩ := hk
  refine W.old ok fun oE _ => ?_
  refine W.getS ok (pc' := 3) (w49 hw) Via.refl k1 d_prog_8_method_1_0 rfl ?_
  refine W.clone ok (pc' := 6) (cap := 2) (w51 hw) (w52 hw) (w56 hw) (w54 hw) (w55 hw) (w57 hw) (k2.ext oE) k3 (k4.ext oE) k5 rfl (Nat.le_of_ble_eq_true rfl) (Nat.le_of_ble_eq_true rfl) (Nat.le_of_ble_eq_true rfl) (Nat.le_of_ble_eq_true rfl) (Nat.le_of_ble_eq_true rfl) d_prog_8_method_1_3 rfl (fun d h1 z1 e1 E1 A1 X1 => ?_)
  refine W.cast ok (pc' := 9) (w61 hw) (Ins.self X1) d_prog_8_method_1_6 rfl ?_
  exact W.retA ok d_prog_8_method_1_9 rfl rfl (Nat.le_of_ble_eq_true rfl) (Nat.le_of_ble_eq_true rfl) (fun x (q : x ∈ M) => (List.mem_cons_of_mem _ q)) (fun kp => ⟨d, rfl, A1⟩)
set_option maxRecDepth 65536 in
set_option maxHeartbeats 4000000 in
theorem k_named1 (l : Launch) (Z : State) (a0 : Array Value) (hE : Ev Z a0) (va ra rb sa sb : Addr) (cl0 : Cell) (a : Addr) (cs : List Int32) (h : Heap) (hk : KMs Z va ra rb sa sb cl0) (S : Str Z h a cs) (hl : cs.length ≤ 13) (hcs : cs = [82, 83, 65, 45, 79, 65, 69, 80]) : Con l Z false (⟨"com/example/inkan/inkan/jose/KeyManagementAlgorithm", "named", "(Ljava/lang/String;)Ljava/util/Optional;"⟩ : MethodName) prog_8_method_4_code 5 (some (.object "java/util/Optional")) ({ frames := 3, cells := 2, slots := 3, locals := 38 } : Room) [(.ref a)] h [] false (fun M v h' => ∃ o, v = some (.ref o) ∧ Exa Z h' o "java/util/Optional" ∧ Fld Z h' o "java/util/Optional" "value" "Ljava/lang/Object;" (.ref ra)) := by
  have hw := hE.1
  refine Con.intro (L0 := #[.val (.ref a), .unset, .unset, .unset, .unset]) (by decide +kernel) (fun m => ef_of rfl) ?_
  intro B M hwsM ok
  have hk0 := hk
  obtain ⟨k1, k2, k3, k4, k5, k6, k7, k8, k9, k10, k11, k12, k13⟩ := hk
  refine W.callS ok (rest := []) (cl' := (true, [])) (pc' := 3) (w46 hw) (w47 hw) (w44 hw) (w48 hw) (by decide) pd_8 rfl (k_values l Z a0 hE va ra rb sa sb cl0 h hk0) (fun _ q => (nomatch q)) (fun q => ⟨q, fun _ q => (nomatch q)⟩) rfl rfl (Nat.le_of_ble_eq_true rfl) (Nat.le_of_ble_eq_true rfl) (Nat.le_of_ble_eq_true rfl) (Nat.le_of_ble_eq_true rfl) d_prog_8_method_4_0 rfl rfl (fun v h1 hq K2 => ?_)
  obtain ⟨d, rfl, A⟩ := hq
  show W B h1 1 2 M (true, []) 3 #[.val (.ref a), .unset, .unset, .unset, .unset] [(.ref d)]
  have E1 := ext_keep K2
  refine W.old ok fun oE _ => ?_
  refine W.astoreN ok (pc' := 4) (L' := #[.val (.ref a), .val (.ref d), .unset, .unset, .unset]) d_prog_8_method_4_3 rfl rfl rfl ?_
  refine W.aloadN ok (pc' := 5) d_prog_8_method_4_4 rfl rfl rfl ?_
  refine W.lenR ok (pc' := 6) A (2 : Int32) rfl d_prog_8_method_4_5 rfl ?_
  refine W.istoreN ok (pc' := 7) (L' := #[.val (.ref a), .val (.ref d), .val (.int (2 : Int32)), .unset, .unset]) d_prog_8_method_4_6 rfl rfl ?_
  refine W.iconst ok (pc' := 8) (0 : Int32) d_prog_8_method_4_7 rfl rfl ?_
  refine W.istoreN ok (pc' := 9) (L' := #[.val (.ref a), .val (.ref d), .val (.int (2 : Int32)), .val (.int (0 : Int32)), .unset]) d_prog_8_method_4_8 rfl rfl ?_
  refine W.iloadN ok (pc' := 10) d_prog_8_method_4_9 rfl rfl ?_
  refine W.iloadN ok (pc' := 11) d_prog_8_method_4_10 rfl rfl ?_
  refine W.icmpge ok (pcY := 43) (pcN := 14) d_prog_8_method_4_11 rfl (by decide) rfl (fun _ => ?_) (fun q => absurd (by decide) q)
  refine W.aloadN ok (pc' := 15) d_prog_8_method_4_14 rfl rfl rfl ?_
  refine W.iloadN ok (pc' := 16) d_prog_8_method_4_15 rfl rfl ?_
  refine W.aaload ok (pc' := 17) A rfl (.ref ra) (by decide) rfl d_prog_8_method_4_16 rfl ?_
  refine W.astore ok (pc' := 19) (L' := #[.val (.ref a), .val (.ref d), .val (.int (2 : Int32)), .val (.int (0 : Int32)), .val (.ref ra)]) d_prog_8_method_4_17 rfl rfl rfl ?_
  refine W.aload ok (pc' := 21) d_prog_8_method_4_19 rfl rfl rfl ?_
  refine W.getF ok (pc' := 24) (w63 hw) Via.refl (k10.ext oE) d_prog_8_method_4_21 rfl ?_
  refine W.aloadN ok (pc' := 25) d_prog_8_method_4_24 rfl rfl rfl ?_
  refine W.callV ok (rest := []) (cl' := (true, [])) (pc' := 28) (w65 hw) (w31 hw) (w33 hw) (w32 hw) (w10 hw) (w34 hw) (by decide) (k12.ext oE).exa pd_9 rfl (k_eqS l Z a0 hE sa a [82, 83, 65, 45, 79, 65, 69, 80] cs h1 (k12.ext oE) (S.ext E1) (by simp) (by omega)) (fun _ q => (nomatch q)) (fun q => ⟨q, fun _ q => (nomatch q)⟩) rfl rfl (Nat.le_of_ble_eq_true rfl) (Nat.le_of_ble_eq_true rfl) (Nat.le_of_ble_eq_true rfl) (Nat.le_of_ble_eq_true rfl) d_prog_8_method_4_25 rfl rfl (pureK ?_)
  show W B h1 1 2 M (true, []) 28 #[.val (.ref a), .val (.ref d), .val (.int (2 : Int32)), .val (.int (0 : Int32)), .val (.ref ra)] [(.int (if [82, 83, 65, 45, 79, 65, 69, 80] = cs then 1 else 0))]
  rw [if_pos hcs.symm]
  refine W.ifeq ok (pcY := 37) (pcN := 31) d_prog_8_method_4_28 rfl (by decide) rfl (fun q => absurd q (by decide)) (fun _ => ?_)
  refine W.aload ok (pc' := 33) d_prog_8_method_4_31 rfl rfl rfl ?_
  refine W.callS ok (rest := []) (cl' := (true, [])) (pc' := 36) (w89 hw) (w90 hw) (w68 hw) (w91 hw) (by decide) pd_10 rfl (k_of l Z a0 hE ra h1) (fun _ q => (nomatch q)) (fun q => ⟨q, fun _ q => (nomatch q)⟩) rfl rfl (Nat.le_of_ble_eq_true rfl) (Nat.le_of_ble_eq_true rfl) (Nat.le_of_ble_eq_true rfl) (Nat.le_of_ble_eq_true rfl) d_prog_8_method_4_33 rfl rfl (fun v h3 hq K4 => ?_)
  obtain ⟨o, rfl, X1, F1⟩ := hq
  show W B h3 2 3 M (true, []) 36 #[.val (.ref a), .val (.ref d), .val (.int (2 : Int32)), .val (.int (0 : Int32)), .val (.ref ra)] [(.ref o)]
  exact W.retA ok d_prog_8_method_4_36 rfl rfl (Nat.le_of_ble_eq_true rfl) (Nat.le_of_ble_eq_true rfl) (fun x (q : x ∈ M) => q) (fun kp => ⟨o, rfl, X1, F1⟩)
set_option maxRecDepth 65536 in
set_option maxHeartbeats 4000000 in
theorem k_named2 (l : Launch) (Z : State) (a0 : Array Value) (hE : Ev Z a0) (va ra rb sa sb : Addr) (cl0 : Cell) (a : Addr) (cs : List Int32) (h : Heap) (hk : KMs Z va ra rb sa sb cl0) (S : Str Z h a cs) (hl : cs.length ≤ 13) (n1 : ¬ cs = [82, 83, 65, 45, 79, 65, 69, 80]) (hcs : cs = [82, 83, 65, 45, 79, 65, 69, 80, 45, 50, 53, 54]) : Con l Z false (⟨"com/example/inkan/inkan/jose/KeyManagementAlgorithm", "named", "(Ljava/lang/String;)Ljava/util/Optional;"⟩ : MethodName) prog_8_method_4_code 5 (some (.object "java/util/Optional")) ({ frames := 3, cells := 2, slots := 3, locals := 38 } : Room) [(.ref a)] h [] false (fun M v h' => ∃ o, v = some (.ref o) ∧ Exa Z h' o "java/util/Optional" ∧ Fld Z h' o "java/util/Optional" "value" "Ljava/lang/Object;" (.ref rb)) := by
  have hw := hE.1
  refine Con.intro (L0 := #[.val (.ref a), .unset, .unset, .unset, .unset]) (by decide +kernel) (fun m => ef_of rfl) ?_
  intro B M hwsM ok
  have hk0 := hk
  obtain ⟨k1, k2, k3, k4, k5, k6, k7, k8, k9, k10, k11, k12, k13⟩ := hk
  refine W.callS ok (rest := []) (cl' := (true, [])) (pc' := 3) (w46 hw) (w47 hw) (w44 hw) (w48 hw) (by decide) pd_8 rfl (k_values l Z a0 hE va ra rb sa sb cl0 h hk0) (fun _ q => (nomatch q)) (fun q => ⟨q, fun _ q => (nomatch q)⟩) rfl rfl (Nat.le_of_ble_eq_true rfl) (Nat.le_of_ble_eq_true rfl) (Nat.le_of_ble_eq_true rfl) (Nat.le_of_ble_eq_true rfl) d_prog_8_method_4_0 rfl rfl (fun v h1 hq K2 => ?_)
  obtain ⟨d, rfl, A⟩ := hq
  show W B h1 1 2 M (true, []) 3 #[.val (.ref a), .unset, .unset, .unset, .unset] [(.ref d)]
  have E1 := ext_keep K2
  refine W.old ok fun oE _ => ?_
  refine W.astoreN ok (pc' := 4) (L' := #[.val (.ref a), .val (.ref d), .unset, .unset, .unset]) d_prog_8_method_4_3 rfl rfl rfl ?_
  refine W.aloadN ok (pc' := 5) d_prog_8_method_4_4 rfl rfl rfl ?_
  refine W.lenR ok (pc' := 6) A (2 : Int32) rfl d_prog_8_method_4_5 rfl ?_
  refine W.istoreN ok (pc' := 7) (L' := #[.val (.ref a), .val (.ref d), .val (.int (2 : Int32)), .unset, .unset]) d_prog_8_method_4_6 rfl rfl ?_
  refine W.iconst ok (pc' := 8) (0 : Int32) d_prog_8_method_4_7 rfl rfl ?_
  refine W.istoreN ok (pc' := 9) (L' := #[.val (.ref a), .val (.ref d), .val (.int (2 : Int32)), .val (.int (0 : Int32)), .unset]) d_prog_8_method_4_8 rfl rfl ?_
  refine W.iloadN ok (pc' := 10) d_prog_8_method_4_9 rfl rfl ?_
  refine W.iloadN ok (pc' := 11) d_prog_8_method_4_10 rfl rfl ?_
  refine W.icmpge ok (pcY := 43) (pcN := 14) d_prog_8_method_4_11 rfl (by decide) rfl (fun _ => ?_) (fun q => absurd (by decide) q)
  refine W.aloadN ok (pc' := 15) d_prog_8_method_4_14 rfl rfl rfl ?_
  refine W.iloadN ok (pc' := 16) d_prog_8_method_4_15 rfl rfl ?_
  refine W.aaload ok (pc' := 17) A rfl (.ref ra) (by decide) rfl d_prog_8_method_4_16 rfl ?_
  refine W.astore ok (pc' := 19) (L' := #[.val (.ref a), .val (.ref d), .val (.int (2 : Int32)), .val (.int (0 : Int32)), .val (.ref ra)]) d_prog_8_method_4_17 rfl rfl rfl ?_
  refine W.aload ok (pc' := 21) d_prog_8_method_4_19 rfl rfl rfl ?_
  refine W.getF ok (pc' := 24) (w63 hw) Via.refl (k10.ext oE) d_prog_8_method_4_21 rfl ?_
  refine W.aloadN ok (pc' := 25) d_prog_8_method_4_24 rfl rfl rfl ?_
  refine W.callV ok (rest := []) (cl' := (true, [])) (pc' := 28) (w65 hw) (w31 hw) (w33 hw) (w32 hw) (w10 hw) (w34 hw) (by decide) (k12.ext oE).exa pd_9 rfl (k_eqS l Z a0 hE sa a [82, 83, 65, 45, 79, 65, 69, 80] cs h1 (k12.ext oE) (S.ext E1) (by simp) (by omega)) (fun _ q => (nomatch q)) (fun q => ⟨q, fun _ q => (nomatch q)⟩) rfl rfl (Nat.le_of_ble_eq_true rfl) (Nat.le_of_ble_eq_true rfl) (Nat.le_of_ble_eq_true rfl) (Nat.le_of_ble_eq_true rfl) d_prog_8_method_4_25 rfl rfl (pureK ?_)
  show W B h1 1 2 M (true, []) 28 #[.val (.ref a), .val (.ref d), .val (.int (2 : Int32)), .val (.int (0 : Int32)), .val (.ref ra)] [(.int (if [82, 83, 65, 45, 79, 65, 69, 80] = cs then 1 else 0))]
  rw [if_neg (fun e => n1 e.symm)]
  refine W.ifeq ok (pcY := 37) (pcN := 31) d_prog_8_method_4_28 rfl (by decide) rfl (fun _ => ?_) (fun q => absurd rfl q)
  refine W.iinc ok (pc' := 40) (L' := #[.val (.ref a), .val (.ref d), .val (.int (2 : Int32)), .val (.int ((0 : Int32) + (1 : Int32))), .val (.ref ra)]) (1 : Int32) d_prog_8_method_4_37 rfl rfl rfl rfl ?_
  refine W.goto ok (pc' := 9) d_prog_8_method_4_40 (by decide) rfl ?_
  refine W.iloadN ok (pc' := 10) d_prog_8_method_4_9 rfl rfl ?_
  refine W.iloadN ok (pc' := 11) d_prog_8_method_4_10 rfl rfl ?_
  refine W.icmpge ok (pcY := 43) (pcN := 14) d_prog_8_method_4_11 rfl (by decide) rfl (fun _ => ?_) (fun q => absurd (by decide) q)
  refine W.aloadN ok (pc' := 15) d_prog_8_method_4_14 rfl rfl rfl ?_
  refine W.iloadN ok (pc' := 16) d_prog_8_method_4_15 rfl rfl ?_
  refine W.aaload ok (pc' := 17) A rfl (.ref rb) (by decide) rfl d_prog_8_method_4_16 rfl ?_
  refine W.astore ok (pc' := 19) (L' := #[.val (.ref a), .val (.ref d), .val (.int (2 : Int32)), .val (.int ((0 : Int32) + (1 : Int32))), .val (.ref rb)]) d_prog_8_method_4_17 rfl rfl rfl ?_
  refine W.aload ok (pc' := 21) d_prog_8_method_4_19 rfl rfl rfl ?_
  refine W.getF ok (pc' := 24) (w63 hw) Via.refl (k11.ext oE) d_prog_8_method_4_21 rfl ?_
  refine W.aloadN ok (pc' := 25) d_prog_8_method_4_24 rfl rfl rfl ?_
  refine W.callV ok (rest := []) (cl' := (true, [])) (pc' := 28) (w65 hw) (w31 hw) (w33 hw) (w32 hw) (w10 hw) (w34 hw) (by decide) (k13.ext oE).exa pd_9 rfl (k_eqS l Z a0 hE sb a [82, 83, 65, 45, 79, 65, 69, 80, 45, 50, 53, 54] cs h1 (k13.ext oE) (S.ext E1) (by simp) (by omega)) (fun _ q => (nomatch q)) (fun q => ⟨q, fun _ q => (nomatch q)⟩) rfl rfl (Nat.le_of_ble_eq_true rfl) (Nat.le_of_ble_eq_true rfl) (Nat.le_of_ble_eq_true rfl) (Nat.le_of_ble_eq_true rfl) d_prog_8_method_4_25 rfl rfl (pureK ?_)
  show W B h1 1 2 M (true, []) 28 #[.val (.ref a), .val (.ref d), .val (.int (2 : Int32)), .val (.int ((0 : Int32) + (1 : Int32))), .val (.ref rb)] [(.int (if [82, 83, 65, 45, 79, 65, 69, 80, 45, 50, 53, 54] = cs then 1 else 0))]
  rw [if_pos hcs.symm]
  refine W.ifeq ok (pcY := 37) (pcN := 31) d_prog_8_method_4_28 rfl (by decide) rfl (fun q => absurd q (by decide)) (fun _ => ?_)
  refine W.aload ok (pc' := 33) d_prog_8_method_4_31 rfl rfl rfl ?_
  refine W.callS ok (rest := []) (cl' := (true, [])) (pc' := 36) (w89 hw) (w90 hw) (w68 hw) (w91 hw) (by decide) pd_10 rfl (k_of l Z a0 hE rb h1) (fun _ q => (nomatch q)) (fun q => ⟨q, fun _ q => (nomatch q)⟩) rfl rfl (Nat.le_of_ble_eq_true rfl) (Nat.le_of_ble_eq_true rfl) (Nat.le_of_ble_eq_true rfl) (Nat.le_of_ble_eq_true rfl) d_prog_8_method_4_33 rfl rfl (fun v h3 hq K4 => ?_)
  obtain ⟨o, rfl, X1, F1⟩ := hq
  show W B h3 2 3 M (true, []) 36 #[.val (.ref a), .val (.ref d), .val (.int (2 : Int32)), .val (.int ((0 : Int32) + (1 : Int32))), .val (.ref rb)] [(.ref o)]
  exact W.retA ok d_prog_8_method_4_36 rfl rfl (Nat.le_of_ble_eq_true rfl) (Nat.le_of_ble_eq_true rfl) (fun x (q : x ∈ M) => q) (fun kp => ⟨o, rfl, X1, F1⟩)
set_option maxRecDepth 65536 in
set_option maxHeartbeats 4000000 in
theorem k_named3 (l : Launch) (Z : State) (a0 : Array Value) (hE : Ev Z a0) (va ra rb sa sb : Addr) (cl0 : Cell) (a : Addr) (cs : List Int32) (h : Heap) (hk : KMs Z va ra rb sa sb cl0) (S : Str Z h a cs) (hl : cs.length ≤ 13) (n1 : ¬ cs = [82, 83, 65, 45, 79, 65, 69, 80]) (n2 : ¬ cs = [82, 83, 65, 45, 79, 65, 69, 80, 45, 50, 53, 54]) : Con l Z false (⟨"com/example/inkan/inkan/jose/KeyManagementAlgorithm", "named", "(Ljava/lang/String;)Ljava/util/Optional;"⟩ : MethodName) prog_8_method_4_code 5 (some (.object "java/util/Optional")) ({ frames := 2, cells := 1, slots := 2, locals := 28 } : Room) [(.ref a)] h [] false (fun M v h' => ∃ o, v = some (.ref o) ∧ Exa Z h' o "java/util/Optional" ∧ Fld Z h' o "java/util/Optional" "value" "Ljava/lang/Object;" .null) := by
  have hw := hE.1
  refine Con.intro (L0 := #[.val (.ref a), .unset, .unset, .unset, .unset]) (by decide +kernel) (fun m => ef_of rfl) ?_
  intro B M hwsM ok
  have hk0 := hk
  obtain ⟨k1, k2, k3, k4, k5, k6, k7, k8, k9, k10, k11, k12, k13⟩ := hk
  refine W.callS ok (rest := []) (cl' := (true, [])) (pc' := 3) (w46 hw) (w47 hw) (w44 hw) (w48 hw) (by decide) pd_8 rfl (k_values l Z a0 hE va ra rb sa sb cl0 h hk0) (fun _ q => (nomatch q)) (fun q => ⟨q, fun _ q => (nomatch q)⟩) rfl rfl (Nat.le_of_ble_eq_true rfl) (Nat.le_of_ble_eq_true rfl) (Nat.le_of_ble_eq_true rfl) (Nat.le_of_ble_eq_true rfl) d_prog_8_method_4_0 rfl rfl (fun v h1 hq K2 => ?_)
  obtain ⟨d, rfl, A⟩ := hq
  show W B h1 1 2 M (true, []) 3 #[.val (.ref a), .unset, .unset, .unset, .unset] [(.ref d)]
  have E1 := ext_keep K2
  refine W.old ok fun oE _ => ?_
  refine W.astoreN ok (pc' := 4) (L' := #[.val (.ref a), .val (.ref d), .unset, .unset, .unset]) d_prog_8_method_4_3 rfl rfl rfl ?_
  refine W.aloadN ok (pc' := 5) d_prog_8_method_4_4 rfl rfl rfl ?_
  refine W.lenR ok (pc' := 6) A (2 : Int32) rfl d_prog_8_method_4_5 rfl ?_
  refine W.istoreN ok (pc' := 7) (L' := #[.val (.ref a), .val (.ref d), .val (.int (2 : Int32)), .unset, .unset]) d_prog_8_method_4_6 rfl rfl ?_
  refine W.iconst ok (pc' := 8) (0 : Int32) d_prog_8_method_4_7 rfl rfl ?_
  refine W.istoreN ok (pc' := 9) (L' := #[.val (.ref a), .val (.ref d), .val (.int (2 : Int32)), .val (.int (0 : Int32)), .unset]) d_prog_8_method_4_8 rfl rfl ?_
  refine W.iloadN ok (pc' := 10) d_prog_8_method_4_9 rfl rfl ?_
  refine W.iloadN ok (pc' := 11) d_prog_8_method_4_10 rfl rfl ?_
  refine W.icmpge ok (pcY := 43) (pcN := 14) d_prog_8_method_4_11 rfl (by decide) rfl (fun _ => ?_) (fun q => absurd (by decide) q)
  refine W.aloadN ok (pc' := 15) d_prog_8_method_4_14 rfl rfl rfl ?_
  refine W.iloadN ok (pc' := 16) d_prog_8_method_4_15 rfl rfl ?_
  refine W.aaload ok (pc' := 17) A rfl (.ref ra) (by decide) rfl d_prog_8_method_4_16 rfl ?_
  refine W.astore ok (pc' := 19) (L' := #[.val (.ref a), .val (.ref d), .val (.int (2 : Int32)), .val (.int (0 : Int32)), .val (.ref ra)]) d_prog_8_method_4_17 rfl rfl rfl ?_
  refine W.aload ok (pc' := 21) d_prog_8_method_4_19 rfl rfl rfl ?_
  refine W.getF ok (pc' := 24) (w63 hw) Via.refl (k10.ext oE) d_prog_8_method_4_21 rfl ?_
  refine W.aloadN ok (pc' := 25) d_prog_8_method_4_24 rfl rfl rfl ?_
  refine W.callV ok (rest := []) (cl' := (true, [])) (pc' := 28) (w65 hw) (w31 hw) (w33 hw) (w32 hw) (w10 hw) (w34 hw) (by decide) (k12.ext oE).exa pd_9 rfl (k_eqS l Z a0 hE sa a [82, 83, 65, 45, 79, 65, 69, 80] cs h1 (k12.ext oE) (S.ext E1) (by simp) (by omega)) (fun _ q => (nomatch q)) (fun q => ⟨q, fun _ q => (nomatch q)⟩) rfl rfl (Nat.le_of_ble_eq_true rfl) (Nat.le_of_ble_eq_true rfl) (Nat.le_of_ble_eq_true rfl) (Nat.le_of_ble_eq_true rfl) d_prog_8_method_4_25 rfl rfl (pureK ?_)
  show W B h1 1 2 M (true, []) 28 #[.val (.ref a), .val (.ref d), .val (.int (2 : Int32)), .val (.int (0 : Int32)), .val (.ref ra)] [(.int (if [82, 83, 65, 45, 79, 65, 69, 80] = cs then 1 else 0))]
  rw [if_neg (fun e => n1 e.symm)]
  refine W.ifeq ok (pcY := 37) (pcN := 31) d_prog_8_method_4_28 rfl (by decide) rfl (fun _ => ?_) (fun q => absurd rfl q)
  refine W.iinc ok (pc' := 40) (L' := #[.val (.ref a), .val (.ref d), .val (.int (2 : Int32)), .val (.int ((0 : Int32) + (1 : Int32))), .val (.ref ra)]) (1 : Int32) d_prog_8_method_4_37 rfl rfl rfl rfl ?_
  refine W.goto ok (pc' := 9) d_prog_8_method_4_40 (by decide) rfl ?_
  refine W.iloadN ok (pc' := 10) d_prog_8_method_4_9 rfl rfl ?_
  refine W.iloadN ok (pc' := 11) d_prog_8_method_4_10 rfl rfl ?_
  refine W.icmpge ok (pcY := 43) (pcN := 14) d_prog_8_method_4_11 rfl (by decide) rfl (fun _ => ?_) (fun q => absurd (by decide) q)
  refine W.aloadN ok (pc' := 15) d_prog_8_method_4_14 rfl rfl rfl ?_
  refine W.iloadN ok (pc' := 16) d_prog_8_method_4_15 rfl rfl ?_
  refine W.aaload ok (pc' := 17) A rfl (.ref rb) (by decide) rfl d_prog_8_method_4_16 rfl ?_
  refine W.astore ok (pc' := 19) (L' := #[.val (.ref a), .val (.ref d), .val (.int (2 : Int32)), .val (.int ((0 : Int32) + (1 : Int32))), .val (.ref rb)]) d_prog_8_method_4_17 rfl rfl rfl ?_
  refine W.aload ok (pc' := 21) d_prog_8_method_4_19 rfl rfl rfl ?_
  refine W.getF ok (pc' := 24) (w63 hw) Via.refl (k11.ext oE) d_prog_8_method_4_21 rfl ?_
  refine W.aloadN ok (pc' := 25) d_prog_8_method_4_24 rfl rfl rfl ?_
  refine W.callV ok (rest := []) (cl' := (true, [])) (pc' := 28) (w65 hw) (w31 hw) (w33 hw) (w32 hw) (w10 hw) (w34 hw) (by decide) (k13.ext oE).exa pd_9 rfl (k_eqS l Z a0 hE sb a [82, 83, 65, 45, 79, 65, 69, 80, 45, 50, 53, 54] cs h1 (k13.ext oE) (S.ext E1) (by simp) (by omega)) (fun _ q => (nomatch q)) (fun q => ⟨q, fun _ q => (nomatch q)⟩) rfl rfl (Nat.le_of_ble_eq_true rfl) (Nat.le_of_ble_eq_true rfl) (Nat.le_of_ble_eq_true rfl) (Nat.le_of_ble_eq_true rfl) d_prog_8_method_4_25 rfl rfl (pureK ?_)
  show W B h1 1 2 M (true, []) 28 #[.val (.ref a), .val (.ref d), .val (.int (2 : Int32)), .val (.int ((0 : Int32) + (1 : Int32))), .val (.ref rb)] [(.int (if [82, 83, 65, 45, 79, 65, 69, 80, 45, 50, 53, 54] = cs then 1 else 0))]
  rw [if_neg (fun e => n2 e.symm)]
  refine W.ifeq ok (pcY := 37) (pcN := 31) d_prog_8_method_4_28 rfl (by decide) rfl (fun _ => ?_) (fun q => absurd rfl q)
  refine W.iinc ok (pc' := 40) (L' := #[.val (.ref a), .val (.ref d), .val (.int (2 : Int32)), .val (.int (((0 : Int32) + (1 : Int32)) + (1 : Int32))), .val (.ref rb)]) (1 : Int32) d_prog_8_method_4_37 rfl rfl rfl rfl ?_
  refine W.goto ok (pc' := 9) d_prog_8_method_4_40 (by decide) rfl ?_
  refine W.iloadN ok (pc' := 10) d_prog_8_method_4_9 rfl rfl ?_
  refine W.iloadN ok (pc' := 11) d_prog_8_method_4_10 rfl rfl ?_
  refine W.icmpge ok (pcY := 43) (pcN := 14) d_prog_8_method_4_11 rfl (by decide) rfl (fun q => absurd q (by decide)) (fun _ => ?_)
  refine W.callS ok (rest := []) (cl' := (true, [])) (pc' := 46) (w66 hw) (w67 hw) (w68 hw) (w69 hw) (by decide) pd_11 rfl (k_empty l Z a0 hE h1) (fun _ q => (nomatch q)) (fun q => ⟨q, fun _ q => (nomatch q)⟩) rfl rfl (Nat.le_of_ble_eq_true rfl) (Nat.le_of_ble_eq_true rfl) (Nat.le_of_ble_eq_true rfl) (Nat.le_of_ble_eq_true rfl) d_prog_8_method_4_43 rfl rfl (fun v h3 hq K4 => ?_)
  obtain ⟨o, rfl, X1, F1⟩ := hq
  show W B h3 1 2 M (true, []) 46 #[.val (.ref a), .val (.ref d), .val (.int (2 : Int32)), .val (.int (((0 : Int32) + (1 : Int32)) + (1 : Int32))), .val (.ref rb)] [(.ref o)]
  exact W.retA ok d_prog_8_method_4_46 rfl rfl (Nat.le_of_ble_eq_true rfl) (Nat.le_of_ble_eq_true rfl) (fun x (q : x ∈ M) => q) (fun kp => ⟨o, rfl, X1, F1⟩)
set_option maxRecDepth 65536 in
set_option maxHeartbeats 4000000 in
theorem k_law (l : Launch) (Z : State) (a0 : Array Value) (hE : Ev Z a0) (p0 p1 p2 p3 p4 : Int32) (h : Heap)  : Con l Z false (⟨"com/example/inkan/inkan/jose/KeyManagementAlgorithmNamedPinLaw", "law", "(IIIII)Z"⟩ : MethodName) code 11 (some .boolean) ({ frames := 8, cells := 32, slots := 3264, locals := 192 } : Room) [(.int p0), (.int p1), (.int p2), (.int p3), (.int p4)] h [] false (fun M v h' => v = some (.int 1)) := by
  have hw := hE.1
  refine Con.intro (L0 := #[.val (.int p0), .val (.int p1), .val (.int p2), .val (.int p3), .val (.int p4), .unset, .unset, .unset, .unset, .unset, .unset]) (by decide +kernel) (fun m => ef_of rfl) ?_
  intro B M hwsM ok
  obtain ⟨va, ra, rb, sa, sb, cl0, hk⟩ := hE.kma
  refine W.iload ok (pc' := 2) at_0 rfl rfl ?_
  refine W.iconst ok (pc' := 3) (3 : Int32) at_2 rfl rfl ?_
  refine W.iand ok (pc' := 4) at_3 rfl ?_
  generalize hm : (p4 &&& (3 : Int32)) = m
  refine W.istore ok (pc' := 6) (L' := #[.val (.int p0), .val (.int p1), .val (.int p2), .val (.int p3), .val (.int p4), .val (.int m), .unset, .unset, .unset, .unset, .unset]) at_4 rfl rfl ?_
  refine W.bipush ok (pc' := 8) (13 : Int32) at_6 rfl rfl ?_
  refine W.newC ok (pc' := 10) (cap := 13) (w0 hw) (by decide) (by decide) (by decide) at_8 rfl (Nat.le_of_ble_eq_true rfl) (Nat.le_of_ble_eq_true rfl) (fun a1 h2 z3 ea4 E5 A6 => ?_)
  replace A6 := A6.cast (cs' := [0, 0, 0, 0, 0, 0, 0, 0, 0, 0, 0, 0, 0]) rfl
  refine W.astore ok (pc' := 12) (L' := #[.val (.int p0), .val (.int p1), .val (.int p2), .val (.int p3), .val (.int p4), .val (.int m), .val (.ref a1), .unset, .unset, .unset, .unset]) at_10 rfl rfl rfl ?_
  refine W.aload ok (pc' := 14) at_12 rfl rfl rfl ?_
  refine W.iconst ok (pc' := 15) (0 : Int32) at_14 rfl rfl ?_
  refine W.iload ok (pc' := 17) at_15 rfl rfl ?_
  refine W.bipush ok (pc' := 19) (82 : Int32) at_17 rfl rfl ?_
  refine W.iloadN ok (pc' := 20) at_19 rfl rfl ?_
  refine W.iconst ok (pc' := 21) (0 : Int32) at_20 rfl rfl ?_
  refine W.callS ok (rest := [(.int (0 : Int32)), (.ref a1)]) (cl' := (true, [])) (pc' := 24) (w1 hw) (w2 hw) (w3 hw) (w4 hw) (by decide) pd_12 rfl (k_pick l Z a0 hE m (82 : Int32) p0 (0 : Int32) h2 rfl) (fun _ q => (nomatch q)) (fun q => ⟨q, fun _ q => (nomatch q)⟩) rfl rfl (Nat.le_of_ble_eq_true rfl) (Nat.le_of_ble_eq_true rfl) (Nat.le_of_ble_eq_true rfl) (Nat.le_of_ble_eq_true rfl) at_21 rfl rfl (pureK ?_)
  show W B h2 1 13 (a1 :: M) (true, []) 24 #[.val (.int p0), .val (.int p1), .val (.int p2), .val (.int p3), .val (.int p4), .val (.int m), .val (.ref a1), .unset, .unset, .unset, .unset] [(.int (pk m (82 : Int32) p0 (0 : Int32))), (.int (0 : Int32)), (.ref a1)]
  have r0 := pk_rng (m := m) (t := (82 : Int32)) (w := p0) (s := (0 : Int32)) (by decide)
  generalize pk m (82 : Int32) p0 (0 : Int32) = x0 at *
  refine W.castore ok (pc' := 25) (cl' := (true, [])) A6 (by decide) (Nat.le_of_ble_eq_true rfl) (List.mem_cons_self ..) (Or.inr z3) (fun q => ⟨q, z3⟩) rfl at_24 rfl (fun h7 Wr8 A9 => ?_)
  replace A9 := A9.cast (cs' := [x0, 0, 0, 0, 0, 0, 0, 0, 0, 0, 0, 0, 0]) (by rw [c16_of ⟨r0.1, by omega⟩]; rfl)
  refine W.aload ok (pc' := 27) at_25 rfl rfl rfl ?_
  refine W.iconst ok (pc' := 28) (1 : Int32) at_27 rfl rfl ?_
  refine W.iload ok (pc' := 30) at_28 rfl rfl ?_
  refine W.bipush ok (pc' := 32) (83 : Int32) at_30 rfl rfl ?_
  refine W.iloadN ok (pc' := 33) at_32 rfl rfl ?_
  refine W.bipush ok (pc' := 35) (8 : Int32) at_33 rfl rfl ?_
  refine W.callS ok (rest := [(.int (1 : Int32)), (.ref a1)]) (cl' := (true, [])) (pc' := 38) (w1 hw) (w2 hw) (w3 hw) (w4 hw) (by decide) pd_12 rfl (k_pick l Z a0 hE m (83 : Int32) p0 (8 : Int32) h7 rfl) (fun _ q => (nomatch q)) (fun q => ⟨q, fun _ q => (nomatch q)⟩) rfl rfl (Nat.le_of_ble_eq_true rfl) (Nat.le_of_ble_eq_true rfl) (Nat.le_of_ble_eq_true rfl) (Nat.le_of_ble_eq_true rfl) at_35 rfl rfl (pureK ?_)
  show W B h7 1 13 (a1 :: M) (true, []) 38 #[.val (.int p0), .val (.int p1), .val (.int p2), .val (.int p3), .val (.int p4), .val (.int m), .val (.ref a1), .unset, .unset, .unset, .unset] [(.int (pk m (83 : Int32) p0 (8 : Int32))), (.int (1 : Int32)), (.ref a1)]
  have r1 := pk_rng (m := m) (t := (83 : Int32)) (w := p0) (s := (8 : Int32)) (by decide)
  generalize pk m (83 : Int32) p0 (8 : Int32) = x1 at *
  refine W.castore ok (pc' := 39) (cl' := (true, [])) A9 (by decide) (Nat.le_of_ble_eq_true rfl) (List.mem_cons_self ..) (Or.inr z3) (fun q => ⟨q, z3⟩) rfl at_38 rfl (fun h10 Wr11 A12 => ?_)
  replace A12 := A12.cast (cs' := [x0, x1, 0, 0, 0, 0, 0, 0, 0, 0, 0, 0, 0]) (by rw [c16_of ⟨r1.1, by omega⟩]; rfl)
  refine W.aload ok (pc' := 41) at_39 rfl rfl rfl ?_
  refine W.iconst ok (pc' := 42) (2 : Int32) at_41 rfl rfl ?_
  refine W.iload ok (pc' := 44) at_42 rfl rfl ?_
  refine W.bipush ok (pc' := 46) (65 : Int32) at_44 rfl rfl ?_
  refine W.iloadN ok (pc' := 47) at_46 rfl rfl ?_
  refine W.bipush ok (pc' := 49) (16 : Int32) at_47 rfl rfl ?_
  refine W.callS ok (rest := [(.int (2 : Int32)), (.ref a1)]) (cl' := (true, [])) (pc' := 52) (w1 hw) (w2 hw) (w3 hw) (w4 hw) (by decide) pd_12 rfl (k_pick l Z a0 hE m (65 : Int32) p0 (16 : Int32) h10 rfl) (fun _ q => (nomatch q)) (fun q => ⟨q, fun _ q => (nomatch q)⟩) rfl rfl (Nat.le_of_ble_eq_true rfl) (Nat.le_of_ble_eq_true rfl) (Nat.le_of_ble_eq_true rfl) (Nat.le_of_ble_eq_true rfl) at_49 rfl rfl (pureK ?_)
  show W B h10 1 13 (a1 :: M) (true, []) 52 #[.val (.int p0), .val (.int p1), .val (.int p2), .val (.int p3), .val (.int p4), .val (.int m), .val (.ref a1), .unset, .unset, .unset, .unset] [(.int (pk m (65 : Int32) p0 (16 : Int32))), (.int (2 : Int32)), (.ref a1)]
  have r2 := pk_rng (m := m) (t := (65 : Int32)) (w := p0) (s := (16 : Int32)) (by decide)
  generalize pk m (65 : Int32) p0 (16 : Int32) = x2 at *
  refine W.castore ok (pc' := 53) (cl' := (true, [])) A12 (by decide) (Nat.le_of_ble_eq_true rfl) (List.mem_cons_self ..) (Or.inr z3) (fun q => ⟨q, z3⟩) rfl at_52 rfl (fun h13 Wr14 A15 => ?_)
  replace A15 := A15.cast (cs' := [x0, x1, x2, 0, 0, 0, 0, 0, 0, 0, 0, 0, 0]) (by rw [c16_of ⟨r2.1, by omega⟩]; rfl)
  refine W.aload ok (pc' := 55) at_53 rfl rfl rfl ?_
  refine W.iconst ok (pc' := 56) (3 : Int32) at_55 rfl rfl ?_
  refine W.iload ok (pc' := 58) at_56 rfl rfl ?_
  refine W.bipush ok (pc' := 60) (45 : Int32) at_58 rfl rfl ?_
  refine W.iloadN ok (pc' := 61) at_60 rfl rfl ?_
  refine W.bipush ok (pc' := 63) (24 : Int32) at_61 rfl rfl ?_
  refine W.callS ok (rest := [(.int (3 : Int32)), (.ref a1)]) (cl' := (true, [])) (pc' := 66) (w1 hw) (w2 hw) (w3 hw) (w4 hw) (by decide) pd_12 rfl (k_pick l Z a0 hE m (45 : Int32) p0 (24 : Int32) h13 rfl) (fun _ q => (nomatch q)) (fun q => ⟨q, fun _ q => (nomatch q)⟩) rfl rfl (Nat.le_of_ble_eq_true rfl) (Nat.le_of_ble_eq_true rfl) (Nat.le_of_ble_eq_true rfl) (Nat.le_of_ble_eq_true rfl) at_63 rfl rfl (pureK ?_)
  show W B h13 1 13 (a1 :: M) (true, []) 66 #[.val (.int p0), .val (.int p1), .val (.int p2), .val (.int p3), .val (.int p4), .val (.int m), .val (.ref a1), .unset, .unset, .unset, .unset] [(.int (pk m (45 : Int32) p0 (24 : Int32))), (.int (3 : Int32)), (.ref a1)]
  have r3 := pk_rng (m := m) (t := (45 : Int32)) (w := p0) (s := (24 : Int32)) (by decide)
  generalize pk m (45 : Int32) p0 (24 : Int32) = x3 at *
  refine W.castore ok (pc' := 67) (cl' := (true, [])) A15 (by decide) (Nat.le_of_ble_eq_true rfl) (List.mem_cons_self ..) (Or.inr z3) (fun q => ⟨q, z3⟩) rfl at_66 rfl (fun h16 Wr17 A18 => ?_)
  replace A18 := A18.cast (cs' := [x0, x1, x2, x3, 0, 0, 0, 0, 0, 0, 0, 0, 0]) (by rw [c16_of ⟨r3.1, by omega⟩]; rfl)
  refine W.aload ok (pc' := 69) at_67 rfl rfl rfl ?_
  refine W.iconst ok (pc' := 70) (4 : Int32) at_69 rfl rfl ?_
  refine W.iload ok (pc' := 72) at_70 rfl rfl ?_
  refine W.bipush ok (pc' := 74) (79 : Int32) at_72 rfl rfl ?_
  refine W.iloadN ok (pc' := 75) at_74 rfl rfl ?_
  refine W.iconst ok (pc' := 76) (0 : Int32) at_75 rfl rfl ?_
  refine W.callS ok (rest := [(.int (4 : Int32)), (.ref a1)]) (cl' := (true, [])) (pc' := 79) (w1 hw) (w2 hw) (w3 hw) (w4 hw) (by decide) pd_12 rfl (k_pick l Z a0 hE m (79 : Int32) p1 (0 : Int32) h16 rfl) (fun _ q => (nomatch q)) (fun q => ⟨q, fun _ q => (nomatch q)⟩) rfl rfl (Nat.le_of_ble_eq_true rfl) (Nat.le_of_ble_eq_true rfl) (Nat.le_of_ble_eq_true rfl) (Nat.le_of_ble_eq_true rfl) at_76 rfl rfl (pureK ?_)
  show W B h16 1 13 (a1 :: M) (true, []) 79 #[.val (.int p0), .val (.int p1), .val (.int p2), .val (.int p3), .val (.int p4), .val (.int m), .val (.ref a1), .unset, .unset, .unset, .unset] [(.int (pk m (79 : Int32) p1 (0 : Int32))), (.int (4 : Int32)), (.ref a1)]
  have r4 := pk_rng (m := m) (t := (79 : Int32)) (w := p1) (s := (0 : Int32)) (by decide)
  generalize pk m (79 : Int32) p1 (0 : Int32) = x4 at *
  refine W.castore ok (pc' := 80) (cl' := (true, [])) A18 (by decide) (Nat.le_of_ble_eq_true rfl) (List.mem_cons_self ..) (Or.inr z3) (fun q => ⟨q, z3⟩) rfl at_79 rfl (fun h19 Wr20 A21 => ?_)
  replace A21 := A21.cast (cs' := [x0, x1, x2, x3, x4, 0, 0, 0, 0, 0, 0, 0, 0]) (by rw [c16_of ⟨r4.1, by omega⟩]; rfl)
  refine W.aload ok (pc' := 82) at_80 rfl rfl rfl ?_
  refine W.iconst ok (pc' := 83) (5 : Int32) at_82 rfl rfl ?_
  refine W.iload ok (pc' := 85) at_83 rfl rfl ?_
  refine W.bipush ok (pc' := 87) (65 : Int32) at_85 rfl rfl ?_
  refine W.iloadN ok (pc' := 88) at_87 rfl rfl ?_
  refine W.bipush ok (pc' := 90) (8 : Int32) at_88 rfl rfl ?_
  refine W.callS ok (rest := [(.int (5 : Int32)), (.ref a1)]) (cl' := (true, [])) (pc' := 93) (w1 hw) (w2 hw) (w3 hw) (w4 hw) (by decide) pd_12 rfl (k_pick l Z a0 hE m (65 : Int32) p1 (8 : Int32) h19 rfl) (fun _ q => (nomatch q)) (fun q => ⟨q, fun _ q => (nomatch q)⟩) rfl rfl (Nat.le_of_ble_eq_true rfl) (Nat.le_of_ble_eq_true rfl) (Nat.le_of_ble_eq_true rfl) (Nat.le_of_ble_eq_true rfl) at_90 rfl rfl (pureK ?_)
  show W B h19 1 13 (a1 :: M) (true, []) 93 #[.val (.int p0), .val (.int p1), .val (.int p2), .val (.int p3), .val (.int p4), .val (.int m), .val (.ref a1), .unset, .unset, .unset, .unset] [(.int (pk m (65 : Int32) p1 (8 : Int32))), (.int (5 : Int32)), (.ref a1)]
  have r5 := pk_rng (m := m) (t := (65 : Int32)) (w := p1) (s := (8 : Int32)) (by decide)
  generalize pk m (65 : Int32) p1 (8 : Int32) = x5 at *
  refine W.castore ok (pc' := 94) (cl' := (true, [])) A21 (by decide) (Nat.le_of_ble_eq_true rfl) (List.mem_cons_self ..) (Or.inr z3) (fun q => ⟨q, z3⟩) rfl at_93 rfl (fun h22 Wr23 A24 => ?_)
  replace A24 := A24.cast (cs' := [x0, x1, x2, x3, x4, x5, 0, 0, 0, 0, 0, 0, 0]) (by rw [c16_of ⟨r5.1, by omega⟩]; rfl)
  refine W.aload ok (pc' := 96) at_94 rfl rfl rfl ?_
  refine W.bipush ok (pc' := 98) (6 : Int32) at_96 rfl rfl ?_
  refine W.iload ok (pc' := 100) at_98 rfl rfl ?_
  refine W.bipush ok (pc' := 102) (69 : Int32) at_100 rfl rfl ?_
  refine W.iloadN ok (pc' := 103) at_102 rfl rfl ?_
  refine W.bipush ok (pc' := 105) (16 : Int32) at_103 rfl rfl ?_
  refine W.callS ok (rest := [(.int (6 : Int32)), (.ref a1)]) (cl' := (true, [])) (pc' := 108) (w1 hw) (w2 hw) (w3 hw) (w4 hw) (by decide) pd_12 rfl (k_pick l Z a0 hE m (69 : Int32) p1 (16 : Int32) h22 rfl) (fun _ q => (nomatch q)) (fun q => ⟨q, fun _ q => (nomatch q)⟩) rfl rfl (Nat.le_of_ble_eq_true rfl) (Nat.le_of_ble_eq_true rfl) (Nat.le_of_ble_eq_true rfl) (Nat.le_of_ble_eq_true rfl) at_105 rfl rfl (pureK ?_)
  show W B h22 1 13 (a1 :: M) (true, []) 108 #[.val (.int p0), .val (.int p1), .val (.int p2), .val (.int p3), .val (.int p4), .val (.int m), .val (.ref a1), .unset, .unset, .unset, .unset] [(.int (pk m (69 : Int32) p1 (16 : Int32))), (.int (6 : Int32)), (.ref a1)]
  have r6 := pk_rng (m := m) (t := (69 : Int32)) (w := p1) (s := (16 : Int32)) (by decide)
  generalize pk m (69 : Int32) p1 (16 : Int32) = x6 at *
  refine W.castore ok (pc' := 109) (cl' := (true, [])) A24 (by decide) (Nat.le_of_ble_eq_true rfl) (List.mem_cons_self ..) (Or.inr z3) (fun q => ⟨q, z3⟩) rfl at_108 rfl (fun h25 Wr26 A27 => ?_)
  replace A27 := A27.cast (cs' := [x0, x1, x2, x3, x4, x5, x6, 0, 0, 0, 0, 0, 0]) (by rw [c16_of ⟨r6.1, by omega⟩]; rfl)
  refine W.aload ok (pc' := 111) at_109 rfl rfl rfl ?_
  refine W.bipush ok (pc' := 113) (7 : Int32) at_111 rfl rfl ?_
  refine W.iload ok (pc' := 115) at_113 rfl rfl ?_
  refine W.bipush ok (pc' := 117) (80 : Int32) at_115 rfl rfl ?_
  refine W.iloadN ok (pc' := 118) at_117 rfl rfl ?_
  refine W.bipush ok (pc' := 120) (24 : Int32) at_118 rfl rfl ?_
  refine W.callS ok (rest := [(.int (7 : Int32)), (.ref a1)]) (cl' := (true, [])) (pc' := 123) (w1 hw) (w2 hw) (w3 hw) (w4 hw) (by decide) pd_12 rfl (k_pick l Z a0 hE m (80 : Int32) p1 (24 : Int32) h25 rfl) (fun _ q => (nomatch q)) (fun q => ⟨q, fun _ q => (nomatch q)⟩) rfl rfl (Nat.le_of_ble_eq_true rfl) (Nat.le_of_ble_eq_true rfl) (Nat.le_of_ble_eq_true rfl) (Nat.le_of_ble_eq_true rfl) at_120 rfl rfl (pureK ?_)
  show W B h25 1 13 (a1 :: M) (true, []) 123 #[.val (.int p0), .val (.int p1), .val (.int p2), .val (.int p3), .val (.int p4), .val (.int m), .val (.ref a1), .unset, .unset, .unset, .unset] [(.int (pk m (80 : Int32) p1 (24 : Int32))), (.int (7 : Int32)), (.ref a1)]
  have r7 := pk_rng (m := m) (t := (80 : Int32)) (w := p1) (s := (24 : Int32)) (by decide)
  generalize pk m (80 : Int32) p1 (24 : Int32) = x7 at *
  refine W.castore ok (pc' := 124) (cl' := (true, [])) A27 (by decide) (Nat.le_of_ble_eq_true rfl) (List.mem_cons_self ..) (Or.inr z3) (fun q => ⟨q, z3⟩) rfl at_123 rfl (fun h28 Wr29 A30 => ?_)
  replace A30 := A30.cast (cs' := [x0, x1, x2, x3, x4, x5, x6, x7, 0, 0, 0, 0, 0]) (by rw [c16_of ⟨r7.1, by omega⟩]; rfl)
  refine W.aload ok (pc' := 126) at_124 rfl rfl rfl ?_
  refine W.bipush ok (pc' := 128) (8 : Int32) at_126 rfl rfl ?_
  refine W.iload ok (pc' := 130) at_128 rfl rfl ?_
  refine W.bipush ok (pc' := 132) (45 : Int32) at_130 rfl rfl ?_
  refine W.iloadN ok (pc' := 133) at_132 rfl rfl ?_
  refine W.iconst ok (pc' := 134) (0 : Int32) at_133 rfl rfl ?_
  refine W.callS ok (rest := [(.int (8 : Int32)), (.ref a1)]) (cl' := (true, [])) (pc' := 137) (w1 hw) (w2 hw) (w3 hw) (w4 hw) (by decide) pd_12 rfl (k_pick l Z a0 hE m (45 : Int32) p2 (0 : Int32) h28 rfl) (fun _ q => (nomatch q)) (fun q => ⟨q, fun _ q => (nomatch q)⟩) rfl rfl (Nat.le_of_ble_eq_true rfl) (Nat.le_of_ble_eq_true rfl) (Nat.le_of_ble_eq_true rfl) (Nat.le_of_ble_eq_true rfl) at_134 rfl rfl (pureK ?_)
  show W B h28 1 13 (a1 :: M) (true, []) 137 #[.val (.int p0), .val (.int p1), .val (.int p2), .val (.int p3), .val (.int p4), .val (.int m), .val (.ref a1), .unset, .unset, .unset, .unset] [(.int (pk m (45 : Int32) p2 (0 : Int32))), (.int (8 : Int32)), (.ref a1)]
  have r8 := pk_rng (m := m) (t := (45 : Int32)) (w := p2) (s := (0 : Int32)) (by decide)
  generalize pk m (45 : Int32) p2 (0 : Int32) = x8 at *
  refine W.castore ok (pc' := 138) (cl' := (true, [])) A30 (by decide) (Nat.le_of_ble_eq_true rfl) (List.mem_cons_self ..) (Or.inr z3) (fun q => ⟨q, z3⟩) rfl at_137 rfl (fun h31 Wr32 A33 => ?_)
  replace A33 := A33.cast (cs' := [x0, x1, x2, x3, x4, x5, x6, x7, x8, 0, 0, 0, 0]) (by rw [c16_of ⟨r8.1, by omega⟩]; rfl)
  refine W.aload ok (pc' := 140) at_138 rfl rfl rfl ?_
  refine W.bipush ok (pc' := 142) (9 : Int32) at_140 rfl rfl ?_
  refine W.iload ok (pc' := 144) at_142 rfl rfl ?_
  refine W.bipush ok (pc' := 146) (50 : Int32) at_144 rfl rfl ?_
  refine W.iloadN ok (pc' := 147) at_146 rfl rfl ?_
  refine W.bipush ok (pc' := 149) (8 : Int32) at_147 rfl rfl ?_
  refine W.callS ok (rest := [(.int (9 : Int32)), (.ref a1)]) (cl' := (true, [])) (pc' := 152) (w1 hw) (w2 hw) (w3 hw) (w4 hw) (by decide) pd_12 rfl (k_pick l Z a0 hE m (50 : Int32) p2 (8 : Int32) h31 rfl) (fun _ q => (nomatch q)) (fun q => ⟨q, fun _ q => (nomatch q)⟩) rfl rfl (Nat.le_of_ble_eq_true rfl) (Nat.le_of_ble_eq_true rfl) (Nat.le_of_ble_eq_true rfl) (Nat.le_of_ble_eq_true rfl) at_149 rfl rfl (pureK ?_)
  show W B h31 1 13 (a1 :: M) (true, []) 152 #[.val (.int p0), .val (.int p1), .val (.int p2), .val (.int p3), .val (.int p4), .val (.int m), .val (.ref a1), .unset, .unset, .unset, .unset] [(.int (pk m (50 : Int32) p2 (8 : Int32))), (.int (9 : Int32)), (.ref a1)]
  have r9 := pk_rng (m := m) (t := (50 : Int32)) (w := p2) (s := (8 : Int32)) (by decide)
  generalize pk m (50 : Int32) p2 (8 : Int32) = x9 at *
  refine W.castore ok (pc' := 153) (cl' := (true, [])) A33 (by decide) (Nat.le_of_ble_eq_true rfl) (List.mem_cons_self ..) (Or.inr z3) (fun q => ⟨q, z3⟩) rfl at_152 rfl (fun h34 Wr35 A36 => ?_)
  replace A36 := A36.cast (cs' := [x0, x1, x2, x3, x4, x5, x6, x7, x8, x9, 0, 0, 0]) (by rw [c16_of ⟨r9.1, by omega⟩]; rfl)
  refine W.aload ok (pc' := 155) at_153 rfl rfl rfl ?_
  refine W.bipush ok (pc' := 157) (10 : Int32) at_155 rfl rfl ?_
  refine W.iload ok (pc' := 159) at_157 rfl rfl ?_
  refine W.bipush ok (pc' := 161) (53 : Int32) at_159 rfl rfl ?_
  refine W.iloadN ok (pc' := 162) at_161 rfl rfl ?_
  refine W.bipush ok (pc' := 164) (16 : Int32) at_162 rfl rfl ?_
  refine W.callS ok (rest := [(.int (10 : Int32)), (.ref a1)]) (cl' := (true, [])) (pc' := 167) (w1 hw) (w2 hw) (w3 hw) (w4 hw) (by decide) pd_12 rfl (k_pick l Z a0 hE m (53 : Int32) p2 (16 : Int32) h34 rfl) (fun _ q => (nomatch q)) (fun q => ⟨q, fun _ q => (nomatch q)⟩) rfl rfl (Nat.le_of_ble_eq_true rfl) (Nat.le_of_ble_eq_true rfl) (Nat.le_of_ble_eq_true rfl) (Nat.le_of_ble_eq_true rfl) at_164 rfl rfl (pureK ?_)
  show W B h34 1 13 (a1 :: M) (true, []) 167 #[.val (.int p0), .val (.int p1), .val (.int p2), .val (.int p3), .val (.int p4), .val (.int m), .val (.ref a1), .unset, .unset, .unset, .unset] [(.int (pk m (53 : Int32) p2 (16 : Int32))), (.int (10 : Int32)), (.ref a1)]
  have r10 := pk_rng (m := m) (t := (53 : Int32)) (w := p2) (s := (16 : Int32)) (by decide)
  generalize pk m (53 : Int32) p2 (16 : Int32) = x10 at *
  refine W.castore ok (pc' := 168) (cl' := (true, [])) A36 (by decide) (Nat.le_of_ble_eq_true rfl) (List.mem_cons_self ..) (Or.inr z3) (fun q => ⟨q, z3⟩) rfl at_167 rfl (fun h37 Wr38 A39 => ?_)
  replace A39 := A39.cast (cs' := [x0, x1, x2, x3, x4, x5, x6, x7, x8, x9, x10, 0, 0]) (by rw [c16_of ⟨r10.1, by omega⟩]; rfl)
  refine W.aload ok (pc' := 170) at_168 rfl rfl rfl ?_
  refine W.bipush ok (pc' := 172) (11 : Int32) at_170 rfl rfl ?_
  refine W.iload ok (pc' := 174) at_172 rfl rfl ?_
  refine W.bipush ok (pc' := 176) (54 : Int32) at_174 rfl rfl ?_
  refine W.iloadN ok (pc' := 177) at_176 rfl rfl ?_
  refine W.bipush ok (pc' := 179) (24 : Int32) at_177 rfl rfl ?_
  refine W.callS ok (rest := [(.int (11 : Int32)), (.ref a1)]) (cl' := (true, [])) (pc' := 182) (w1 hw) (w2 hw) (w3 hw) (w4 hw) (by decide) pd_12 rfl (k_pick l Z a0 hE m (54 : Int32) p2 (24 : Int32) h37 rfl) (fun _ q => (nomatch q)) (fun q => ⟨q, fun _ q => (nomatch q)⟩) rfl rfl (Nat.le_of_ble_eq_true rfl) (Nat.le_of_ble_eq_true rfl) (Nat.le_of_ble_eq_true rfl) (Nat.le_of_ble_eq_true rfl) at_179 rfl rfl (pureK ?_)
  show W B h37 1 13 (a1 :: M) (true, []) 182 #[.val (.int p0), .val (.int p1), .val (.int p2), .val (.int p3), .val (.int p4), .val (.int m), .val (.ref a1), .unset, .unset, .unset, .unset] [(.int (pk m (54 : Int32) p2 (24 : Int32))), (.int (11 : Int32)), (.ref a1)]
  have r11 := pk_rng (m := m) (t := (54 : Int32)) (w := p2) (s := (24 : Int32)) (by decide)
  generalize pk m (54 : Int32) p2 (24 : Int32) = x11 at *
  refine W.castore ok (pc' := 183) (cl' := (true, [])) A39 (by decide) (Nat.le_of_ble_eq_true rfl) (List.mem_cons_self ..) (Or.inr z3) (fun q => ⟨q, z3⟩) rfl at_182 rfl (fun h40 Wr41 A42 => ?_)
  replace A42 := A42.cast (cs' := [x0, x1, x2, x3, x4, x5, x6, x7, x8, x9, x10, x11, 0]) (by rw [c16_of ⟨r11.1, by omega⟩]; rfl)
  refine W.aload ok (pc' := 185) at_183 rfl rfl rfl ?_
  refine W.bipush ok (pc' := 187) (12 : Int32) at_185 rfl rfl ?_
  refine W.iload ok (pc' := 189) at_187 rfl rfl ?_
  refine W.iloadN ok (pc' := 190) at_189 rfl rfl ?_
  refine W.bipush ok (pc' := 192) (16 : Int32) at_190 rfl rfl ?_
  refine W.iushr ok (pc' := 193) at_192 rfl ?_
  refine W.sipush ok (pc' := 196) (255 : Int32) at_193 rfl rfl ?_
  refine W.iand ok (pc' := 197) at_196 rfl ?_
  refine W.i2c ok (pc' := 198) at_197 rfl ?_
  refine W.iloadN ok (pc' := 199) at_198 rfl rfl ?_
  refine W.iconst ok (pc' := 200) (0 : Int32) at_199 rfl rfl ?_
  refine W.callS ok (rest := [(.int (12 : Int32)), (.ref a1)]) (cl' := (true, [])) (pc' := 203) (w1 hw) (w2 hw) (w3 hw) (w4 hw) (by decide) pd_12 rfl (k_pick l Z a0 hE m (c16 ((XT.ushr p3 (16 : Int32)) &&& (255 : Int32))) p3 (0 : Int32) h40 (c16_c16 _)) (fun _ q => (nomatch q)) (fun q => ⟨q, fun _ q => (nomatch q)⟩) rfl rfl (Nat.le_of_ble_eq_true rfl) (Nat.le_of_ble_eq_true rfl) (Nat.le_of_ble_eq_true rfl) (Nat.le_of_ble_eq_true rfl) at_200 rfl rfl (pureK ?_)
  show W B h40 1 13 (a1 :: M) (true, []) 203 #[.val (.int p0), .val (.int p1), .val (.int p2), .val (.int p3), .val (.int p4), .val (.int m), .val (.ref a1), .unset, .unset, .unset, .unset] [(.int (pk m (c16 ((XT.ushr p3 (16 : Int32)) &&& (255 : Int32))) p3 (0 : Int32))), (.int (12 : Int32)), (.ref a1)]
  have r12 := pk_rng (m := m) (t := c16 ((XT.ushr p3 (16 : Int32)) &&& (255 : Int32))) (w := p3) (s := (0 : Int32)) (lowI _)
  generalize pk m (c16 ((XT.ushr p3 (16 : Int32)) &&& (255 : Int32))) p3 (0 : Int32) = x12 at *
  refine W.castore ok (pc' := 204) (cl' := (true, [])) A42 (by decide) (Nat.le_of_ble_eq_true rfl) (List.mem_cons_self ..) (Or.inr z3) (fun q => ⟨q, z3⟩) rfl at_203 rfl (fun h43 Wr44 A45 => ?_)
  replace A45 := A45.cast (cs' := [x0, x1, x2, x3, x4, x5, x6, x7, x8, x9, x10, x11, x12]) (by rw [c16_of ⟨r12.1, by omega⟩]; rfl)
  have hall : ∀ x ∈ ([x0, x1, x2, x3, x4, x5, x6, x7, x8, x9, x10, x11, x12] : List Int32), 0 ≤ x.toInt ∧ x.toInt ≤ 255 := (by simp only [List.mem_cons, List.not_mem_nil, or_false]; rintro x (rfl | rfl | rfl | rfl | rfl | rfl | rfl | rfl | rfl | rfl | rfl | rfl | rfl) <;> assumption)
  have seg229 : ∀ (hh : Heap) (xs : List Int32), ArI Z hh a1 .char xs → xs.length = 13 → (∀ x ∈ xs, 0 ≤ x.toInt ∧ x.toInt ≤ 255) → W B hh 1 13 (a1 :: M) (true, []) 229 #[.val (.int p0), .val (.int p1), .val (.int p2), .val (.int p3), .val (.int p4), .val (.int m), .val (.ref a1), .unset, .unset, .unset, .unset] [] := by
    intro hh xs A hx hr
    obtain ⟨x0, x1, x2, x3, x4, x5, x6, x7, x8, x9, x10, x11, x12, rfl⟩ := dec13 hx
    refine W.iload ok (pc' := 231) at_229 rfl rfl ?_
    refine W.bipush ok (pc' := 233) (8 : Int32) at_231 rfl rfl ?_
    refine W.iushr ok (pc' := 234) at_233 rfl ?_
    refine W.bipush ok (pc' := 236) (14 : Int32) at_234 rfl rfl ?_
    refine W.irem ok (pc' := 237) at_236 rfl (by decide) ?_
    generalize hlz : ((XT.ushr p4 (8 : Int32)) % (14 : Int32)) = lz
    obtain ⟨ln, eln, hln⟩ : ∃ n : Nat, lz = n.toInt32 ∧ n ≤ 13 := by
      have m1 := ushr_nn p4 8 8 (by decide) (by decide)
      have m2 := rem_rng (x := XT.ushr p4 8) (y := 14) (d := 14) rfl (by decide) m1
      rw [hlz] at m2
      obtain ⟨n, e1, e2⟩ := i32_of m2.1
      exact ⟨n, e1, by omega⟩
    subst eln
    refine W.istore ok (pc' := 239) (L' := #[.val (.int p0), .val (.int p1), .val (.int p2), .val (.int p3), .val (.int p4), .val (.int m), .val (.ref a1), .val (.int ln.toInt32), .unset, .unset, .unset]) at_237 rfl rfl ?_
    refine W.aload ok (pc' := 241) at_239 rfl rfl rfl ?_
    refine W.iload ok (pc' := 243) at_241 rfl rfl ?_
    refine W.callS ok (rest := []) (cl' := (true, [])) (pc' := 246) (w5 hw) (w6 hw) (w3 hw) (w7 hw) (by decide) pd_13 rfl (k_str l Z a0 hE a1 x0 x1 x2 x3 x4 x5 x6 x7 x8 x9 x10 x11 x12 ln hh A hr hln) (fun _ q => (nomatch q)) (fun q => ⟨q, fun _ q => (nomatch q)⟩) rfl rfl (Nat.le_of_ble_eq_true rfl) (Nat.le_of_ble_eq_true rfl) (Nat.le_of_ble_eq_true rfl) (Nat.le_of_ble_eq_true rfl) at_243 rfl rfl (fun v h46 hq K47 => ?_)
    obtain ⟨r, rfl, hr1, S1⟩ := hq
    show W B h46 7 42 (a1 :: M) (true, []) 246 #[.val (.int p0), .val (.int p1), .val (.int p2), .val (.int p3), .val (.int p4), .val (.int m), .val (.ref a1), .val (.int ln.toInt32), .unset, .unset, .unset] [(.ref r)]
    have lcs : (([x0, x1, x2, x3, x4, x5, x6, x7, x8, x9, x10, x11, x12] : List Int32).take ln).length ≤ 13 := by simp; omega
    generalize ([x0, x1, x2, x3, x4, x5, x6, x7, x8, x9, x10, x11, x12] : List Int32).take ln = cs at *
    refine W.astore ok (pc' := 248) (L' := #[.val (.int p0), .val (.int p1), .val (.int p2), .val (.int p3), .val (.int p4), .val (.int m), .val (.ref a1), .val (.int ln.toInt32), .val (.ref r), .unset, .unset]) at_246 rfl rfl rfl ?_
    refine W.aconstNull ok (pc' := 249) at_248 rfl ?_
    refine W.astore ok (pc' := 251) (L' := #[.val (.int p0), .val (.int p1), .val (.int p2), .val (.int p3), .val (.int p4), .val (.int m), .val (.ref a1), .val (.int ln.toInt32), .val (.ref r), .val .null, .unset]) at_249 rfl rfl rfl ?_
    refine W.aload ok (pc' := 253) at_251 rfl rfl rfl ?_
    refine W.ldcS ok (pc' := 255) rfl (text := "RSA-OAEP") (sz := 32) (w29 hw) (fun d hd => hw d ((by decide +kernel : ∀ d ∈ Bundle.stringAtoms, d ∈ tables_1) d hd)) (hE.held _ (List.mem_of_getElem? (i := 0) rfl)) hE.cw (by decide) (Or.inl rfl) (by decide) (by decide) at_253 rfl (Nat.le_of_ble_eq_true rfl) (Nat.le_of_ble_eq_true rfl) (fun a48 h49 E50 T1 => ?_)
    have S2 := S1.ext E50
    refine W.callV ok (rest := []) (cl' := (true, ("com/example/inkan/inkan/jose/KeyManagementAlgorithmNamedPinLaw", 17) :: [])) (pc' := 258) (w30 hw) (w31 hw) (w33 hw) (w32 hw) (w10 hw) (w34 hw) (by decide) S2.exa pd_9 rfl (k_eqS l Z a0 hE r a48 cs [82, 83, 65, 45, 79, 65, 69, 80] h49 S2.str (T1.str.cast (by decide)) (by omega) (by simp)) (fun _ q => (nomatch q)) (fun q => ⟨q, fun _ q => (nomatch q)⟩) rfl rfl (Nat.le_of_ble_eq_true rfl) (Nat.le_of_ble_eq_true rfl) (Nat.le_of_ble_eq_true rfl) (Nat.le_of_ble_eq_true rfl) at_255 rfl rfl (pureK ?_)
    show W B h49 9 78 (a1 :: M) (true, ("com/example/inkan/inkan/jose/KeyManagementAlgorithmNamedPinLaw", 17) :: []) 258 #[.val (.int p0), .val (.int p1), .val (.int p2), .val (.int p3), .val (.int p4), .val (.int m), .val (.ref a1), .val (.int ln.toInt32), .val (.ref r), .val .null, .unset] [(.int (if cs = [82, 83, 65, 45, 79, 65, 69, 80] then 1 else 0))]
    by_cases q1 : cs = [82, 83, 65, 45, 79, 65, 69, 80]
    · rw [if_pos q1]
      refine W.ifeq ok (pcY := 269) (pcN := 261) at_258 rfl (by decide) rfl (fun q => absurd q (by decide)) (fun _ => ?_)
      refine W.getS ok (pc' := 264) (w103 hw) Via.refl hk.2.2.2.2.2.1 at_261 rfl ?_
      refine W.astore ok (pc' := 266) (L' := #[.val (.int p0), .val (.int p1), .val (.int p2), .val (.int p3), .val (.int p4), .val (.int m), .val (.ref a1), .val (.int ln.toInt32), .val (.ref r), .val (.ref ra), .unset]) at_264 rfl rfl rfl ?_
      refine W.goto ok (pc' := 284) at_266 (by decide) rfl ?_
      refine W.aload ok (pc' := 286) at_284 rfl rfl rfl ?_
      refine W.callS ok (rest := []) (cl' := (true, ("com/example/inkan/inkan/jose/KeyManagementAlgorithmNamedPinLaw", 17) :: [])) (pc' := 289) (w42 hw) (w43 hw) (w44 hw) (w45 hw) (by decide) pd_14 rfl (k_named1 l Z a0 hE va ra rb sa sb cl0 r cs h49 hk S2.str lcs q1) (fun _ q => (nomatch q)) (fun q => ⟨q, fun _ q => (nomatch q)⟩) rfl rfl (Nat.le_of_ble_eq_true rfl) (Nat.le_of_ble_eq_true rfl) (Nat.le_of_ble_eq_true rfl) (Nat.le_of_ble_eq_true rfl) at_286 rfl rfl (fun v h51 hq K52 => ?_)
      obtain ⟨o, rfl, X1, F1⟩ := hq
      show W B h51 11 81 (a1 :: M) (true, ("com/example/inkan/inkan/jose/KeyManagementAlgorithmNamedPinLaw", 17) :: []) 289 #[.val (.int p0), .val (.int p1), .val (.int p2), .val (.int p3), .val (.int p4), .val (.int m), .val (.ref a1), .val (.int ln.toInt32), .val (.ref r), .val (.ref ra), .unset] [(.ref o)]
      refine W.astore ok (pc' := 291) (L' := #[.val (.int p0), .val (.int p1), .val (.int p2), .val (.int p3), .val (.int p4), .val (.int m), .val (.ref a1), .val (.int ln.toInt32), .val (.ref r), .val (.ref ra), .val (.ref o)]) at_289 rfl rfl rfl ?_
      refine W.aload ok (pc' := 293) at_291 rfl rfl rfl ?_
      refine W.aconstNull ok (pc' := 294) at_293 rfl ?_
      refine W.callV ok (rest := []) (cl' := (true, ("com/example/inkan/inkan/jose/KeyManagementAlgorithmNamedPinLaw", 17) :: [])) (pc' := 297) (w71 hw) (w72 hw) (w74 hw) (w73 hw) (w68 hw) (w75 hw) (by decide) X1 pd_6 rfl (k_orR l Z a0 hE o ra h51 F1) (fun _ q => (nomatch q)) (fun q => ⟨q, fun _ q => (nomatch q)⟩) rfl rfl (Nat.le_of_ble_eq_true rfl) (Nat.le_of_ble_eq_true rfl) (Nat.le_of_ble_eq_true rfl) (Nat.le_of_ble_eq_true rfl) at_294 rfl rfl (pureK ?_)
      show W B h51 11 81 (a1 :: M) (true, ("com/example/inkan/inkan/jose/KeyManagementAlgorithmNamedPinLaw", 17) :: []) 297 #[.val (.int p0), .val (.int p1), .val (.int p2), .val (.int p3), .val (.int p4), .val (.int m), .val (.ref a1), .val (.int ln.toInt32), .val (.ref r), .val (.ref ra), .val (.ref o)] [(.ref ra)]
      refine W.aload ok (pc' := 299) at_297 rfl rfl rfl ?_
      refine W.acmpne ok (pcY := 306) (pcN := 302) at_299 rfl rfl rfl (by decide) rfl (fun _ => ?_) (fun q => absurd rfl q)
      refine W.iconst ok (pc' := 303) (1 : Int32) at_302 rfl rfl ?_
      refine W.goto ok (pc' := 307) at_303 (by decide) rfl ?_
      exact W.retZ ok at_307 rfl (Nat.le_of_ble_eq_true rfl) (Nat.le_of_ble_eq_true rfl) (fun x (q : x ∈ M) => (List.mem_cons_of_mem _ q)) (fun kp => rfl)
    · rw [if_neg q1]
      refine W.ifeq ok (pcY := 269) (pcN := 261) at_258 rfl (by decide) rfl (fun _ => ?_) (fun q => absurd rfl q)
      refine W.aload ok (pc' := 271) at_269 rfl rfl rfl ?_
      refine W.ldcS ok (pc' := 273) rfl (text := "RSA-OAEP-256") (sz := 48) (w41 hw) (fun d hd => hw d ((by decide +kernel : ∀ d ∈ Bundle.stringAtoms, d ∈ tables_1) d hd)) (hE.held _ (List.mem_of_getElem? (i := 1) rfl)) hE.cw (by decide) (Or.inl rfl) (by decide) (by decide) at_271 rfl (Nat.le_of_ble_eq_true rfl) (Nat.le_of_ble_eq_true rfl) (fun a53 h54 E55 T2 => ?_)
      have S3 := S2.ext E55
      refine W.callV ok (rest := []) (cl' := (true, ("com/example/inkan/inkan/jose/KeyManagementAlgorithmNamedPinLaw", 31) :: ("com/example/inkan/inkan/jose/KeyManagementAlgorithmNamedPinLaw", 17) :: [])) (pc' := 276) (w30 hw) (w31 hw) (w33 hw) (w32 hw) (w10 hw) (w34 hw) (by decide) S3.exa pd_9 rfl (k_eqS l Z a0 hE r a53 cs [82, 83, 65, 45, 79, 65, 69, 80, 45, 50, 53, 54] h54 S3.str (T2.str.cast (by decide)) (by omega) (by simp)) (fun _ q => (nomatch q)) (fun q => ⟨q, fun _ q => (nomatch q)⟩) rfl rfl (Nat.le_of_ble_eq_true rfl) (Nat.le_of_ble_eq_true rfl) (Nat.le_of_ble_eq_true rfl) (Nat.le_of_ble_eq_true rfl) at_273 rfl rfl (pureK ?_)
      show W B h54 11 130 (a1 :: M) (true, ("com/example/inkan/inkan/jose/KeyManagementAlgorithmNamedPinLaw", 31) :: ("com/example/inkan/inkan/jose/KeyManagementAlgorithmNamedPinLaw", 17) :: []) 276 #[.val (.int p0), .val (.int p1), .val (.int p2), .val (.int p3), .val (.int p4), .val (.int m), .val (.ref a1), .val (.int ln.toInt32), .val (.ref r), .val .null, .unset] [(.int (if cs = [82, 83, 65, 45, 79, 65, 69, 80, 45, 50, 53, 54] then 1 else 0))]
      by_cases q2 : cs = [82, 83, 65, 45, 79, 65, 69, 80, 45, 50, 53, 54]
      · rw [if_pos q2]
        refine W.ifeq ok (pcY := 284) (pcN := 279) at_276 rfl (by decide) rfl (fun q => absurd q (by decide)) (fun _ => ?_)
        refine W.getS ok (pc' := 282) (w88 hw) Via.refl hk.2.2.2.2.2.2.1 at_279 rfl ?_
        refine W.astore ok (pc' := 284) (L' := #[.val (.int p0), .val (.int p1), .val (.int p2), .val (.int p3), .val (.int p4), .val (.int m), .val (.ref a1), .val (.int ln.toInt32), .val (.ref r), .val (.ref rb), .unset]) at_282 rfl rfl rfl ?_
        refine W.aload ok (pc' := 286) at_284 rfl rfl rfl ?_
        refine W.callS ok (rest := []) (cl' := (true, ("com/example/inkan/inkan/jose/KeyManagementAlgorithmNamedPinLaw", 31) :: ("com/example/inkan/inkan/jose/KeyManagementAlgorithmNamedPinLaw", 17) :: [])) (pc' := 289) (w42 hw) (w43 hw) (w44 hw) (w45 hw) (by decide) pd_14 rfl (k_named2 l Z a0 hE va ra rb sa sb cl0 r cs h54 hk S3.str lcs q1 q2) (fun _ q => (nomatch q)) (fun q => ⟨q, fun _ q => (nomatch q)⟩) rfl rfl (Nat.le_of_ble_eq_true rfl) (Nat.le_of_ble_eq_true rfl) (Nat.le_of_ble_eq_true rfl) (Nat.le_of_ble_eq_true rfl) at_286 rfl rfl (fun v h56 hq K57 => ?_)
        obtain ⟨o, rfl, X1, F1⟩ := hq
        show W B h56 13 133 (a1 :: M) (true, ("com/example/inkan/inkan/jose/KeyManagementAlgorithmNamedPinLaw", 31) :: ("com/example/inkan/inkan/jose/KeyManagementAlgorithmNamedPinLaw", 17) :: []) 289 #[.val (.int p0), .val (.int p1), .val (.int p2), .val (.int p3), .val (.int p4), .val (.int m), .val (.ref a1), .val (.int ln.toInt32), .val (.ref r), .val (.ref rb), .unset] [(.ref o)]
        refine W.astore ok (pc' := 291) (L' := #[.val (.int p0), .val (.int p1), .val (.int p2), .val (.int p3), .val (.int p4), .val (.int m), .val (.ref a1), .val (.int ln.toInt32), .val (.ref r), .val (.ref rb), .val (.ref o)]) at_289 rfl rfl rfl ?_
        refine W.aload ok (pc' := 293) at_291 rfl rfl rfl ?_
        refine W.aconstNull ok (pc' := 294) at_293 rfl ?_
        refine W.callV ok (rest := []) (cl' := (true, ("com/example/inkan/inkan/jose/KeyManagementAlgorithmNamedPinLaw", 31) :: ("com/example/inkan/inkan/jose/KeyManagementAlgorithmNamedPinLaw", 17) :: [])) (pc' := 297) (w71 hw) (w72 hw) (w74 hw) (w73 hw) (w68 hw) (w75 hw) (by decide) X1 pd_6 rfl (k_orR l Z a0 hE o rb h56 F1) (fun _ q => (nomatch q)) (fun q => ⟨q, fun _ q => (nomatch q)⟩) rfl rfl (Nat.le_of_ble_eq_true rfl) (Nat.le_of_ble_eq_true rfl) (Nat.le_of_ble_eq_true rfl) (Nat.le_of_ble_eq_true rfl) at_294 rfl rfl (pureK ?_)
        show W B h56 13 133 (a1 :: M) (true, ("com/example/inkan/inkan/jose/KeyManagementAlgorithmNamedPinLaw", 31) :: ("com/example/inkan/inkan/jose/KeyManagementAlgorithmNamedPinLaw", 17) :: []) 297 #[.val (.int p0), .val (.int p1), .val (.int p2), .val (.int p3), .val (.int p4), .val (.int m), .val (.ref a1), .val (.int ln.toInt32), .val (.ref r), .val (.ref rb), .val (.ref o)] [(.ref rb)]
        refine W.aload ok (pc' := 299) at_297 rfl rfl rfl ?_
        refine W.acmpne ok (pcY := 306) (pcN := 302) at_299 rfl rfl rfl (by decide) rfl (fun _ => ?_) (fun q => absurd rfl q)
        refine W.iconst ok (pc' := 303) (1 : Int32) at_302 rfl rfl ?_
        refine W.goto ok (pc' := 307) at_303 (by decide) rfl ?_
        exact W.retZ ok at_307 rfl (Nat.le_of_ble_eq_true rfl) (Nat.le_of_ble_eq_true rfl) (fun x (q : x ∈ M) => (List.mem_cons_of_mem _ q)) (fun kp => rfl)
      · rw [if_neg q2]
        refine W.ifeq ok (pcY := 284) (pcN := 279) at_276 rfl (by decide) rfl (fun _ => ?_) (fun q => absurd rfl q)
        refine W.aload ok (pc' := 286) at_284 rfl rfl rfl ?_
        refine W.callS ok (rest := []) (cl' := (true, ("com/example/inkan/inkan/jose/KeyManagementAlgorithmNamedPinLaw", 31) :: ("com/example/inkan/inkan/jose/KeyManagementAlgorithmNamedPinLaw", 17) :: [])) (pc' := 289) (w42 hw) (w43 hw) (w44 hw) (w45 hw) (by decide) pd_14 rfl (k_named3 l Z a0 hE va ra rb sa sb cl0 r cs h54 hk S3.str lcs q1 q2) (fun _ q => (nomatch q)) (fun q => ⟨q, fun _ q => (nomatch q)⟩) rfl rfl (Nat.le_of_ble_eq_true rfl) (Nat.le_of_ble_eq_true rfl) (Nat.le_of_ble_eq_true rfl) (Nat.le_of_ble_eq_true rfl) at_286 rfl rfl (fun v h58 hq K59 => ?_)
        obtain ⟨o, rfl, X1, F1⟩ := hq
        show W B h58 12 132 (a1 :: M) (true, ("com/example/inkan/inkan/jose/KeyManagementAlgorithmNamedPinLaw", 31) :: ("com/example/inkan/inkan/jose/KeyManagementAlgorithmNamedPinLaw", 17) :: []) 289 #[.val (.int p0), .val (.int p1), .val (.int p2), .val (.int p3), .val (.int p4), .val (.int m), .val (.ref a1), .val (.int ln.toInt32), .val (.ref r), .val .null, .unset] [(.ref o)]
        refine W.astore ok (pc' := 291) (L' := #[.val (.int p0), .val (.int p1), .val (.int p2), .val (.int p3), .val (.int p4), .val (.int m), .val (.ref a1), .val (.int ln.toInt32), .val (.ref r), .val .null, .val (.ref o)]) at_289 rfl rfl rfl ?_
        refine W.aload ok (pc' := 293) at_291 rfl rfl rfl ?_
        refine W.aconstNull ok (pc' := 294) at_293 rfl ?_
        refine W.callV ok (rest := []) (cl' := (true, ("com/example/inkan/inkan/jose/KeyManagementAlgorithmNamedPinLaw", 31) :: ("com/example/inkan/inkan/jose/KeyManagementAlgorithmNamedPinLaw", 17) :: [])) (pc' := 297) (w71 hw) (w72 hw) (w74 hw) (w73 hw) (w68 hw) (w75 hw) (by decide) X1 pd_6 rfl (k_orN l Z a0 hE o h58 F1) (fun _ q => (nomatch q)) (fun q => ⟨q, fun _ q => (nomatch q)⟩) rfl rfl (Nat.le_of_ble_eq_true rfl) (Nat.le_of_ble_eq_true rfl) (Nat.le_of_ble_eq_true rfl) (Nat.le_of_ble_eq_true rfl) at_294 rfl rfl (pureK ?_)
        show W B h58 12 132 (a1 :: M) (true, ("com/example/inkan/inkan/jose/KeyManagementAlgorithmNamedPinLaw", 31) :: ("com/example/inkan/inkan/jose/KeyManagementAlgorithmNamedPinLaw", 17) :: []) 297 #[.val (.int p0), .val (.int p1), .val (.int p2), .val (.int p3), .val (.int p4), .val (.int m), .val (.ref a1), .val (.int ln.toInt32), .val (.ref r), .val .null, .val (.ref o)] [.null]
        refine W.aload ok (pc' := 299) at_297 rfl rfl rfl ?_
        refine W.acmpne ok (pcY := 306) (pcN := 302) at_299 rfl rfl rfl (by decide) rfl (fun _ => ?_) (fun q => absurd rfl q)
        refine W.iconst ok (pc' := 303) (1 : Int32) at_302 rfl rfl ?_
        refine W.goto ok (pc' := 307) at_303 (by decide) rfl ?_
        exact W.retZ ok at_307 rfl (Nat.le_of_ble_eq_true rfl) (Nat.le_of_ble_eq_true rfl) (fun x (q : x ∈ M) => (List.mem_cons_of_mem _ q)) (fun kp => rfl)
  refine W.iload ok (pc' := 206) at_204 rfl rfl ?_
  refine W.iconst ok (pc' := 207) (1 : Int32) at_206 rfl rfl ?_
  refine W.icmpne ok (pcY := 229) (pcN := 210) at_207 rfl (by decide) rfl (fun c1 => ?_) (fun c1 => ?_)
  · refine W.aload ok (pc' := 212) at_210 rfl rfl rfl ?_
    refine W.iload ok (pc' := 214) at_212 rfl rfl ?_
    refine W.iconst ok (pc' := 215) (2 : Int32) at_214 rfl rfl ?_
    refine W.iushr ok (pc' := 216) at_215 rfl ?_
    refine W.bipush ok (pc' := 218) (13 : Int32) at_216 rfl rfl ?_
    refine W.irem ok (pc' := 219) at_218 rfl (by decide) ?_
    generalize hiz : ((XT.ushr p4 (2 : Int32)) % (13 : Int32)) = iz
    have mi : 0 ≤ iz.toInt ∧ iz.toInt < 13 := by
      have m1 := ushr_nn p4 2 2 (by decide) (by decide)
      have m2 := rem_rng (x := XT.ushr p4 2) (y := 13) (d := 13) rfl (by decide) m1
      rw [hiz] at m2; exact m2
    refine W.iloadN ok (pc' := 220) at_219 rfl rfl ?_
    refine W.bipush ok (pc' := 222) (8 : Int32) at_220 rfl rfl ?_
    refine W.iushr ok (pc' := 223) at_222 rfl ?_
    refine W.sipush ok (pc' := 226) (255 : Int32) at_223 rfl rfl ?_
    refine W.iand ok (pc' := 227) at_226 rfl ?_
    refine W.i2c ok (pc' := 228) at_227 rfl ?_
    generalize hy : (c16 ((XT.ushr p3 (8 : Int32)) &&& (255 : Int32))) = y
    have ry : 0 ≤ y.toInt ∧ y.toInt ≤ 255 := by rw [← hy]; exact lowI _
    refine W.castore ok (pc' := 229) (cl' := (true, [])) A45 (by rw [neg_iff]; omega) (by simp only [Int32.toNatClampNeg, List.length_cons, List.length_nil]; omega) (List.mem_cons_self ..) (Or.inr z3) (fun q => ⟨q, z3⟩) rfl at_228 rfl (fun h60 Wr61 A62 => ?_)
    rw [c16_of ⟨ry.1, by omega⟩] at A62
    exact seg229 _ _ A62 (by simp) (fun z hz => (List.mem_or_eq_of_mem_set hz).elim (hall z) (fun e => e ▸ ry))
  · exact seg229 _ _ A45 rfl hall
set_option maxRecDepth 65536 in
set_option maxHeartbeats 4000000 in
theorem comes_1 {Post : Tables → Env → Array Value → State → Outcome → State → Prop} (hpost : ∀ tb e args s v u, (limb_1_1.after args s (.returned v) u = true ∧ limb_1_2.after args s (.returned v) u = true ∧ True) → ReturnedEndW s (.returned v) u (Jvm.fieldLocs frame_1_writes args s ++ Jvm.arrayLocs frame_1_arrays args s ++ Jvm.staticLocs frame_1_statics s) 32 3264 → Post tb e args s (.returned v) u) :
    ArmFor flags0 classFile x code maxLocals ret World_1 tables_1 room_1 Calls_1 rest_1 Pre_1 Post := by
  intro l hfl _ _ p e ha hc hk s m args below hf hA hF happ hP
  obtain ⟨hcalls, hrest, hpre⟩ := hP
  obtain ⟨-, -, -, hnamed, -, -, -, hat⟩ := (Spec.applies_iff hf).mp happ
  obtain ⟨hg, hn⟩ := and_e (Cond.before_iff.mp (show (Jvm.Cond.and given_1 narrow_1).before args s = true from hpre))
  obtain ⟨h1, g0⟩ := and_e hg
  obtain ⟨q0, g1⟩ := and_e g0
  obtain ⟨q1, g2⟩ := and_e g1
  obtain ⟨q2, g3⟩ := and_e g2
  obtain ⟨q3, g4⟩ := and_e g3
  obtain ⟨w0_, w1_, w2_, w3_, w4_, rfl⟩ : ∃ w0_ w1_ w2_ w3_ w4_ : Value, args = #[w0_, w1_, w2_, w3_, w4_] := by
    have hs : args.size = 5 := by simpa [Cond.value, given_1] using h1
    obtain ⟨L⟩ := args
    match L, hs with
    | [w0_, w1_, w2_, w3_, w4_], _ => exact ⟨w0_, w1_, w2_, w3_, w4_, rfl⟩
  have hw := fun d (hd : d ∈ tables_1) => atoms_spec (ws := Jvm.Cond.code x code maxLocals ret :: tables_1) hat d (List.mem_cons_of_mem _ hd)
  have hfit : Fit s := fun {y c} hc i hi => by
    obtain ⟨ha, rfl⟩ := Array.getElem?_eq_some_iff.mp hc
    have q := List.all_eq_true.mp ((Array.all_eq_true_iff_forall_mem.mp hF) _ (Array.getElem_mem ha)) i (List.mem_range.mpr hi)
    simpa [Array.getElem?_eq_getElem hi] using q
  obtain ⟨p0, e0_⟩ := is_v q0
  obtain rfl : w0_ = (.int p0) := Option.some.inj e0_
  obtain ⟨p1, e1_⟩ := is_v q1
  obtain rfl : w1_ = (.int p1) := Option.some.inj e1_
  obtain ⟨p2, e2_⟩ := is_v q2
  obtain rfl : w2_ = (.int p2) := Option.some.inj e2_
  obtain ⟨p3, e3_⟩ := is_v q3
  obtain rfl : w3_ = (.int p3) := Option.some.inj e3_
  obtain ⟨p4, e4_⟩ := is_v g4
  obtain rfl : w4_ = (.int p4) := Option.some.inj e4_
  obtain ⟨hsets, hown0⟩ := atoms_of _ (rest_1_c_eq ▸ (show rest_1_c.before _ s = true from hrest))
  have nC := not_v (Cond.before_iff.mp (hsets _ (List.mem_of_getElem? (i := 2) rfl)))
  obtain ⟨gC, eC⟩ := is_v (Cond.before_iff.mp (hsets _ (List.mem_of_getElem? (i := 1) rfl)))
  have sC : Sta s s.heap "java/lang/String" "COMPACT_STRINGS" "Z" (.int gC) := Sta.start eC (Or.inl (hsets _ (List.mem_of_getElem? (i := 0) rfl)))
  have cC : ¬ (gC = (0 : Int32)) := gotF (Cond.eq_ints eC (Term.int_eval (0))) nC
  obtain ⟨gF, eF, rF⟩ := isR_v (Cond.before_iff.mp (hsets _ (List.mem_of_getElem? (i := 8) rfl)))
  have sF : Sta s s.heap "jdk/internal/util/Preconditions" "SIOOBE_FORMATTER" "Ljava/util/function/BiFunction;" gF := Sta.start eF (Or.inl (hsets _ (List.mem_of_getElem? (i := 7) rfl)))
  obtain ⟨nw0, rw0⟩ := and_e hn
  obtain ⟨nw1, rw1⟩ := and_e rw0
  obtain ⟨nw2, rw2⟩ := and_e rw1
  obtain ⟨nw3, rw3⟩ := and_e rw2
  obtain ⟨nw4, rw4⟩ := and_e rw3
  obtain ⟨nw5, rw5⟩ := and_e rw4
  obtain ⟨nw6, rw6⟩ := and_e rw5
  obtain ⟨nw7, rw7⟩ := and_e rw6
  obtain ⟨nw8, rw8⟩ := and_e rw7
  obtain ⟨nw9, rw9⟩ := and_e rw8
  obtain ⟨nw10, rw10⟩ := and_e rw9
  obtain ⟨nw11, rw11⟩ := and_e rw10
  obtain ⟨nw12, rw12⟩ := and_e rw11
  obtain ⟨nw13, rw13⟩ := and_e rw12
  obtain ⟨nw14, rw14⟩ := and_e rw13
  obtain ⟨nw15, rw15⟩ := and_e rw14
  obtain ⟨nw16, rw16⟩ := and_e rw15
  obtain ⟨nw17, rw17⟩ := and_e rw16
  obtain ⟨nw18, rw18⟩ := and_e rw17
  obtain ⟨nw19, rw19⟩ := and_e rw18
  obtain ⟨nw20, rw20⟩ := and_e rw19
  obtain ⟨nw21, rw21⟩ := and_e rw20
  obtain ⟨nw22, rw22⟩ := and_e rw21
  obtain ⟨nw23, rw23⟩ := and_e rw22
  obtain ⟨nw24, rw24⟩ := and_e rw23
  obtain ⟨nw25, rw25⟩ := and_e rw24
  obtain ⟨nw26, rw26⟩ := and_e rw25
  obtain ⟨nw27, rw27⟩ := and_e rw26
  obtain ⟨nw28, rw28⟩ := and_e rw27
  obtain ⟨nw29, rw29⟩ := and_e rw28
  obtain ⟨nw30, rw30⟩ := and_e rw29
  obtain ⟨nw31, rw31⟩ := and_e rw30
  obtain ⟨nw32, rw32⟩ := and_e rw31
  obtain ⟨nw33, rw33⟩ := and_e rw32
  have nw34 := rw33
  obtain ⟨va, eva⟩ := arr_v nw0
  obtain ⟨cva, Ava⟩ := Arr.start eva nw0
  obtain ⟨ra, era⟩ := exa_v nw3
  obtain ⟨rb, erb⟩ := exa_v nw5
  have zva := size_of (m := 2) eva Ava (eq_int_v nw2) rfl (by decide)
  have el0 := (elem_in (eq_ref_v nw4 era) eva (Term.int_eval 0) Ava.1).2
  have el1 := (elem_in (eq_ref_v nw6 erb) eva (Term.int_eval 1) Ava.1).2
  obtain ⟨sa, esa⟩ := exa_v nw7
  obtain ⟨sb, esb⟩ := exa_v nw11
  obtain ⟨ta, eta_⟩ := arr_v nw9
  obtain ⟨tb, etb⟩ := arr_v nw13
  obtain ⟨cta, Ata⟩ := Arr.start eta_ nw9
  obtain ⟨ctb, Atb⟩ := Arr.start etb nw13
  have zta := size_of (m := 8) eta_ Ata (eq_int_v nw10) rfl (by decide)
  have ztb := size_of (m := 12) etb Atb (eq_int_v nw14) rfl (by decide)
  have ita : ArI s s.heap ta .byte [82, 83, 65, 45, 79, 65, 69, 80] := ArI.ofHas hfit Ata zta (by decide) ⟨(elem_in (eq_int_v nw15) eta_ (Term.int_eval 0) Ata.1).2, (elem_in (eq_int_v nw16) eta_ (Term.int_eval 1) Ata.1).2, (elem_in (eq_int_v nw17) eta_ (Term.int_eval 2) Ata.1).2, (elem_in (eq_int_v nw18) eta_ (Term.int_eval 3) Ata.1).2, (elem_in (eq_int_v nw19) eta_ (Term.int_eval 4) Ata.1).2, (elem_in (eq_int_v nw20) eta_ (Term.int_eval 5) Ata.1).2, (elem_in (eq_int_v nw21) eta_ (Term.int_eval 6) Ata.1).2, (elem_in (eq_int_v nw22) eta_ (Term.int_eval 7) Ata.1).2, trivial⟩
  have itb : ArI s s.heap tb .byte [82, 83, 65, 45, 79, 65, 69, 80, 45, 50, 53, 54] := ArI.ofHas hfit Atb ztb (by decide) ⟨(elem_in (eq_int_v nw23) etb (Term.int_eval 0) Atb.1).2, (elem_in (eq_int_v nw24) etb (Term.int_eval 1) Atb.1).2, (elem_in (eq_int_v nw25) etb (Term.int_eval 2) Atb.1).2, (elem_in (eq_int_v nw26) etb (Term.int_eval 3) Atb.1).2, (elem_in (eq_int_v nw27) etb (Term.int_eval 4) Atb.1).2, (elem_in (eq_int_v nw28) etb (Term.int_eval 5) Atb.1).2, (elem_in (eq_int_v nw29) etb (Term.int_eval 6) Atb.1).2, (elem_in (eq_int_v nw30) etb (Term.int_eval 7) Atb.1).2, (elem_in (eq_int_v nw31) etb (Term.int_eval 8) Atb.1).2, (elem_in (eq_int_v nw32) etb (Term.int_eval 9) Atb.1).2, (elem_in (eq_int_v nw33) etb (Term.int_eval 10) Atb.1).2, (elem_in (eq_int_v nw34) etb (Term.int_eval 11) Atb.1).2, trivial⟩
  have sta : Str s s.heap sa [82, 83, 65, 45, 79, 65, 69, 80] := ⟨ta, 0, _, Exa.start esa nw7, Fld.start ((fld_at esa).symm.trans eta_), Fld.start ((fld_at esa).symm.trans (eq_int_v nw8)), ita, Or.inl ⟨rfl, by decide, by decide⟩⟩
  have stb : Str s s.heap sb [82, 83, 65, 45, 79, 65, 69, 80, 45, 50, 53, 54] := ⟨tb, 0, _, Exa.start esb nw11, Fld.start ((fld_at esb).symm.trans etb), Fld.start ((fld_at esb).symm.trans (eq_int_v nw12)), itb, Or.inl ⟨rfl, by decide, by decide⟩⟩
  have m_kma : ∃ (va ra rb sa sb : Addr) (cl : Cell), KMs s va ra rb sa sb cl := ⟨va, ra, rb, sa, sb, cva, Sta.start eva (Or.inr ⟨(hw _ (List.mem_of_getElem? (i := 44) rfl)), (hw _ (List.mem_of_getElem? (i := 50) rfl))⟩), Ava, slots_eq zva ⟨el0, el1, trivial⟩, Exa.start eva nw1, FitC.start hfit Ava, Sta.start era (Or.inr ⟨(hw _ (List.mem_of_getElem? (i := 44) rfl)), (hw _ (List.mem_of_getElem? (i := 58) rfl))⟩), Sta.start erb (Or.inr ⟨(hw _ (List.mem_of_getElem? (i := 44) rfl)), (hw _ (List.mem_of_getElem? (i := 59) rfl))⟩), Exa.start era nw3, Exa.start erb nw5, Fld.start ((fld_at era).symm.trans esa), Fld.start ((fld_at erb).symm.trans esb), sta, stb⟩
  have x_o := Cond.before_iff.mp (hsets _ (List.mem_of_getElem? (i := 11) rfl))
  obtain ⟨eo, e_o⟩ := exa_v x_o
  have m_opt : (∃ eo : Addr, Sta s s.heap "java/util/Optional" "EMPTY" "Ljava/util/Optional;" (.ref eo) ∧ Exa s s.heap eo "java/util/Optional" ∧ Fld s s.heap eo "java/util/Optional" "value" "Ljava/lang/Object;" .null) := ⟨eo, Sta.start e_o (Or.inl (hsets _ (List.mem_of_getElem? (i := 10) rfl))), Exa.start e_o x_o, Fld.start ((fld_at e_o).symm.trans (null_v (Cond.before_iff.mp (hsets _ (List.mem_of_getElem? (i := 12) rfl)))))⟩
  have hE : Ev s (#[.int p0, .int p1, .int p2, .int p3, .int p4] : Array Value) := ⟨hw, ⟨gC, cC, sC⟩, ⟨gF, rF, sF⟩, (fun q hq => hcalls.1 q hq), (hsets _ (List.mem_of_getElem? (i := 2) rfl)), m_kma, m_opt⟩
  obtain ⟨n_, o_, r1, r2, r3, v_, Lc, rfl, rfl, -, -, hL, hR, hN⟩ := k_law l s _ hE p0 p1 p2 p3 p4 s.heap tables_1 [] (fun _ q => (nomatch q)) p e ha hc hk s m _ below hf ((Spec.applies_iff_loose hf).mp happ).1 ⟨rfl, rfl, State.Warmed39.refl s, fun units a _ q => Or.inl q, ⟨Nat.le_refl _, fun _ _ q => q⟩, fun _ q => (by cases q), fun _ q => (by cases q)⟩ trivial
  exact ⟨n_, _, r1, r2, r3, hpost _ _ _ _ _ _ ⟨Cond.after_iff.mpr rfl, Cond.after_iff.mpr (eq_i res_at (Term.int_eval (1)) rfl), trivial⟩ ⟨hR.1, hR.2.1, hR.2.2.1, (hR.2.2.2.sift fun y hy => Or.inr ((hL y hy).elim (fun q => by cases q) id)).mono (by decide) (by decide)⟩⟩
theorem main_1_1 : Claimed_1_1 := comes_1 fun _ _ _ _ _ _ h hF => ⟨h.1, hF⟩
theorem main_1_2 : Claimed_1_2 := comes_1 fun _ _ _ _ _ _ h hF => ⟨h.2.1, hF⟩
end Jvm.Pilot.@@N@@
namespace Jvm.Pilot.@@N@@
open Jvm Jvm.ClassFile Sem Op Lib Jvm.Free Jvm.Stand Jvm.Pilot.@@N@@.Jvm.D
/-! MADE BY PROGRAM (witnessworld.py) out of the Statement's table words and the real class files: 24 classes; the members and pool entries that the words name. The judged class is class 1, her method 1. -/
namespace start1
open Jvm.ClassFile
def u (s : String) : CpInfo := .utf8 (stringToUtf16 s)
/-- a pool by its gaps: so many unusable entries, then the entry; so many at the end -/
def gap : Nat → List CpInfo → List CpInfo
  | 0, r => r
  | n + 1, r => .unusable :: gap n r
def poolList (es : List (Nat × CpInfo)) (last : Nat) : List CpInfo := es.foldr (fun e r => gap e.1 (e.2 :: r)) (gap last [])
def pool (es : List (Nat × CpInfo)) (last : Nat) : Array CpInfo := ⟨poolList es last⟩
def fileOf (pool : Array CpInfo) (this : Nat) (attrs : Array Attribute := #[]) (ms : Array MethodInfo := #[]) (fl : Nat := 33) (sup : Nat := 0) (ifs : Array Nat := #[]) (fds : Array FieldInfo := #[]) : ClassFile where
  minorVersion := 0
  majorVersion := 65
  constantPool := pool
  accessFlags := fl
  thisClass := this
  superClass := sup
  interfaces := ifs
  fields := fds
  methods := ms
  attributes := attrs
def plain (name : String) (sup : Option ClassId) : Class where
  name := name
  kind := .ordinary
  loader := none
  accessFlags := 33
  super := sup
  interfaces := #[]
  cf := none
  fields := #[]
  methods := #[]
  instanceTypes := #[]
  staticTypes := #[]
  resolved := #[]
  callSites := []
  init := .initialized
  statics := none
  mirror := none

def pool0 : Array CpInfo := pool [(5, u "<init>"), (0, u "()V"), (1, .class_ 10), (1, u "java/lang/Object"), (85, u "clone"), (0, u "()Ljava/lang/Object;")] 26

def k0c0 : Code := { maxStack := 0, maxLocals := 1, code := object_method_1_code, exceptionTable := #[], attributes := #[] }
def k0m0 : Method := { name := "<init>", desc := "()V", sig := { parameters := [], returnType := none }, accessFlags := 1, code := some k0c0 }
def k0m1 : Method := { name := "clone", desc := "()Ljava/lang/Object;", sig := { parameters := [], returnType := some (.object "java/lang/Object") }, accessFlags := 260, code := none }
/-- java/lang/Object -/
def k0 : Class := { plain "java/lang/Object" none with
  accessFlags := 33
  interfaces := #[]
  cf := some (fileOf pool0 8 #[] #[{ accessFlags := 1, nameIndex := 5, descriptorIndex := 6, attributes := #[] }, { accessFlags := 260, nameIndex := 96, descriptorIndex := 97, attributes := #[] }] 33 0 #[] #[])
  fields := #[]
  methods := #[k0m0, k0m1]
  instanceTypes := #[]
  staticTypes := #[]
  resolved := Array.replicate 124 none
  statics := none }

def pool1 : Array CpInfo := pool [(2, .class_ 4), (1, u "java/lang/Object"), (0, u "<init>"), (0, u "()V"), (0, .methodref 8 9), (0, .class_ 10), (0, .nameAndType 11 12), (0, u "com/example/inkan/inkan/jose/KeyManagementAlgorithmNamedPinLaw"), (0, u "pick"), (0, u "(ICII)C"), (0, .methodref 8 14), (0, .nameAndType 15 16), (0, u "str"), (0, u "([CI)Ljava/lang/String;"), (0, .string 18), (0, u "RSA-OAEP"), (0, .methodref 20 21), (0, .class_ 22), (0, .nameAndType 23 24), (0, u "java/lang/String"), (0, u "equals"), (0, u "(Ljava/lang/Object;)Z"), (0, .fieldref 26 27), (0, .class_ 28), (0, .nameAndType 29 30), (0, u "com/example/inkan/inkan/jose/KeyManagementAlgorithm"), (0, u "RSA_OAEP"), (0, u "Lcom/example/inkan/inkan/jose/KeyManagementAlgorithm;"), (0, .string 32), (0, u "RSA-OAEP-256"), (0, .fieldref 26 34), (0, .nameAndType 35 30), (0, u "RSA_OAEP_256"), (0, .methodref 26 37), (0, .nameAndType 38 39), (0, u "named"), (0, u "(Ljava/lang/String;)Ljava/util/Optional;"), (0, .methodref 41 42), (0, .class_ 43), (0, .nameAndType 44 45), (0, u "java/util/Optional"), (0, u "orElse"), (0, u "(Ljava/lang/Object;)Ljava/lang/Object;"), (0, .methodref 20 47), (0, .nameAndType 5 48), (0, u "([C)V"), (2, u "law"), (0, u "(IIIII)Z")] 5

def k1m0 : Method := { name := "<init>", desc := "()V", sig := { parameters := [], returnType := none }, accessFlags := 1, code := none }
def k1c1 : Code := { maxStack := 6, maxLocals := 11, code := code, exceptionTable := #[], attributes := #[] }
def k1m1 : Method := { name := "law", desc := "(IIIII)Z", sig := { parameters := [.int, .int, .int, .int, .int], returnType := some .boolean }, accessFlags := 9, code := some k1c1 }
def k1c2 : Code := { maxStack := 2, maxLocals := 4, code := method_3_code, exceptionTable := #[], attributes := #[] }
def k1m2 : Method := { name := "pick", desc := "(ICII)C", sig := { parameters := [.int, .char, .int, .int], returnType := some .char }, accessFlags := 10, code := some k1c2 }
def k1c3 : Code := { maxStack := 7, maxLocals := 2, code := method_4_code, exceptionTable := #[], attributes := #[] }
def k1m3 : Method := { name := "str", desc := "([CI)Ljava/lang/String;", sig := { parameters := [(.array .char), .int], returnType := some (.object "java/lang/String") }, accessFlags := 10, code := some k1c3 }
/-- com/example/inkan/inkan/jose/KeyManagementAlgorithmNamedPinLaw -/
def k1 : Class := { plain "com/example/inkan/inkan/jose/KeyManagementAlgorithmNamedPinLaw" (some 0) with
  accessFlags := 49
  interfaces := #[]
  cf := some (fileOf pool1 8 #[] #[{ accessFlags := 1, nameIndex := 5, descriptorIndex := 6, attributes := #[] }, { accessFlags := 9, nameIndex := 51, descriptorIndex := 52, attributes := #[] }, { accessFlags := 10, nameIndex := 11, descriptorIndex := 12, attributes := #[] }, { accessFlags := 10, nameIndex := 15, descriptorIndex := 16, attributes := #[] }] 49 2 #[] #[])
  fields := #[]
  methods := #[k1m0, k1m1, k1m2, k1m3]
  instanceTypes := #[]
  staticTypes := #[]
  resolved := Array.replicate 58 none
  statics := none }

def pool2 : Array CpInfo := pool [(1, .class_ 2), (0, u "java/io/Serializable"), (0, .class_ 4), (0, u "java/lang/Object")] 2

/-- java/io/Serializable -/
def k2 : Class := { plain "java/io/Serializable" (some 0) with
  accessFlags := 1537
  interfaces := #[]
  cf := some (fileOf pool2 1 #[] #[] 1537 3 #[] #[])
  fields := #[]
  methods := #[]
  instanceTypes := #[]
  staticTypes := #[]
  resolved := Array.replicate 7 none
  statics := none }

def pool3 : Array CpInfo := pool [(1, .class_ 2), (0, u "java/lang/Comparable"), (0, .class_ 4), (0, u "java/lang/Object")] 7

/-- java/lang/Comparable -/
def k3 : Class := { plain "java/lang/Comparable" (some 0) with
  accessFlags := 1537
  interfaces := #[]
  cf := some (fileOf pool3 1 #[] #[] 1537 3 #[] #[])
  fields := #[]
  methods := #[]
  instanceTypes := #[]
  staticTypes := #[]
  resolved := Array.replicate 12 none
  statics := none }

def pool4 : Array CpInfo := pool [(2, .class_ 4), (1, u "java/lang/CharSequence"), (42, .class_ 48), (0, u "java/lang/CharSequence$1CodePointIterator"), (10, .class_ 60), (0, u "java/lang/CharSequence$1CharIterator"), (5, .class_ 67), (0, u "java/lang/Object")] 63

/-- java/lang/CharSequence -/
def k4 : Class := { plain "java/lang/CharSequence" (some 0) with
  accessFlags := 1537
  interfaces := #[]
  cf := some (fileOf pool4 2 #[.nestMembers #[47, 59]] #[] 1537 66 #[] #[])
  fields := #[]
  methods := #[]
  instanceTypes := #[]
  staticTypes := #[]
  resolved := Array.replicate 131 none
  statics := none }

def pool5 : Array CpInfo := pool [(1, .class_ 2), (0, u "java/lang/constant/Constable"), (0, .class_ 4), (0, u "java/lang/Object")] 6

/-- java/lang/constant/Constable -/
def k5 : Class := { plain "java/lang/constant/Constable" (some 0) with
  accessFlags := 1537
  interfaces := #[]
  cf := some (fileOf pool5 1 #[] #[] 1537 3 #[] #[])
  fields := #[]
  methods := #[]
  instanceTypes := #[]
  staticTypes := #[]
  resolved := Array.replicate 11 none
  statics := none }

def pool6 : Array CpInfo := pool [(1, .class_ 2), (0, u "java/lang/constant/ConstantDesc"), (0, .class_ 4), (0, u "java/lang/Object")] 32

/-- java/lang/constant/ConstantDesc -/
def k6 : Class := { plain "java/lang/constant/ConstantDesc" (some 0) with
  accessFlags := 1537
  interfaces := #[]
  cf := some (fileOf pool6 1 #[] #[] 1537 3 #[] #[])
  fields := #[]
  methods := #[]
  instanceTypes := #[]
  staticTypes := #[]
  resolved := Array.replicate 37 none
  statics := none }

def pool7 : Array CpInfo := pool [(1, .methodref 2 3), (0, .class_ 4), (0, .nameAndType 5 6), (0, u "java/lang/Object"), (0, u "<init>"), (0, u "()V"), (0, .string 8), (0, u ""), (0, .fieldref 10 11), (0, .class_ 12), (0, .nameAndType 13 14), (0, u "java/lang/String"), (0, u "value"), (0, u "[B"), (0, .fieldref 10 16), (0, .nameAndType 17 18), (0, u "coder"), (0, u "B"), (2, u "hash"), (0, u "I"), (2, u "hashIsZero"), (0, u "Z"), (0, .methodref 10 28), (0, .nameAndType 5 29), (0, u "([CIILjava/lang/Void;)V"), (8, .fieldref 10 39), (0, .nameAndType 40 26), (0, u "COMPACT_STRINGS"), (1, .class_ 44), (1, u "java/lang/StringUTF16"), (0, u "compress"), (1, .methodref 42 48), (0, .nameAndType 49 50), (0, u "coderFromArrayLen"), (0, u "([BI)B"), (56, .class_ 109), (1, u "java/lang/StringLatin1"), (67, .methodref 42 178), (0, .nameAndType 45 179), (0, u "([CII)[B"), (361, .methodref 107 542), (0, .nameAndType 543 544), (0, u "equals"), (0, u "([B[B)Z"), (28, u "(Ljava/lang/Object;)Z"), (1, .class_ 576), (0, u "java/lang/CharSequence"), (22, u "CASE_INSENSITIVE_ORDER"), (0, u "Ljava/util/Comparator;"), (409, u "([C)V"), (90, u "serialPersistentFields"), (0, u "[Ljava/io/ObjectStreamField;"), (0, .class_ 1104), (0, u "java/lang/String$CaseInsensitiveComparator"), (1, .class_ 1107), (0, u "java/io/Serializable"), (0, .class_ 1109), (0, u "java/lang/Comparable"), (0, .class_ 1111), (0, u "java/lang/constant/Constable"), (0, .class_ 1113), (0, u "java/lang/constant/ConstantDesc"), (2, u "serialVersionUID"), (0, u "J"), (3, u "REPL"), (0, u "C"), (2, u "LATIN1"), (1, u "UTF16")] 323

def k7m0 : Method := { name := "<init>", desc := "()V", sig := { parameters := [], returnType := none }, accessFlags := 1, code := none }
def k7c1 : Code := { maxStack := 5, maxLocals := 2, code := jdk_42_method_3_code, exceptionTable := #[], attributes := #[] }
def k7m1 : Method := { name := "<init>", desc := "([C)V", sig := { parameters := [(.array .char)], returnType := none }, accessFlags := 1, code := some k7c1 }
def k7c2 : Code := { maxStack := 2, maxLocals := 3, code := jdk_42_method_66_code, exceptionTable := #[], attributes := #[] }
def k7m2 : Method := { name := "equals", desc := "(Ljava/lang/Object;)Z", sig := { parameters := [(.object "java/lang/Object")], returnType := some .boolean }, accessFlags := 1, code := some k7c2 }
def k7c3 : Code := { maxStack := 4, maxLocals := 6, code := jdk_42_method_149_code, exceptionTable := #[], attributes := #[] }
def k7m3 : Method := { name := "<init>", desc := "([CIILjava/lang/Void;)V", sig := { parameters := [(.array .char), .int, .int, (.object "java/lang/Void")], returnType := none }, accessFlags := 2, code := some k7c3 }
/-- java/lang/String -/
def k7 : Class := { plain "java/lang/String" (some 0) with
  accessFlags := 49
  interfaces := #[2, 3, 4, 5, 6]
  cf := some (fileOf pool7 10 #[.nestMembers #[1103]] #[{ accessFlags := 1, nameIndex := 5, descriptorIndex := 6, attributes := #[] }, { accessFlags := 1, nameIndex := 5, descriptorIndex := 1010, attributes := #[] }, { accessFlags := 1, nameIndex := 543, descriptorIndex := 573, attributes := #[] }, { accessFlags := 2, nameIndex := 5, descriptorIndex := 29, attributes := #[] }] 49 2 #[1106, 1108, 575, 1110, 1112] #[{ accessFlags := 18, nameIndex := 13, descriptorIndex := 14, attributes := #[] }, { accessFlags := 18, nameIndex := 17, descriptorIndex := 18, attributes := #[] }, { accessFlags := 2, nameIndex := 21, descriptorIndex := 22, attributes := #[] }, { accessFlags := 2, nameIndex := 25, descriptorIndex := 26, attributes := #[] }, { accessFlags := 26, nameIndex := 1116, descriptorIndex := 1117, attributes := #[] }, { accessFlags := 24, nameIndex := 40, descriptorIndex := 26, attributes := #[] }, { accessFlags := 26, nameIndex := 1101, descriptorIndex := 1102, attributes := #[] }, { accessFlags := 26, nameIndex := 1121, descriptorIndex := 1122, attributes := #[] }, { accessFlags := 25, nameIndex := 599, descriptorIndex := 600, attributes := #[] }, { accessFlags := 24, nameIndex := 1125, descriptorIndex := 18, attributes := #[] }, { accessFlags := 24, nameIndex := 1127, descriptorIndex := 18, attributes := #[] }])
  fields := #[{ name := "value", type := (.array .byte), accessFlags := 18, slot := 0, constantValue := 0 }, { name := "coder", type := .byte, accessFlags := 18, slot := 1, constantValue := 0 }, { name := "hash", type := .int, accessFlags := 2, slot := 2, constantValue := 0 }, { name := "hashIsZero", type := .boolean, accessFlags := 2, slot := 3, constantValue := 0 }, { name := "serialVersionUID", type := .long, accessFlags := 26, slot := 0, constantValue := 0 }, { name := "COMPACT_STRINGS", type := .boolean, accessFlags := 24, slot := 1, constantValue := 0 }, { name := "serialPersistentFields", type := (.array (.object "java/io/ObjectStreamField")), accessFlags := 26, slot := 2, constantValue := 0 }, { name := "REPL", type := .char, accessFlags := 26, slot := 3, constantValue := 0 }, { name := "CASE_INSENSITIVE_ORDER", type := (.object "java/util/Comparator"), accessFlags := 25, slot := 4, constantValue := 0 }, { name := "LATIN1", type := .byte, accessFlags := 24, slot := 5, constantValue := 0 }, { name := "UTF16", type := .byte, accessFlags := 24, slot := 6, constantValue := 0 }]
  methods := #[k7m0, k7m1, k7m2, k7m3]
  instanceTypes := #[(.array .byte), .byte, .int, .boolean]
  staticTypes := #[.long, .boolean, (.array (.object "java/io/ObjectStreamField")), .char, (.object "java/util/Comparator"), .byte, .byte]
  resolved := Array.replicate 1451 none
  statics := some 0 }

def pool8 : Array CpInfo := pool [(4, .class_ 6), (1, u "java/lang/Object"), (0, u "<init>"), (0, u "()V"), (5, .class_ 16), (1, u "java/lang/StringLatin1"), (104, u "$assertionsDisabled"), (0, u "Z"), (98, .class_ 223), (1, u "java/lang/StringLatin1$LinesSpliterator"), (57, u "equals"), (0, u "([B[B)Z"), (107, .class_ 391), (0, u "java/lang/StringLatin1$CharsSpliterator")] 3

def k8m0 : Method := { name := "<init>", desc := "()V", sig := { parameters := [], returnType := none }, accessFlags := 0, code := none }
def k8c1 : Code := { maxStack := 3, maxLocals := 3, code := jdk_43_method_13_code, exceptionTable := #[], attributes := #[] }
def k8m1 : Method := { name := "equals", desc := "([B[B)Z", sig := { parameters := [(.array .byte), (.array .byte)], returnType := some .boolean }, accessFlags := 9, code := some k8c1 }
/-- java/lang/StringLatin1 -/
def k8 : Class := { plain "java/lang/StringLatin1" (some 0) with
  accessFlags := 48
  interfaces := #[]
  cf := some (fileOf pool8 14 #[.nestMembers #[390, 221]] #[{ accessFlags := 0, nameIndex := 7, descriptorIndex := 8, attributes := #[] }, { accessFlags := 9, nameIndex := 281, descriptorIndex := 282, attributes := #[] }] 48 4 #[] #[{ accessFlags := 4120, nameIndex := 121, descriptorIndex := 122, attributes := #[] }])
  fields := #[{ name := "$assertionsDisabled", type := .boolean, accessFlags := 4120, slot := 0, constantValue := 0 }]
  methods := #[k8m0, k8m1]
  instanceTypes := #[]
  staticTypes := #[.boolean]
  resolved := Array.replicate 395 none
  statics := none }

def pool9 : Array CpInfo := pool [(2, .class_ 4), (1, u "java/lang/Enum"), (0, u "name"), (0, u "Ljava/lang/String;"), (2, u "ordinal"), (0, u "I"), (1, .class_ 14), (1, u "java/lang/Object"), (4, u "hash"), (86, .class_ 108), (1, u "java/lang/Enum$EnumDesc"), (2, .class_ 112), (0, u "java/lang/constant/Constable"), (0, .class_ 114), (0, u "java/lang/Comparable"), (0, .class_ 116), (0, u "java/io/Serializable")] 87

/-- java/lang/Enum -/
def k9 : Class := { plain "java/lang/Enum" (some 0) with
  accessFlags := 1057
  interfaces := #[5, 3, 2]
  cf := some (fileOf pool9 2 #[.nestMembers #[106]] #[] 1057 12 #[111, 113, 115] #[{ accessFlags := 18, nameIndex := 5, descriptorIndex := 6, attributes := #[] }, { accessFlags := 18, nameIndex := 9, descriptorIndex := 10, attributes := #[] }, { accessFlags := 2, nameIndex := 19, descriptorIndex := 10, attributes := #[] }])
  fields := #[{ name := "name", type := (.object "java/lang/String"), accessFlags := 18, slot := 0, constantValue := 0 }, { name := "ordinal", type := .int, accessFlags := 18, slot := 1, constantValue := 0 }, { name := "hash", type := .int, accessFlags := 2, slot := 2, constantValue := 0 }]
  methods := #[]
  instanceTypes := #[(.object "java/lang/String"), .int, .int]
  staticTypes := #[]
  resolved := Array.replicate 204 none
  statics := none }

def pool10 : Array CpInfo := pool [(1, .class_ 2), (0, u "com/example/inkan/inkan/jose/KeyManagementAlgorithm"), (2, u "RSA_OAEP"), (0, u "Lcom/example/inkan/inkan/jose/KeyManagementAlgorithm;"), (2, u "RSA_OAEP_256"), (0, .fieldref 1 11), (0, .nameAndType 12 13), (0, u "$VALUES"), (0, u "[Lcom/example/inkan/inkan/jose/KeyManagementAlgorithm;"), (0, .methodref 15 16), (0, .class_ 13), (0, .nameAndType 17 18), (0, u "clone"), (0, u "()Ljava/lang/Object;"), (1, .class_ 22), (1, u "java/lang/Enum"), (6, .fieldref 1 30), (0, .nameAndType 31 32), (0, u "alg"), (0, u "Ljava/lang/String;"), (2, u "parameters"), (0, u "Ljavax/crypto/spec/OAEPParameterSpec;"), (0, .methodref 1 38), (0, .nameAndType 39 40), (0, u "values"), (0, u "()[Lcom/example/inkan/inkan/jose/KeyManagementAlgorithm;"), (0, .methodref 42 43), (0, .class_ 44), (0, .nameAndType 45 46), (0, u "java/lang/String"), (0, u "equals"), (0, u "(Ljava/lang/Object;)Z"), (0, .methodref 48 49), (0, .class_ 50), (0, .nameAndType 51 52), (0, u "java/util/Optional"), (0, u "of"), (0, u "(Ljava/lang/Object;)Ljava/util/Optional;"), (0, .methodref 48 54), (0, .nameAndType 55 56), (0, u "empty"), (0, u "()Ljava/util/Optional;"), (80, u "named"), (0, u "(Ljava/lang/String;)Ljava/util/Optional;")] 17

def k10c0 : Code := { maxStack := 1, maxLocals := 0, code := prog_8_method_1_code, exceptionTable := #[], attributes := #[] }
def k10m0 : Method := { name := "values", desc := "()[Lcom/example/inkan/inkan/jose/KeyManagementAlgorithm;", sig := { parameters := [], returnType := some (.array (.object "com/example/inkan/inkan/jose/KeyManagementAlgorithm")) }, accessFlags := 9, code := some k10c0 }
def k10c1 : Code := { maxStack := 2, maxLocals := 5, code := prog_8_method_4_code, exceptionTable := #[], attributes := #[] }
def k10m1 : Method := { name := "named", desc := "(Ljava/lang/String;)Ljava/util/Optional;", sig := { parameters := [(.object "java/lang/String")], returnType := some (.object "java/util/Optional") }, accessFlags := 9, code := some k10c1 }
/-- com/example/inkan/inkan/jose/KeyManagementAlgorithm -/
def k10 : Class := { plain "com/example/inkan/inkan/jose/KeyManagementAlgorithm" (some 9) with
  accessFlags := 16433
  interfaces := #[]
  cf := some (fileOf pool10 1 #[] #[{ accessFlags := 9, nameIndex := 39, descriptorIndex := 40, attributes := #[] }, { accessFlags := 9, nameIndex := 137, descriptorIndex := 138, attributes := #[] }] 16433 20 #[] #[{ accessFlags := 16409, nameIndex := 5, descriptorIndex := 6, attributes := #[] }, { accessFlags := 16409, nameIndex := 9, descriptorIndex := 6, attributes := #[] }, { accessFlags := 18, nameIndex := 31, descriptorIndex := 32, attributes := #[] }, { accessFlags := 18, nameIndex := 35, descriptorIndex := 36, attributes := #[] }, { accessFlags := 4122, nameIndex := 12, descriptorIndex := 13, attributes := #[] }])
  fields := #[{ name := "RSA_OAEP", type := (.object "com/example/inkan/inkan/jose/KeyManagementAlgorithm"), accessFlags := 16409, slot := 0, constantValue := 0 }, { name := "RSA_OAEP_256", type := (.object "com/example/inkan/inkan/jose/KeyManagementAlgorithm"), accessFlags := 16409, slot := 1, constantValue := 0 }, { name := "alg", type := (.object "java/lang/String"), accessFlags := 18, slot := 3, constantValue := 0 }, { name := "parameters", type := (.object "javax/crypto/spec/OAEPParameterSpec"), accessFlags := 18, slot := 4, constantValue := 0 }, { name := "$VALUES", type := (.array (.object "com/example/inkan/inkan/jose/KeyManagementAlgorithm")), accessFlags := 4122, slot := 2, constantValue := 0 }]
  methods := #[k10m0, k10m1]
  instanceTypes := #[(.object "java/lang/String"), .int, .int, (.object "java/lang/String"), (.object "javax/crypto/spec/OAEPParameterSpec")]
  staticTypes := #[(.object "com/example/inkan/inkan/jose/KeyManagementAlgorithm"), (.object "com/example/inkan/inkan/jose/KeyManagementAlgorithm"), (.array (.object "com/example/inkan/inkan/jose/KeyManagementAlgorithm"))]
  resolved := Array.replicate 156 none
  statics := some 1 }

def pool11 : Array CpInfo := pool [(1, .class_ 2), (0, u "java/lang/Cloneable"), (0, .class_ 4), (0, u "java/lang/Object")] 2

/-- java/lang/Cloneable -/
def k11 : Class := { plain "java/lang/Cloneable" (some 0) with
  accessFlags := 1537
  interfaces := #[]
  cf := some (fileOf pool11 1 #[] #[] 1537 3 #[] #[])
  fields := #[]
  methods := #[]
  instanceTypes := #[]
  staticTypes := #[]
  resolved := Array.replicate 7 none
  statics := none }

def pool12 : Array CpInfo := pool [(1, .fieldref 2 3), (0, .class_ 4), (0, .nameAndType 5 6), (0, u "java/util/Optional"), (0, u "EMPTY"), (0, u "Ljava/util/Optional;"), (0, .methodref 8 9), (0, .class_ 10), (0, .nameAndType 11 12), (0, u "java/lang/Object"), (0, u "<init>"), (0, u "()V"), (0, .fieldref 2 14), (0, .nameAndType 15 16), (0, u "value"), (0, u "Ljava/lang/Object;"), (0, .methodref 18 19), (0, .class_ 20), (0, .nameAndType 21 22), (0, u "java/util/Objects"), (0, u "requireNonNull"), (0, u "(Ljava/lang/Object;)Ljava/lang/Object;"), (0, .methodref 2 24), (0, .nameAndType 11 25), (0, u "(Ljava/lang/Object;)V"), (29, u "empty"), (0, u "()Ljava/util/Optional;"), (8, u "(Ljava/lang/Object;)Ljava/util/Optional;"), (16, u "of"), (82, u "orElse")] 21

def k12c0 : Code := { maxStack := 1, maxLocals := 1, code := jdk_32_method_1_code, exceptionTable := #[], attributes := #[] }
def k12m0 : Method := { name := "empty", desc := "()Ljava/util/Optional;", sig := { parameters := [], returnType := some (.object "java/util/Optional") }, accessFlags := 9, code := some k12c0 }
def k12c1 : Code := { maxStack := 2, maxLocals := 2, code := jdk_32_method_2_code, exceptionTable := #[], attributes := #[] }
def k12m1 : Method := { name := "<init>", desc := "(Ljava/lang/Object;)V", sig := { parameters := [(.object "java/lang/Object")], returnType := none }, accessFlags := 2, code := some k12c1 }
def k12c2 : Code := { maxStack := 3, maxLocals := 1, code := jdk_32_method_3_code, exceptionTable := #[], attributes := #[] }
def k12m2 : Method := { name := "of", desc := "(Ljava/lang/Object;)Ljava/util/Optional;", sig := { parameters := [(.object "java/lang/Object")], returnType := some (.object "java/util/Optional") }, accessFlags := 9, code := some k12c2 }
def k12c3 : Code := { maxStack := 1, maxLocals := 2, code := jdk_32_method_15_code, exceptionTable := #[], attributes := #[] }
def k12m3 : Method := { name := "orElse", desc := "(Ljava/lang/Object;)Ljava/lang/Object;", sig := { parameters := [(.object "java/lang/Object")], returnType := some (.object "java/lang/Object") }, accessFlags := 1, code := some k12c3 }
/-- java/util/Optional -/
def k12 : Class := { plain "java/util/Optional" (some 0) with
  accessFlags := 49
  interfaces := #[]
  cf := some (fileOf pool12 2 #[] #[{ accessFlags := 9, nameIndex := 55, descriptorIndex := 56, attributes := #[] }, { accessFlags := 2, nameIndex := 11, descriptorIndex := 25, attributes := #[] }, { accessFlags := 9, nameIndex := 82, descriptorIndex := 65, attributes := #[] }, { accessFlags := 1, nameIndex := 165, descriptorIndex := 22, attributes := #[] }] 49 8 #[] #[{ accessFlags := 26, nameIndex := 5, descriptorIndex := 6, attributes := #[] }, { accessFlags := 18, nameIndex := 15, descriptorIndex := 16, attributes := #[] }])
  fields := #[{ name := "EMPTY", type := (.object "java/util/Optional"), accessFlags := 26, slot := 0, constantValue := 0 }, { name := "value", type := (.object "java/lang/Object"), accessFlags := 18, slot := 0, constantValue := 0 }]
  methods := #[k12m0, k12m1, k12m2, k12m3]
  instanceTypes := #[(.object "java/lang/Object")]
  staticTypes := #[(.object "java/util/Optional")]
  resolved := Array.replicate 187 none
  statics := some 2 }

def pool13 : Array CpInfo := pool [(6, .class_ 8), (1, u "java/lang/Object"), (0, u "<init>"), (0, u "()V"), (1, .class_ 14), (1, u "java/lang/StringUTF16"), (31, u "$assertionsDisabled"), (0, u "Z"), (13, u "HI_BYTE_SHIFT"), (0, u "I"), (2, u "LO_BYTE_SHIFT"), (49, .methodref 12 116), (0, .nameAndType 117 118), (0, u "compress"), (0, u "([CI[BII)I"), (3, u "([CII)[B"), (138, u "coderFromArrayLen"), (0, u "([BI)B"), (106, .class_ 371), (1, u "java/lang/StringUTF16$LinesSpliterator"), (58, u "MAX_LENGTH"), (196, .class_ 628), (0, u "java/lang/StringUTF16$CodePointsSpliterator"), (0, .class_ 630), (0, u "java/lang/StringUTF16$CharsSpliterator")] 4

def k13m0 : Method := { name := "<init>", desc := "()V", sig := { parameters := [], returnType := none }, accessFlags := 0, code := none }
def k13c1 : Code := { maxStack := 2, maxLocals := 2, code := jdk_52_method_15_code, exceptionTable := #[], attributes := #[] }
def k13m1 : Method := { name := "coderFromArrayLen", desc := "([BI)B", sig := { parameters := [(.array .byte), .int], returnType := some .byte }, accessFlags := 8, code := some k13c1 }
def k13c2 : Code := { maxStack := 5, maxLocals := 6, code := jdk_52_method_16_code, exceptionTable := #[], attributes := #[] }
def k13m2 : Method := { name := "compress", desc := "([CII)[B", sig := { parameters := [(.array .char), .int, .int], returnType := some (.array .byte) }, accessFlags := 9, code := some k13c2 }
def k13c3 : Code := { maxStack := 3, maxLocals := 7, code := jdk_52_method_21_code, exceptionTable := #[], attributes := #[] }
def k13m3 : Method := { name := "compress", desc := "([CI[BII)I", sig := { parameters := [(.array .char), .int, (.array .byte), .int, .int], returnType := some .int }, accessFlags := 9, code := some k13c3 }
/-- java/lang/StringUTF16 -/
def k13 : Class := { plain "java/lang/StringUTF16" (some 0) with
  accessFlags := 48
  interfaces := #[]
  cf := some (fileOf pool13 12 #[.nestMembers #[627, 629, 369]] #[{ accessFlags := 0, nameIndex := 9, descriptorIndex := 10, attributes := #[] }, { accessFlags := 8, nameIndex := 261, descriptorIndex := 262, attributes := #[] }, { accessFlags := 9, nameIndex := 117, descriptorIndex := 122, attributes := #[] }, { accessFlags := 9, nameIndex := 117, descriptorIndex := 118, attributes := #[] }] 48 6 #[] #[{ accessFlags := 26, nameIndex := 61, descriptorIndex := 62, attributes := #[] }, { accessFlags := 26, nameIndex := 65, descriptorIndex := 62, attributes := #[] }, { accessFlags := 24, nameIndex := 430, descriptorIndex := 62, attributes := #[] }, { accessFlags := 4120, nameIndex := 46, descriptorIndex := 47, attributes := #[] }])
  fields := #[{ name := "HI_BYTE_SHIFT", type := .int, accessFlags := 26, slot := 0, constantValue := 0 }, { name := "LO_BYTE_SHIFT", type := .int, accessFlags := 26, slot := 1, constantValue := 0 }, { name := "MAX_LENGTH", type := .int, accessFlags := 24, slot := 2, constantValue := 0 }, { name := "$assertionsDisabled", type := .boolean, accessFlags := 4120, slot := 3, constantValue := 0 }]
  methods := #[k13m0, k13m1, k13m2, k13m3]
  instanceTypes := #[]
  staticTypes := #[.int, .int, .int, .boolean]
  resolved := Array.replicate 635 none
  statics := none }

def pool14 : Array CpInfo := pool [(2, .class_ 4), (1, u "java/lang/Object"), (0, u "<init>"), (0, u "()V"), (35, .class_ 44), (1, u "java/util/Objects"), (0, u "requireNonNull"), (0, u "(Ljava/lang/Object;)Ljava/lang/Object;")] 137

def k14m0 : Method := { name := "<init>", desc := "()V", sig := { parameters := [], returnType := none }, accessFlags := 2, code := none }
def k14c1 : Code := { maxStack := 2, maxLocals := 1, code := jdk_31_method_10_code, exceptionTable := #[], attributes := #[] }
def k14m1 : Method := { name := "requireNonNull", desc := "(Ljava/lang/Object;)Ljava/lang/Object;", sig := { parameters := [(.object "java/lang/Object")], returnType := some (.object "java/lang/Object") }, accessFlags := 9, code := some k14c1 }
/-- java/util/Objects -/
def k14 : Class := { plain "java/util/Objects" (some 0) with
  accessFlags := 49
  interfaces := #[]
  cf := some (fileOf pool14 42 #[] #[{ accessFlags := 2, nameIndex := 5, descriptorIndex := 6, attributes := #[] }, { accessFlags := 9, nameIndex := 45, descriptorIndex := 46, attributes := #[] }] 49 2 #[] #[])
  fields := #[]
  methods := #[k14m0, k14m1]
  instanceTypes := #[]
  staticTypes := #[]
  resolved := Array.replicate 184 none
  statics := none }

def pool15 : Array CpInfo := pool [(2, .class_ 4), (1, u "java/lang/Object"), (0, u "<init>"), (0, u "()V"), (17, .class_ 26), (1, u "jdk/internal/util/Preconditions"), (28, .class_ 56), (0, u "jdk/internal/util/Preconditions$4"), (57, .class_ 115), (0, u "jdk/internal/util/Preconditions$1"), (7, u "SIOOBE_FORMATTER"), (0, u "Ljava/util/function/BiFunction;"), (0, .class_ 126), (0, u "jdk/internal/util/Preconditions$2"), (3, u "AIOOBE_FORMATTER"), (0, .class_ 132), (0, u "jdk/internal/util/Preconditions$3"), (3, u "IOOBE_FORMATTER")] 57

def k15m0 : Method := { name := "<init>", desc := "()V", sig := { parameters := [], returnType := none }, accessFlags := 1, code := none }
/-- jdk/internal/util/Preconditions -/
def k15 : Class := { plain "jdk/internal/util/Preconditions" (some 0) with
  accessFlags := 33
  interfaces := #[]
  cf := some (fileOf pool15 24 #[.nestMembers #[55, 131, 125, 114]] #[{ accessFlags := 1, nameIndex := 5, descriptorIndex := 6, attributes := #[] }] 33 2 #[] #[{ accessFlags := 25, nameIndex := 123, descriptorIndex := 124, attributes := #[] }, { accessFlags := 25, nameIndex := 130, descriptorIndex := 124, attributes := #[] }, { accessFlags := 25, nameIndex := 136, descriptorIndex := 124, attributes := #[] }])
  fields := #[{ name := "SIOOBE_FORMATTER", type := (.object "java/util/function/BiFunction"), accessFlags := 25, slot := 0, constantValue := 0 }, { name := "AIOOBE_FORMATTER", type := (.object "java/util/function/BiFunction"), accessFlags := 25, slot := 1, constantValue := 0 }, { name := "IOOBE_FORMATTER", type := (.object "java/util/function/BiFunction"), accessFlags := 25, slot := 2, constantValue := 0 }]
  methods := #[k15m0]
  instanceTypes := #[]
  staticTypes := #[(.object "java/util/function/BiFunction"), (.object "java/util/function/BiFunction"), (.object "java/util/function/BiFunction")]
  resolved := Array.replicate 194 none
  statics := some 3 }

def pool16 : Array CpInfo := pool [(9, u "<init>"), (6, .class_ 18), (1, u "java/lang/Object"), (0, u "()V"), (1, .class_ 23), (1, u "jdk/internal/util/ArraysSupport"), (0, u "LOG2_ARRAY_LONG_INDEX_SCALE"), (0, u "I"), (2, u "U"), (0, u "Ljdk/internal/misc/Unsafe;"), (8, u "BIG_ENDIAN"), (0, u "Z"), (8, u "LOG2_BYTE_BIT_SIZE"), (4, u "LOG2_ARRAY_INT_INDEX_SCALE"), (54, u "JLA"), (0, u "Ljdk/internal/access/JavaLangAccess;"), (11, u "LOG2_ARRAY_BOOLEAN_INDEX_SCALE"), (9, u "LOG2_ARRAY_BYTE_INDEX_SCALE"), (5, u "LOG2_ARRAY_CHAR_INDEX_SCALE"), (5, u "LOG2_ARRAY_SHORT_INDEX_SCALE"), (18, u "LOG2_ARRAY_FLOAT_INDEX_SCALE"), (24, u "LOG2_ARRAY_DOUBLE_INDEX_SCALE"), (89, u "T_BOOLEAN"), (2, u "T_CHAR"), (1, u "T_FLOAT"), (1, u "T_DOUBLE"), (1, u "T_BYTE"), (1, u "T_SHORT"), (1, u "T_INT"), (1, u "T_LONG"), (1, u "SOFT_MAX_ARRAY_LENGTH")] 83

def k16m0 : Method := { name := "<init>", desc := "()V", sig := { parameters := [], returnType := none }, accessFlags := 2, code := none }
/-- jdk/internal/util/ArraysSupport -/
def k16 : Class := { plain "jdk/internal/util/ArraysSupport" (some 0) with
  accessFlags := 33
  interfaces := #[]
  cf := some (fileOf pool16 21 #[] #[{ accessFlags := 2, nameIndex := 9, descriptorIndex := 19, attributes := #[] }] 33 16 #[] #[{ accessFlags := 24, nameIndex := 28, descriptorIndex := 29, attributes := #[] }, { accessFlags := 26, nameIndex := 38, descriptorIndex := 39, attributes := #[] }, { accessFlags := 25, nameIndex := 121, descriptorIndex := 25, attributes := #[] }, { accessFlags := 25, nameIndex := 131, descriptorIndex := 25, attributes := #[] }, { accessFlags := 25, nameIndex := 137, descriptorIndex := 25, attributes := #[] }, { accessFlags := 25, nameIndex := 143, descriptorIndex := 25, attributes := #[] }, { accessFlags := 25, nameIndex := 53, descriptorIndex := 25, attributes := #[] }, { accessFlags := 25, nameIndex := 24, descriptorIndex := 25, attributes := #[] }, { accessFlags := 25, nameIndex := 162, descriptorIndex := 25, attributes := #[] }, { accessFlags := 25, nameIndex := 187, descriptorIndex := 25, attributes := #[] }, { accessFlags := 26, nameIndex := 48, descriptorIndex := 25, attributes := #[] }, { accessFlags := 25, nameIndex := 277, descriptorIndex := 25, attributes := #[] }, { accessFlags := 25, nameIndex := 280, descriptorIndex := 25, attributes := #[] }, { accessFlags := 25, nameIndex := 282, descriptorIndex := 25, attributes := #[] }, { accessFlags := 25, nameIndex := 284, descriptorIndex := 25, attributes := #[] }, { accessFlags := 25, nameIndex := 286, descriptorIndex := 25, attributes := #[] }, { accessFlags := 25, nameIndex := 288, descriptorIndex := 25, attributes := #[] }, { accessFlags := 25, nameIndex := 290, descriptorIndex := 25, attributes := #[] }, { accessFlags := 25, nameIndex := 292, descriptorIndex := 25, attributes := #[] }, { accessFlags := 26, nameIndex := 108, descriptorIndex := 109, attributes := #[] }, { accessFlags := 25, nameIndex := 294, descriptorIndex := 25, attributes := #[] }])
  fields := #[{ name := "U", type := (.object "jdk/internal/misc/Unsafe"), accessFlags := 24, slot := 0, constantValue := 0 }, { name := "BIG_ENDIAN", type := .boolean, accessFlags := 26, slot := 1, constantValue := 0 }, { name := "LOG2_ARRAY_BOOLEAN_INDEX_SCALE", type := .int, accessFlags := 25, slot := 2, constantValue := 0 }, { name := "LOG2_ARRAY_BYTE_INDEX_SCALE", type := .int, accessFlags := 25, slot := 3, constantValue := 0 }, { name := "LOG2_ARRAY_CHAR_INDEX_SCALE", type := .int, accessFlags := 25, slot := 4, constantValue := 0 }, { name := "LOG2_ARRAY_SHORT_INDEX_SCALE", type := .int, accessFlags := 25, slot := 5, constantValue := 0 }, { name := "LOG2_ARRAY_INT_INDEX_SCALE", type := .int, accessFlags := 25, slot := 6, constantValue := 0 }, { name := "LOG2_ARRAY_LONG_INDEX_SCALE", type := .int, accessFlags := 25, slot := 7, constantValue := 0 }, { name := "LOG2_ARRAY_FLOAT_INDEX_SCALE", type := .int, accessFlags := 25, slot := 8, constantValue := 0 }, { name := "LOG2_ARRAY_DOUBLE_INDEX_SCALE", type := .int, accessFlags := 25, slot := 9, constantValue := 0 }, { name := "LOG2_BYTE_BIT_SIZE", type := .int, accessFlags := 26, slot := 10, constantValue := 0 }, { name := "T_BOOLEAN", type := .int, accessFlags := 25, slot := 11, constantValue := 0 }, { name := "T_CHAR", type := .int, accessFlags := 25, slot := 12, constantValue := 0 }, { name := "T_FLOAT", type := .int, accessFlags := 25, slot := 13, constantValue := 0 }, { name := "T_DOUBLE", type := .int, accessFlags := 25, slot := 14, constantValue := 0 }, { name := "T_BYTE", type := .int, accessFlags := 25, slot := 15, constantValue := 0 }, { name := "T_SHORT", type := .int, accessFlags := 25, slot := 16, constantValue := 0 }, { name := "T_INT", type := .int, accessFlags := 25, slot := 17, constantValue := 0 }, { name := "T_LONG", type := .int, accessFlags := 25, slot := 18, constantValue := 0 }, { name := "JLA", type := (.object "jdk/internal/access/JavaLangAccess"), accessFlags := 26, slot := 19, constantValue := 0 }, { name := "SOFT_MAX_ARRAY_LENGTH", type := .int, accessFlags := 25, slot := 20, constantValue := 0 }]
  methods := #[k16m0]
  instanceTypes := #[]
  staticTypes := #[(.object "jdk/internal/misc/Unsafe"), .boolean, .int, .int, .int, .int, .int, .int, .int, .int, .int, .int, .int, .int, .int, .int, .int, .int, .int, (.object "jdk/internal/access/JavaLangAccess"), .int]
  resolved := Array.replicate 378 none
  statics := none }

/-- the primitive byte -/
def k17 : Class := { plain "byte" none with kind := .primitive 'B', accessFlags := 0x411 }
/-- [B -/
def k18 : Class := { plain "[B" (some 0) with kind := .array 17 .byte, interfaces := #[11, 2], accessFlags := 1041 }

/-- the primitive char -/
def k19 : Class := { plain "char" none with kind := .primitive 'C', accessFlags := 0x411 }
/-- [C -/
def k20 : Class := { plain "[C" (some 0) with kind := .array 19 .char, interfaces := #[11, 2], accessFlags := 1041 }

/-- the primitive int -/
def k21 : Class := { plain "int" none with kind := .primitive 'I', accessFlags := 0x411 }
/-- [I -/
def k22 : Class := { plain "[I" (some 0) with kind := .array 21 .int, interfaces := #[11, 2], accessFlags := 1041 }

/-- [Lcom/example/inkan/inkan/jose/KeyManagementAlgorithm; -/
def k23 : Class := { plain "[Lcom/example/inkan/inkan/jose/KeyManagementAlgorithm;" (some 0) with kind := .array 10 (.object "com/example/inkan/inkan/jose/KeyManagementAlgorithm"), interfaces := #[11, 2], accessFlags := 1041 }

def heap : Heap := #[{ cls := 7, slots := #[.long 0, .int 1, .null, .int 0, .null, .int 0, .int 0], vm := .statics 7 },
  { cls := 10, slots := #[.ref 5, .ref 6, .ref 4], vm := .statics 10 },
  { cls := 12, slots := #[.ref 11], vm := .statics 12 },
  { cls := 15, slots := #[.null, .null, .null], vm := .statics 15 },
  { cls := 23, slots := #[.ref 5, .ref 6], vm := .none },
  { cls := 10, slots := #[.null, .int 0, .int 0, .ref 7, .null], vm := .none },
  { cls := 10, slots := #[.null, .int 1, .int 0, .ref 8, .null], vm := .none },
  { cls := 7, slots := #[.ref 9, .int 0, .int 0, .int 0], vm := .none },
  { cls := 7, slots := #[.ref 10, .int 0, .int 0, .int 0], vm := .none },
  { cls := 18, slots := #[.int 82, .int 83, .int 65, .int 45, .int 79, .int 65, .int 69, .int 80], vm := .none },
  { cls := 18, slots := #[.int 82, .int 83, .int 65, .int 45, .int 79, .int 65, .int 69, .int 80, .int 45, .int 50, .int 53, .int 54], vm := .none },
  { cls := 12, slots := #[.null], vm := .none }]
def classes : Array Class := #[k0, k1, k2, k3, k4, k5, k6, k7, k8, k9, k10, k11, k12, k13, k14, k15, k16, k17, k18, k19, k20, k21, k22, k23]
def interned : List (Array UInt16 × Addr) := []
def slotsUsed : Nat := 55
def theMethod : MethodId := ⟨1, 1⟩
def args0 : Array Value := #[.int 5, .int 5, .int 5, .int 5, .int 5]
def aboutOver (below : List Frame) : State where
  vm := { classes := classes, interned := interned.toArray }
  heap := heap
  slotsUsed := slotsUsed
  threads := #[{ frames := .invoking theMethod args0 :: below }]
def below0 : List Frame := [.native { method := ⟨0, 0⟩, args := #[] }]
def about1 : State := aboutOver below0
def p0 : Program := .bare "" "" ""
def e0 : Env := launch0.env 0 0 0
theorem w_frames : about1.frames = Frame.invoking theMethod args0 :: below0 := rfl
set_option maxRecDepth 65536 in
theorem w_args : argsFit about1.vm theMethod args0 = true := by decide +kernel
set_option maxRecDepth 65536 in
theorem w_heap : heapFits about1 = true := by decide +kernel
set_option maxRecDepth 65536 in
theorem w_runnable : about1.curStatus? = some .runnable := by decide +kernel
set_option maxRecDepth 65536 in
theorem w_alone : about1.alone = true := by decide +kernel
set_option maxRecDepth 65536 in
theorem w_named : about1.methodNamed? x = some theMethod := by decide +kernel
set_option maxRecDepth 65536 in
theorem w_hears : about1.hears theMethod below0 = true := by decide +kernel
set_option maxRecDepth 65536 in
theorem w_ripe : about1.ripe theMethod args0 below0 = true := by decide +kernel
theorem w_running : about1.status = .running := rfl
set_option maxRecDepth 65536 in
theorem w_room : about1.hasRoom e0.platform room_1 = true :=
  launch0.hasRoom_least _ room_1 (by decide +kernel) (by decide +kernel) (by decide +kernel) (by decide +kernel) (by decide +kernel) (by decide +kernel)
theorem allAtoms_all (ts : List Jvm.Cond) (a : Array Jvm.Value) (st : Jvm.State) : (allAtoms ts).before a st = ts.all (fun c => c.before a st) := by
  induction ts with
  | nil => rfl
  | cons c t ih =>
    show (Jvm.Cond.and c (allAtoms t)).before a st = _
    rw [Jvm.Cond.before_and, ih, List.all_cons]
def words1 : List Jvm.Cond := Jvm.Cond.code x code maxLocals ret :: tables_1
/-- a 'code' word, met by the world's own term for the bytes: nothing is compared byte by byte -/
theorem code_word {y : MethodName} {bytes : ByteArray} {mx : Nat} {rt : Option FieldType} {a : Array Value} {s : State} {m : MethodId} {meth : Method} {c : Code} (h1 : s.methodNamed? y = some m) (h2 : s.vm.method? m = some meth) (h3 : meth.code = some c) (h4 : c.code = bytes)
    (h5 : (c.maxLocals == mx && c.exceptionTable.isEmpty && decide (c.maxStack ≤ mostOperands) && decide (meth.sig.returnType = rt) && !meth.locks && decide (parseMethodDescriptor y.desc = some meth.sig)) = true) : (Jvm.Cond.code y bytes mx rt).before a s = true := by
  simp only [Bool.and_eq_true, beq_iff_eq, Bool.not_eq_true', decide_eq_true_eq] at h5
  obtain ⟨⟨⟨⟨⟨g1, g2⟩, g3⟩, g4⟩, g5⟩, g6⟩ := h5
  simp [Cond.before, Cond.holds, Cond.value, h1, h2, h3, h4, g1, g2, g3, g4, g5, g6]
def isCode : Jvm.Cond → Bool
  | .code _ _ _ _ => true
  | _ => false
theorem all_split {L : List Jvm.Cond} {P : Jvm.Cond → Bool} (h1 : L.all (fun c => isCode c || P c) = true) (h2 : ∀ c ∈ L.filter isCode, P c = true) : L.all P = true := by
  refine List.all_eq_true.mpr fun c hc => ?_
  have h := List.all_eq_true.mp h1 c hc
  rcases Bool.eq_false_or_eq_true (isCode c) with hi | hi
  · exact h2 c (List.mem_filter.mpr ⟨hc, hi⟩)
  · simpa [hi] using h
set_option maxRecDepth 65536 in
theorem w_c0 : (Jvm.Cond.code x code maxLocals ret).before args0 about1 = true := code_word (m := ⟨1, 1⟩) (meth := k1m1) (c := k1c1) (by decide +kernel) rfl rfl rfl (by decide +kernel)
set_option maxRecDepth 65536 in
theorem w_c1 : (Jvm.Cond.code ({ cls := "com/example/inkan/inkan/jose/KeyManagementAlgorithmNamedPinLaw", name := "pick", desc := "(ICII)C" } : Jvm.MethodName) method_3_code (4 : Nat) (Option.some Jvm.ClassFile.FieldType.char)).before args0 about1 = true := code_word (m := ⟨1, 2⟩) (meth := k1m2) (c := k1c2) (by decide +kernel) rfl rfl rfl (by decide +kernel)
set_option maxRecDepth 65536 in
theorem w_c2 : (Jvm.Cond.code ({ cls := "com/example/inkan/inkan/jose/KeyManagementAlgorithmNamedPinLaw", name := "str", desc := "([CI)Ljava/lang/String;" } : Jvm.MethodName) method_4_code (2 : Nat) (Option.some (Jvm.ClassFile.FieldType.object "java/lang/String"))).before args0 about1 = true := code_word (m := ⟨1, 3⟩) (meth := k1m3) (c := k1c3) (by decide +kernel) rfl rfl rfl (by decide +kernel)
set_option maxRecDepth 65536 in
theorem w_c3 : (Jvm.Cond.code ({ cls := "java/lang/String", name := "<init>", desc := "([C)V" } : Jvm.MethodName) jdk_42_method_3_code (2 : Nat) (Option.none : Option Jvm.ClassFile.FieldType)).before args0 about1 = true := code_word (m := ⟨7, 1⟩) (meth := k7m1) (c := k7c1) (by decide +kernel) rfl rfl rfl (by decide +kernel)
set_option maxRecDepth 65536 in
theorem w_c4 : (Jvm.Cond.code ({ cls := "java/lang/String", name := "<init>", desc := "([CIILjava/lang/Void;)V" } : Jvm.MethodName) jdk_42_method_149_code (6 : Nat) (Option.none : Option Jvm.ClassFile.FieldType)).before args0 about1 = true := code_word (m := ⟨7, 3⟩) (meth := k7m3) (c := k7c3) (by decide +kernel) rfl rfl rfl (by decide +kernel)
set_option maxRecDepth 65536 in
theorem w_c5 : (Jvm.Cond.code ({ cls := "java/lang/Object", name := "<init>", desc := "()V" } : Jvm.MethodName) object_method_1_code (1 : Nat) (Option.none : Option Jvm.ClassFile.FieldType)).before args0 about1 = true := code_word (m := ⟨0, 0⟩) (meth := k0m0) (c := k0c0) (by decide +kernel) rfl rfl rfl (by decide +kernel)
set_option maxRecDepth 65536 in
theorem w_c6 : (Jvm.Cond.code ({ cls := "java/lang/String", name := "equals", desc := "(Ljava/lang/Object;)Z" } : Jvm.MethodName) jdk_42_method_66_code (3 : Nat) (Option.some Jvm.ClassFile.FieldType.boolean)).before args0 about1 = true := code_word (m := ⟨7, 2⟩) (meth := k7m2) (c := k7c2) (by decide +kernel) rfl rfl rfl (by decide +kernel)
set_option maxRecDepth 65536 in
theorem w_c7 : (Jvm.Cond.code ({ cls := "java/lang/StringLatin1", name := "equals", desc := "([B[B)Z" } : Jvm.MethodName) jdk_43_method_13_code (3 : Nat) (Option.some Jvm.ClassFile.FieldType.boolean)).before args0 about1 = true := code_word (m := ⟨8, 1⟩) (meth := k8m1) (c := k8c1) (by decide +kernel) rfl rfl rfl (by decide +kernel)
set_option maxRecDepth 65536 in
theorem w_c8 : (Jvm.Cond.code ({ cls := "com/example/inkan/inkan/jose/KeyManagementAlgorithm", name := "named", desc := "(Ljava/lang/String;)Ljava/util/Optional;" } : Jvm.MethodName) prog_8_method_4_code (5 : Nat) (Option.some (Jvm.ClassFile.FieldType.object "java/util/Optional"))).before args0 about1 = true := code_word (m := ⟨10, 1⟩) (meth := k10m1) (c := k10c1) (by decide +kernel) rfl rfl rfl (by decide +kernel)
set_option maxRecDepth 65536 in
theorem w_c9 : (Jvm.Cond.code ({ cls := "com/example/inkan/inkan/jose/KeyManagementAlgorithm", name := "values", desc := "()[Lcom/example/inkan/inkan/jose/KeyManagementAlgorithm;" } : Jvm.MethodName) prog_8_method_1_code (0 : Nat) (Option.some (Jvm.ClassFile.FieldType.array (Jvm.ClassFile.FieldType.object "com/example/inkan/inkan/jose/KeyManagementAlgorithm")))).before args0 about1 = true := code_word (m := ⟨10, 0⟩) (meth := k10m0) (c := k10c0) (by decide +kernel) rfl rfl rfl (by decide +kernel)
set_option maxRecDepth 65536 in
theorem w_c10 : (Jvm.Cond.code ({ cls := "java/util/Optional", name := "empty", desc := "()Ljava/util/Optional;" } : Jvm.MethodName) jdk_32_method_1_code (1 : Nat) (Option.some (Jvm.ClassFile.FieldType.object "java/util/Optional"))).before args0 about1 = true := code_word (m := ⟨12, 0⟩) (meth := k12m0) (c := k12c0) (by decide +kernel) rfl rfl rfl (by decide +kernel)
set_option maxRecDepth 65536 in
theorem w_c11 : (Jvm.Cond.code ({ cls := "java/util/Optional", name := "orElse", desc := "(Ljava/lang/Object;)Ljava/lang/Object;" } : Jvm.MethodName) jdk_32_method_15_code (2 : Nat) (Option.some (Jvm.ClassFile.FieldType.object "java/lang/Object"))).before args0 about1 = true := code_word (m := ⟨12, 3⟩) (meth := k12m3) (c := k12c3) (by decide +kernel) rfl rfl rfl (by decide +kernel)
set_option maxRecDepth 65536 in
theorem w_c12 : (Jvm.Cond.code ({ cls := "java/lang/StringUTF16", name := "compress", desc := "([CII)[B" } : Jvm.MethodName) jdk_52_method_16_code (6 : Nat) (Option.some (Jvm.ClassFile.FieldType.array Jvm.ClassFile.FieldType.byte))).before args0 about1 = true := code_word (m := ⟨13, 2⟩) (meth := k13m2) (c := k13c2) (by decide +kernel) rfl rfl rfl (by decide +kernel)
set_option maxRecDepth 65536 in
theorem w_c13 : (Jvm.Cond.code ({ cls := "java/lang/StringUTF16", name := "compress", desc := "([CI[BII)I" } : Jvm.MethodName) jdk_52_method_21_code (7 : Nat) (Option.some Jvm.ClassFile.FieldType.int)).before args0 about1 = true := code_word (m := ⟨13, 3⟩) (meth := k13m3) (c := k13c3) (by decide +kernel) rfl rfl rfl (by decide +kernel)
set_option maxRecDepth 65536 in
theorem w_c14 : (Jvm.Cond.code ({ cls := "java/lang/StringUTF16", name := "coderFromArrayLen", desc := "([BI)B" } : Jvm.MethodName) jdk_52_method_15_code (2 : Nat) (Option.some Jvm.ClassFile.FieldType.byte)).before args0 about1 = true := code_word (m := ⟨13, 1⟩) (meth := k13m1) (c := k13c1) (by decide +kernel) rfl rfl rfl (by decide +kernel)
set_option maxRecDepth 65536 in
theorem w_c15 : (Jvm.Cond.code ({ cls := "java/util/Optional", name := "of", desc := "(Ljava/lang/Object;)Ljava/util/Optional;" } : Jvm.MethodName) jdk_32_method_3_code (1 : Nat) (Option.some (Jvm.ClassFile.FieldType.object "java/util/Optional"))).before args0 about1 = true := code_word (m := ⟨12, 2⟩) (meth := k12m2) (c := k12c2) (by decide +kernel) rfl rfl rfl (by decide +kernel)
set_option maxRecDepth 65536 in
theorem w_c16 : (Jvm.Cond.code ({ cls := "java/util/Objects", name := "requireNonNull", desc := "(Ljava/lang/Object;)Ljava/lang/Object;" } : Jvm.MethodName) jdk_31_method_10_code (1 : Nat) (Option.some (Jvm.ClassFile.FieldType.object "java/lang/Object"))).before args0 about1 = true := code_word (m := ⟨14, 1⟩) (meth := k14m1) (c := k14c1) (by decide +kernel) rfl rfl rfl (by decide +kernel)
set_option maxRecDepth 65536 in
theorem w_c17 : (Jvm.Cond.code ({ cls := "java/util/Optional", name := "<init>", desc := "(Ljava/lang/Object;)V" } : Jvm.MethodName) jdk_32_method_2_code (2 : Nat) (Option.none : Option Jvm.ClassFile.FieldType)).before args0 about1 = true := code_word (m := ⟨12, 1⟩) (meth := k12m1) (c := k12c1) (by decide +kernel) rfl rfl rfl (by decide +kernel)
def codes1 : List Jvm.Cond := [Jvm.Cond.code x code maxLocals ret, Jvm.Cond.code ({ cls := "com/example/inkan/inkan/jose/KeyManagementAlgorithmNamedPinLaw", name := "pick", desc := "(ICII)C" } : Jvm.MethodName) method_3_code (4 : Nat) (Option.some Jvm.ClassFile.FieldType.char), Jvm.Cond.code ({ cls := "com/example/inkan/inkan/jose/KeyManagementAlgorithmNamedPinLaw", name := "str", desc := "([CI)Ljava/lang/String;" } : Jvm.MethodName) method_4_code (2 : Nat) (Option.some (Jvm.ClassFile.FieldType.object "java/lang/String")), Jvm.Cond.code ({ cls := "java/lang/String", name := "<init>", desc := "([C)V" } : Jvm.MethodName) jdk_42_method_3_code (2 : Nat) (Option.none : Option Jvm.ClassFile.FieldType), Jvm.Cond.code ({ cls := "java/lang/String", name := "<init>", desc := "([CIILjava/lang/Void;)V" } : Jvm.MethodName) jdk_42_method_149_code (6 : Nat) (Option.none : Option Jvm.ClassFile.FieldType), Jvm.Cond.code ({ cls := "java/lang/Object", name := "<init>", desc := "()V" } : Jvm.MethodName) object_method_1_code (1 : Nat) (Option.none : Option Jvm.ClassFile.FieldType), Jvm.Cond.code ({ cls := "java/lang/String", name := "equals", desc := "(Ljava/lang/Object;)Z" } : Jvm.MethodName) jdk_42_method_66_code (3 : Nat) (Option.some Jvm.ClassFile.FieldType.boolean), Jvm.Cond.code ({ cls := "java/lang/StringLatin1", name := "equals", desc := "([B[B)Z" } : Jvm.MethodName) jdk_43_method_13_code (3 : Nat) (Option.some Jvm.ClassFile.FieldType.boolean), Jvm.Cond.code ({ cls := "com/example/inkan/inkan/jose/KeyManagementAlgorithm", name := "named", desc := "(Ljava/lang/String;)Ljava/util/Optional;" } : Jvm.MethodName) prog_8_method_4_code (5 : Nat) (Option.some (Jvm.ClassFile.FieldType.object "java/util/Optional")), Jvm.Cond.code ({ cls := "com/example/inkan/inkan/jose/KeyManagementAlgorithm", name := "values", desc := "()[Lcom/example/inkan/inkan/jose/KeyManagementAlgorithm;" } : Jvm.MethodName) prog_8_method_1_code (0 : Nat) (Option.some (Jvm.ClassFile.FieldType.array (Jvm.ClassFile.FieldType.object "com/example/inkan/inkan/jose/KeyManagementAlgorithm"))), Jvm.Cond.code ({ cls := "java/util/Optional", name := "empty", desc := "()Ljava/util/Optional;" } : Jvm.MethodName) jdk_32_method_1_code (1 : Nat) (Option.some (Jvm.ClassFile.FieldType.object "java/util/Optional")), Jvm.Cond.code ({ cls := "java/util/Optional", name := "orElse", desc := "(Ljava/lang/Object;)Ljava/lang/Object;" } : Jvm.MethodName) jdk_32_method_15_code (2 : Nat) (Option.some (Jvm.ClassFile.FieldType.object "java/lang/Object")), Jvm.Cond.code ({ cls := "java/lang/StringUTF16", name := "compress", desc := "([CII)[B" } : Jvm.MethodName) jdk_52_method_16_code (6 : Nat) (Option.some (Jvm.ClassFile.FieldType.array Jvm.ClassFile.FieldType.byte)), Jvm.Cond.code ({ cls := "java/lang/StringUTF16", name := "compress", desc := "([CI[BII)I" } : Jvm.MethodName) jdk_52_method_21_code (7 : Nat) (Option.some Jvm.ClassFile.FieldType.int), Jvm.Cond.code ({ cls := "java/lang/StringUTF16", name := "coderFromArrayLen", desc := "([BI)B" } : Jvm.MethodName) jdk_52_method_15_code (2 : Nat) (Option.some Jvm.ClassFile.FieldType.byte), Jvm.Cond.code ({ cls := "java/util/Optional", name := "of", desc := "(Ljava/lang/Object;)Ljava/util/Optional;" } : Jvm.MethodName) jdk_32_method_3_code (1 : Nat) (Option.some (Jvm.ClassFile.FieldType.object "java/util/Optional")), Jvm.Cond.code ({ cls := "java/util/Objects", name := "requireNonNull", desc := "(Ljava/lang/Object;)Ljava/lang/Object;" } : Jvm.MethodName) jdk_31_method_10_code (1 : Nat) (Option.some (Jvm.ClassFile.FieldType.object "java/lang/Object")), Jvm.Cond.code ({ cls := "java/util/Optional", name := "<init>", desc := "(Ljava/lang/Object;)V" } : Jvm.MethodName) jdk_32_method_2_code (2 : Nat) (Option.none : Option Jvm.ClassFile.FieldType)]
set_option maxRecDepth 65536 in
theorem codes_eq : words1.filter isCode = codes1 := rfl
theorem w_codes : ∀ c ∈ words1.filter isCode, c.before args0 about1 = true := by
  rw [codes_eq]
  intro c hc
  simp only [codes1, List.mem_cons, List.not_mem_nil, or_false] at hc
  rcases hc with rfl | rfl | rfl | rfl | rfl | rfl | rfl | rfl | rfl | rfl | rfl | rfl | rfl | rfl | rfl | rfl | rfl | rfl
  · exact w_c0
  · exact w_c1
  · exact w_c2
  · exact w_c3
  · exact w_c4
  · exact w_c5
  · exact w_c6
  · exact w_c7
  · exact w_c8
  · exact w_c9
  · exact w_c10
  · exact w_c11
  · exact w_c12
  · exact w_c13
  · exact w_c14
  · exact w_c15
  · exact w_c16
  · exact w_c17
set_option maxRecDepth 65536 in
theorem w_t1 : (words1.take 24).all (fun c => isCode c || c.before args0 about1) = true := by decide +kernel
set_option maxRecDepth 65536 in
theorem w_t2 : ((words1.drop 24).take 24).all (fun c => isCode c || c.before args0 about1) = true := by decide +kernel
set_option maxRecDepth 65536 in
theorem w_t3 : (((words1.drop 24).drop 24).take 24).all (fun c => isCode c || c.before args0 about1) = true := by decide +kernel
set_option maxRecDepth 65536 in
theorem w_t4 : ((((words1.drop 24).drop 24).drop 24).take 24).all (fun c => isCode c || c.before args0 about1) = true := by decide +kernel
set_option maxRecDepth 65536 in
theorem w_t5 : ((((words1.drop 24).drop 24).drop 24).drop 24).all (fun c => isCode c || c.before args0 about1) = true := by decide +kernel
theorem w_tables : (allAtoms (Jvm.Cond.code x code maxLocals ret :: tables_1)).before args0 about1 = true := by
  rw [allAtoms_all]
  show words1.all (fun c => c.before args0 about1) = true
  refine all_split ?_ w_codes
  rw [← List.take_append_drop 24 words1, List.all_append, w_t1, ← List.take_append_drop 24 (words1.drop 24), List.all_append, w_t2, ← List.take_append_drop 24 ((words1.drop 24).drop 24), List.all_append, w_t3, ← List.take_append_drop 24 (((words1.drop 24).drop 24).drop 24), List.all_append, w_t4, w_t5]
  rfl
set_option maxRecDepth 65536 in
theorem w_rest : rest_1_c.before args0 about1 = true := by decide +kernel
set_option maxRecDepth 65536 in
theorem w_case : (Jvm.Cond.and given_1 narrow_1).before args0 about1 = true := by decide +kernel
set_option maxRecDepth 65536 in
theorem w_consts : constsHeld consts_1 about1 := Jvm.Lit.constsHeldB_iff.mp (by decide +kernel)
theorem w_applies : (headSpec (Jvm.Cond.code x code maxLocals ret :: tables_1) room_1).applies x e0.platform about1 = true :=
  (Spec.applies_iff w_frames).mpr ⟨w_running, w_runnable, w_alone, w_named, w_hears, w_ripe, w_room, w_tables⟩
theorem atStart : AtStart classFile x code maxLocals ret World_1 tables_1 room_1 Calls_1 rest_1 Pre_1 launch0 p0 e0 about1 theMethod args0 below0 :=
  ⟨lists_1, trivial, launch0.admits_env _ _ _, launch0.least_env, fairChoices_fair.cas, fairChoices_fair.clock, w_frames, w_args, w_heap, w_applies, ⟨w_consts, trivial⟩, w_rest, w_case⟩
end start1
theorem witness_1 : WitnessClaimed_1 := ⟨start1.p0, start1.e0, start1.about1, start1.theMethod, start1.args0, start1.below0, start1.atStart⟩
end Jvm.Pilot.@@N@@
