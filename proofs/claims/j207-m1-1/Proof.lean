import JvmDerived
import JvmDerived.Pilot.@@N@@Statement
import JvmDerived.Pilot.@@N@@Code
set_option linter.unusedVariables false
set_option linter.unusedSimpArgs false
/-! The walk's calculus (own text): W says: from any state that stands in this method with heap h (k cells, n slots made, the addresses in M still to be written), the frame (pc, L, S) runs to a good end. -/
namespace Jvm.Pilot.@@N@@.Wk
open Jvm Jvm.ClassFile Sem Op Lib Jvm.Free Jvm.Stand Jvm.LawKit Jvm.RoadKit Bundle Jvm.Free.SB Jvm.Free.SBG
/-! ### the intern table's texts, apart from what is still written -/
def SlM (M : List Addr) (U : State) (a : Addr) (units : Array UInt16) : Prop :=
  ∃ (q : SQ) (cS : ClassId), q.sa = a ∧ Sl q cS U ∧ (∃ kS : Class, U.vm.classes[cS]? = some kS ∧ kS.kind = .ordinary ∧ q.sC.slots.size = kS.instanceTypes.size) ∧ U.vm.findClass "[B" = some q.SA.cls ∧ q.SA.slots = stringBytes units ∧ q.sa ∉ M ∧ q.sd ∉ M
theorem SlM.mono {M M' : List Addr} {U : State} {a : Addr} {u : Array UInt16} (h : SlM M U a u) (hM : ∀ b ∈ M', b ∈ M ∨ U.heap.size ≤ b) : SlM M' U a u := by
  obtain ⟨q, cS, h1, h2, h3, h4, h5, h6, h7⟩ := h
  have l1 := (Array.getElem?_eq_some_iff.mp h2.1.1).1
  have l2 := (Array.getElem?_eq_some_iff.mp h2.1.2.2.2.2.2.2.2.2.2.1).1
  exact ⟨q, cS, h1, h2, h3, h4, h5, fun r => (hM _ r).elim h6 fun z => absurd l1 (Nat.not_lt.mpr z), fun r => (hM _ r).elim h7 fun z => absurd l2 (Nat.not_lt.mpr z)⟩
theorem SlM.move {M : List Addr} {U U' : State} {a : Addr} {u : Array UInt16} (h : SlM M U a u) (hal : U.vm.Alike U'.vm) (hk : ∀ (b : Addr) (c : Cell), U.heap[b]? = some c → b ∉ M → U'.heap[b]? = some c) : SlM M U' a u := by
  obtain ⟨q, cS, h1, h2, ⟨kS, k1, k2, k3⟩, h4, h5, h6, h7⟩ := h
  obtain ⟨kS', hk', ek⟩ := hal.2.2 _ _ k1
  exact ⟨q, cS, h1, h2.carry hal (hk _ _ h2.1.1 h6) (hk _ _ h2.1.2.2.2.2.2.2.2.2.2.1 h7), ⟨kS', hk', by rw [ek]; exact k2, by rw [ek]; exact k3⟩, by rw [hal.findClass]; exact h4, h5, h6, h7⟩
def IOk (Z : State) (M : List Addr) (U : State) : Prop := ∀ (units : Array UInt16) (a : Addr), units.all (· < 256) = true → U.vm.interned.find? (fun p => p.1 == units) = some (units, a) → Z.vm.interned.find? (fun p => p.1 == units) = some (units, a) ∨ SlM M U a units
/-- what every method finds and leaves: the tables warmed, the texts sound, the first heap as it was -/
def Bg (Z : State) (M : List Addr) (U : State) : Prop := Z.Warmed39 U.vm ∧ IOk Z M U ∧ Ext Z.heap U.heap ∧ (∀ b ∈ M, Z.heap.size ≤ b) ∧ ∀ b ∈ M, b < U.heap.size
def Kept (M : List Addr) (h h' : Heap) : Prop := h.size ≤ h'.size ∧ ∀ (b : Addr) (c : Cell), h[b]? = some c → b ∉ M → h'[b]? = some c
theorem Kept.refl (M : List Addr) (h : Heap) : Kept M h h := ⟨Nat.le_refl _, fun _ _ q _ => q⟩
theorem Kept.ext {M : List Addr} {h h' : Heap} (E : Ext h h') : Kept M h h' := ⟨E.1, fun b c q _ => E.2 b c q⟩
theorem Kept.keep {M ws : List Addr} {h h' : Heap} (K : Keep h h' ws) (hw : ∀ w ∈ ws, w ∈ M) : Kept M h h' := ⟨K.1, fun b c q r => K.2.1 b c q fun z => r (hw b z)⟩
theorem Kept.wr {M : List Addr} {h h' : Heap} {a : Addr} {sl : Nat} {v : Value} (W : Wr h h' a sl v) (ha : a ∈ M) : Kept M h h' := Kept.keep (Keep.of_wr W) (fun w hw => by cases List.mem_singleton.mp hw; exact ha)
theorem Bg.move {Z : State} {M : List Addr} {U U' : State} (b : Bg Z M U) (hW : Z.Warmed39 U'.vm) (hi : U'.vm.interned = U.vm.interned) (hk : Kept M U.heap U'.heap) : Bg Z M U' := by
  obtain ⟨b1, b2, b3, b4, b5⟩ := b
  have hal : U.vm.Alike U'.vm := b1.alike.symm.trans hW.alike
  refine ⟨hW, fun units a hl hf => ?_, ⟨Nat.le_trans b3.1 hk.1, fun x c q => hk.2 x c (b3.2 x c q) fun z => absurd (Array.getElem?_eq_some_iff.mp q).1 (Nat.not_lt.mpr (b4 x z))⟩, b4, fun x z => Nat.lt_of_lt_of_le (b5 x z) hk.1⟩
  rw [hi] at hf
  exact (b2 units a hl hf).imp id fun s => s.move hal hk.2
theorem Bg.shrink {Z : State} {M M' : List Addr} {U : State} (b : Bg Z M U) (hM : ∀ x ∈ M', x ∈ M) : Bg Z M' U :=
  ⟨b.1, fun units a hl hf => (b.2.1 units a hl hf).imp id fun s => s.mono fun x hx => Or.inl (hM x hx), b.2.2.1, fun x hx => b.2.2.2.1 x (hM x hx), fun x hx => b.2.2.2.2 x (hM x hx)⟩
/-- a new address may be written: it was not there when b held -/
theorem Bg.grow {Z : State} {M M' : List Addr} {U U' : State} (b : Bg Z M U) (hW : Z.Warmed39 U'.vm) (hi : U'.vm.interned = U.vm.interned) (hk : Kept M U.heap U'.heap) (hM : ∀ x ∈ M', x ∈ M ∨ (U.heap.size ≤ x ∧ x < U'.heap.size)) : Bg Z M' U' := by
  obtain ⟨b1, b2, b3, b4, b5⟩ := b
  have hal : U.vm.Alike U'.vm := b1.alike.symm.trans hW.alike
  refine ⟨hW, fun units a hl hf => ?_, ⟨Nat.le_trans b3.1 hk.1, fun x c q => hk.2 x c (b3.2 x c q) fun z => absurd (Array.getElem?_eq_some_iff.mp q).1 (Nat.not_lt.mpr (b4 x z))⟩, fun x z => (hM x z).elim (b4 x) fun q => Nat.le_trans b3.1 q.1, fun x z => (hM x z).elim (fun q => Nat.lt_of_lt_of_le (b5 x q) hk.1) fun q => q.2⟩
  rw [hi] at hf
  refine (b2 units a hl hf).imp id fun s => ?_
  have s' : SlM M' U a units := s.mono fun x hx => (hM x hx).imp id fun q => q.1
  obtain ⟨q, cS, h1, h2, ⟨kS, k1, k2, k3⟩, h4, h5, h6, h7⟩ := s
  obtain ⟨kS', hk', ek⟩ := hal.2.2 _ _ k1
  have l1 := (Array.getElem?_eq_some_iff.mp h2.1.1).1
  have l2 := (Array.getElem?_eq_some_iff.mp h2.1.2.2.2.2.2.2.2.2.2.1).1
  exact ⟨q, cS, h1, h2.carry hal (hk.2 _ _ h2.1.1 h6) (hk.2 _ _ h2.1.2.2.2.2.2.2.2.2.2.1 h7), ⟨kS', hk', by rw [ek]; exact k2, by rw [ek]; exact k3⟩, by rw [hal.findClass]; exact h4, h5, fun r => (hM _ r).elim h6 fun z => absurd l1 (Nat.not_lt.mpr z.1), fun r => (hM _ r).elim h7 fun z => absurd l2 (Nat.not_lt.mpr z.1)⟩
/-! ### the context of a walk -/
abbrev Cx : Type _ := Program × Launch × Env × Room × State × MethodId × Array Value × List Frame × Method × Code × State × Bool × List Addr × List Addr × Bool × (List Addr → Option Value → Heap → Prop)
abbrev Cx.p (B : Cx) : Program := B.1
abbrev Cx.l (B : Cx) : Launch := B.2.1
abbrev Cx.e (B : Cx) : Env := B.2.2.1
abbrev Cx.R (B : Cx) : Room := B.2.2.2.1
abbrev Cx.s (B : Cx) : State := B.2.2.2.2.1
abbrev Cx.m (B : Cx) : MethodId := B.2.2.2.2.2.1
abbrev Cx.args (B : Cx) : Array Value := B.2.2.2.2.2.2.1
abbrev Cx.below (B : Cx) : List Frame := B.2.2.2.2.2.2.2.1
abbrev Cx.meth (B : Cx) : Method := B.2.2.2.2.2.2.2.2.1
abbrev Cx.c (B : Cx) : Code := B.2.2.2.2.2.2.2.2.2.1
abbrev Cx.Z (B : Cx) : State := B.2.2.2.2.2.2.2.2.2.2.1
abbrev Cx.nar (B : Cx) : Bool := B.2.2.2.2.2.2.2.2.2.2.2.1
abbrev Cx.ws (B : Cx) : List Addr := B.2.2.2.2.2.2.2.2.2.2.2.2.1
abbrev Cx.Me (B : Cx) : List Addr := B.2.2.2.2.2.2.2.2.2.2.2.2.2.1
abbrev Cx.fr (B : Cx) : Bool := B.2.2.2.2.2.2.2.2.2.2.2.2.2.2.1
abbrev Cx.Q (B : Cx) : List Addr → Option Value → Heap → Prop := B.2.2.2.2.2.2.2.2.2.2.2.2.2.2.2
def refs (fr : Bool) (v : Option Value) : List Addr := match fr, v with
  | true, some (.ref a) => [a]
  | _, _ => []
/-- the plain posts: what is made and may still be written is the result alone (fr), or nothing -/
def OldQ (fr : Bool) (Q : Option Value → Heap → Prop) : List Addr → Option Value → Heap → Prop := fun N v h => N = refs fr v ∧ Q v h
/-- cl.1: no cell that stood at the method's start has been written; cl.2: String entries that are resolved -/
abbrev Cl : Type := Bool × List (String × Nat)
def Pos (B : Cx) (T : State) (h : Heap) (k n : Nat) (M : List Addr) (cl : Cl) : Prop :=
  ∃ (vm0 : Vm) (k0 : Nat) (locs : List Loc), Stand B.p B.l B.e B.R (B.s.setVm vm0) B.m B.args B.below B.meth B.c T locs k n ∧ B.s.Since vm0 k0 ∧ k0 ≤ T.heap.size ∧ (B.nar = true → B.s.WarmedH vm0) ∧
    (∀ y ∈ locs, y.base ∈ B.ws ∨ B.s.heap.size ≤ y.base) ∧ (cl.1 = true → ∀ y ∈ locs, B.s.heap.size ≤ y.base) ∧ (∀ e ∈ cl.2, ∃ a, Lit (B.s.setVm vm0) e.1 e.2 a) ∧ T.heap = h ∧ Bg B.Z M T
def Gd (B : Cx) (U : State) : Prop :=
  ∃ t o, Steps B.p.tables B.e B.below U t ∧ t.status = .running ∧ Ended t B.below o ∧ ∃ v L N, o = .returned v ∧ B.Q N v t.heap ∧ Keep B.s.heap t.heap B.ws ∧ Bg B.Z (N ++ B.Me) t ∧ (∀ y ∈ L, y.base ∈ B.ws ∨ B.s.heap.size ≤ y.base) ∧ ReturnedEndW B.s o t L B.R.cells B.R.slots ∧ (B.nar = true → B.s.WarmedH t.vm)
theorem Gd.step {B : Cx} {U U' : State} (st : ∀ t, Steps B.p.tables B.e B.below U' t → Steps B.p.tables B.e B.below U t) (g : Gd B U') : Gd B U := by
  obtain ⟨t, o, q, r⟩ := g
  exact ⟨t, o, st t q, r⟩
def W (B : Cx) (h : Heap) (k n : Nat) (M : List Addr) (cl : Cl) (pc : Nat) (L : Array Slot) (S : List Value) : Prop := ∀ T, Pos B T h k n M cl → Gd B (T.setTop (mkF B.m pc L S))
def Ok (B : Cx) (l : Launch) (Z : State) (nar : Bool) (own nm : String) (code : ByteArray) (ml : Nat) (ret : Option FieldType) (R : Room) (h0 : Heap) (ws : List Addr) (fr : Bool) (Q : List Addr → Option Value → Heap → Prop) (M : List Addr) : Prop :=
  B.p.tables.exec = Jvm.exec ∧ B.c.code = code ∧ B.c.maxLocals = ml ∧ B.s.vm.findClass own = some B.m.cls ∧ B.meth.name = nm ∧ B.meth.sig.returnType = ret ∧ B.meth.locks = false ∧ Z.Warmed39 B.s.vm ∧ B.l = l ∧ B.R = R ∧ B.Z = Z ∧ B.nar = nar ∧ B.ws = ws ∧ B.Me = M ∧ B.fr = fr ∧ B.Q = Q ∧ B.s.heap = h0
section Acc
variable {B : Cx} {l : Launch} {Z : State} {nar : Bool} {own nm : String} {code : ByteArray} {ml : Nat} {ret : Option FieldType} {R : Room} {h0 : Heap} {ws : List Addr} {fr : Bool} {Q : List Addr → Option Value → Heap → Prop} {Me : List Addr}
theorem Ok.x (ok : Ok B l Z nar own nm code ml ret R h0 ws fr Q Me) : B.p.tables.exec = Jvm.exec := ok.1
theorem Ok.by_ (ok : Ok B l Z nar own nm code ml ret R h0 ws fr Q Me) : B.c.code = code := ok.2.1
theorem Ok.ml_ (ok : Ok B l Z nar own nm code ml ret R h0 ws fr Q Me) : B.c.maxLocals = ml := ok.2.2.1
theorem Ok.own_ (ok : Ok B l Z nar own nm code ml ret R h0 ws fr Q Me) : B.s.vm.findClass own = some B.m.cls := ok.2.2.2.1
theorem Ok.nm_ (ok : Ok B l Z nar own nm code ml ret R h0 ws fr Q Me) : B.meth.name = nm := ok.2.2.2.2.1
theorem Ok.ret_ (ok : Ok B l Z nar own nm code ml ret R h0 ws fr Q Me) : B.meth.sig.returnType = ret := ok.2.2.2.2.2.1
theorem Ok.lk (ok : Ok B l Z nar own nm code ml ret R h0 ws fr Q Me) : B.meth.locks = false := ok.2.2.2.2.2.2.1
theorem Ok.zs (ok : Ok B l Z nar own nm code ml ret R h0 ws fr Q Me) : Z.Warmed39 B.s.vm := ok.2.2.2.2.2.2.2.1
theorem Ok.l_ (ok : Ok B l Z nar own nm code ml ret R h0 ws fr Q Me) : B.l = l := ok.2.2.2.2.2.2.2.2.1
theorem Ok.R_ (ok : Ok B l Z nar own nm code ml ret R h0 ws fr Q Me) : B.R = R := ok.2.2.2.2.2.2.2.2.2.1
theorem Ok.Z_ (ok : Ok B l Z nar own nm code ml ret R h0 ws fr Q Me) : B.Z = Z := ok.2.2.2.2.2.2.2.2.2.2.1
theorem Ok.nar_ (ok : Ok B l Z nar own nm code ml ret R h0 ws fr Q Me) : B.nar = nar := ok.2.2.2.2.2.2.2.2.2.2.2.1
theorem Ok.ws_ (ok : Ok B l Z nar own nm code ml ret R h0 ws fr Q Me) : B.ws = ws := ok.2.2.2.2.2.2.2.2.2.2.2.2.1
theorem Ok.Me_ (ok : Ok B l Z nar own nm code ml ret R h0 ws fr Q Me) : B.Me = Me := ok.2.2.2.2.2.2.2.2.2.2.2.2.2.1
theorem Ok.fr_ (ok : Ok B l Z nar own nm code ml ret R h0 ws fr Q Me) : B.fr = fr := ok.2.2.2.2.2.2.2.2.2.2.2.2.2.2.1
theorem Ok.Q_ (ok : Ok B l Z nar own nm code ml ret R h0 ws fr Q Me) : B.Q = Q := ok.2.2.2.2.2.2.2.2.2.2.2.2.2.2.2.1
theorem Ok.h_ (ok : Ok B l Z nar own nm code ml ret R h0 ws fr Q Me) : B.s.heap = h0 := ok.2.2.2.2.2.2.2.2.2.2.2.2.2.2.2.2
theorem Ok.zv (ok : Ok B l Z nar own nm code ml ret R h0 ws fr Q Me) {vm0 : Vm} {k0 : Nat} (hS : B.s.Since vm0 k0) : Z.Warmed39 (B.s.setVm vm0).vm := State.Warmed39.trans (t := B.s) ok.zs hS.1
theorem Ok.ownv (ok : Ok B l Z nar own nm code ml ret R h0 ws fr Q Me) {vm0 : Vm} {k0 : Nat} (hS : B.s.Since vm0 k0) : (B.s.setVm vm0).vm.findClass own = some B.m.cls := (hS.1.alike.findClass _ _).trans ok.own_
end Acc
/-- behind a step that leaves the start's tables narrow-warm -/
theorem Bg.next {p : Program} {l : Launch} {e : Env} {R : Room} {s : State} {m : MethodId} {args : Array Value} {below : List Frame} {meth : Method} {c : Code} {T T' Z : State} {locs locs' : List Loc} {k n k' n' : Nat} {M : List Addr}
    (bg : Bg Z M T) (hZ : Z.Warmed39 s.vm) (X : Stand p l e R s m args below meth c T locs k n) (X' : Stand p l e R s m args below meth c T' locs' k' n') (hk : Kept M T.heap T'.heap) : Bg Z M T' :=
  bg.move (wtrans hZ X'.warmed) ((X'.warmed.interned_eq).trans X.warmed.interned_eq.symm) hk
theorem Bg.nextN {p : Program} {l : Launch} {e : Env} {R : Room} {s : State} {m : MethodId} {args : Array Value} {below : List Frame} {meth : Method} {c : Code} {T T' Z : State} {locs locs' : List Loc} {k n k' n' : Nat} {M M' : List Addr}
    (bg : Bg Z M T) (hZ : Z.Warmed39 s.vm) (X : Stand p l e R s m args below meth c T locs k n) (X' : Stand p l e R s m args below meth c T' locs' k' n') (hk : Kept M T.heap T'.heap) (hM : ∀ x ∈ M', x ∈ M ∨ (T.heap.size ≤ x ∧ x < T'.heap.size)) : Bg Z M' T' :=
  bg.grow (wtrans hZ X'.warmed) ((X'.warmed.interned_eq).trans X.warmed.interned_eq.symm) hk hM
end Jvm.Pilot.@@N@@.Wk
namespace Jvm.Pilot.@@N@@.Wk
open Jvm Jvm.ClassFile Sem Op Lib Jvm.Free Jvm.Stand Jvm.LawKit Jvm.RoadKit Bundle
section Pure
variable {B : Cx} {l : Launch} {Z : State} {nar : Bool} {own nm : String} {code : ByteArray} {ml : Nat} {ret : Option FieldType} {R : Room} {h0 : Heap} {ws : List Addr} {fr : Bool} {Q : List Addr → Option Value → Heap → Prop} {Me : List Addr}
variable {h : Heap} {k n : Nat} {M : List Addr} {cl : Cl} {pc pc' : Nat} {L L' : Array Slot} {S S' : List Value}
/-- Java's (char) x -/
def c16 (x : Int32) : Int32 := x.toUInt32.toUInt16.toUInt32.toInt32
/-- Java's (byte) x -/
def b8 (x : Int32) : Int32 := x.toInt8.toInt32
theorem W.pure (st : ∀ (T target : State), At T B.m B.c B.below → Steps B.p.tables B.e B.below (T.setTop (mkF B.m pc' L' S')) target → Steps B.p.tables B.e B.below (T.setTop (mkF B.m pc L S)) target) (K : W B h k n M cl pc' L' S') : W B h k n M cl pc L S :=
  fun T P => Gd.step (fun t q => st T t (by obtain ⟨_, _, _, X, _⟩ := P; exact X.here) q) (K T P)
theorem W.aload (ok : Ok B l Z nar own nm code ml ret R h0 ws fr Q Me) {i : Nat} {v : Value} (hd : decode code pc = .ok (.aload i, 2)) (hp : pc + 2 = pc') (hl : L[i]? = some (.val v)) (hv : v.isRef = true) (K : W B h k n M cl pc' L (v :: S)) : W B h k n M cl pc L S := by
  subst hp; exact W.pure (fun T t hA q => XS.aload hA ok.x rfl (hb ok.by_ hd) hl hv q) K
theorem W.aloadN (ok : Ok B l Z nar own nm code ml ret R h0 ws fr Q Me) {i : Fin 4} {v : Value} (hd : decode code pc = .ok (.aload_n i, 1)) (hp : pc + 1 = pc') (hl : L[i.val]? = some (.val v)) (hv : v.isRef = true) (K : W B h k n M cl pc' L (v :: S)) : W B h k n M cl pc L S := by
  subst hp; exact W.pure (fun T t hA q => XS.aloadN hA ok.x rfl (hb ok.by_ hd) hl hv q) K
theorem W.iload (ok : Ok B l Z nar own nm code ml ret R h0 ws fr Q Me) {i : Nat} {v : Int32} (hd : decode code pc = .ok (.iload i, 2)) (hp : pc + 2 = pc') (hl : L[i]? = some (.val (.int v))) (K : W B h k n M cl pc' L (.int v :: S)) : W B h k n M cl pc L S := by
  subst hp; exact W.pure (fun T t hA q => XS.iload hA ok.x rfl (hb ok.by_ hd) hl q) K
theorem W.iloadN (ok : Ok B l Z nar own nm code ml ret R h0 ws fr Q Me) {i : Fin 4} {v : Int32} (hd : decode code pc = .ok (.iload_n i, 1)) (hp : pc + 1 = pc') (hl : L[i.val]? = some (.val (.int v))) (K : W B h k n M cl pc' L (.int v :: S)) : W B h k n M cl pc L S := by
  subst hp; exact W.pure (fun T t hA q => XS.iloadN hA ok.x rfl (hb ok.by_ hd) hl q) K
theorem W.lload (ok : Ok B l Z nar own nm code ml ret R h0 ws fr Q Me) {i : Nat} {v : Int64} (hd : decode code pc = .ok (.lload i, 2)) (hp : pc + 2 = pc') (hl : L[i]? = some (.val (.long v))) (K : W B h k n M cl pc' L (.long v :: S)) : W B h k n M cl pc L S := by
  subst hp; exact W.pure (fun T t hA q => XT.lload hA ok.x rfl (hb ok.by_ hd) hl q) K
theorem W.lloadN (ok : Ok B l Z nar own nm code ml ret R h0 ws fr Q Me) {i : Fin 4} {v : Int64} (hd : decode code pc = .ok (.lload_n i, 1)) (hp : pc + 1 = pc') (hl : L[i.val]? = some (.val (.long v))) (K : W B h k n M cl pc' L (.long v :: S)) : W B h k n M cl pc L S := by
  subst hp; exact W.pure (fun T t hA q => XT.lloadN hA ok.x rfl (hb ok.by_ hd) hl q) K
theorem W.iconst (ok : Ok B l Z nar own nm code ml ret R h0 ws fr Q Me) {i : Int} (v : Int32) (hd : decode code pc = .ok (.iconst i, 1)) (hp : pc + 1 = pc') (hv : Int32.ofInt i = v) (K : W B h k n M cl pc' L (.int v :: S)) : W B h k n M cl pc L S := by
  subst hp; exact W.pure (fun T t hA q => XT.iconstV hA ok.x rfl v (hb ok.by_ hd) hv q) K
theorem W.bipush (ok : Ok B l Z nar own nm code ml ret R h0 ws fr Q Me) {i : Int} (v : Int32) (hd : decode code pc = .ok (.bipush i, 2)) (hp : pc + 2 = pc') (hv : (Int8.ofInt i).toInt32 = v) (K : W B h k n M cl pc' L (.int v :: S)) : W B h k n M cl pc L S := by
  subst hp; exact W.pure (fun T t hA q => XT.bipushV hA ok.x rfl v (hb ok.by_ hd) hv q) K
theorem W.sipush (ok : Ok B l Z nar own nm code ml ret R h0 ws fr Q Me) {i : Int} (v : Int32) (hd : decode code pc = .ok (.sipush i, 3)) (hp : pc + 3 = pc') (hv : (Int16.ofInt i).toInt32 = v) (K : W B h k n M cl pc' L (.int v :: S)) : W B h k n M cl pc L S := by
  subst hp; exact W.pure (fun T t hA q => XT.sipushV hA ok.x rfl v (hb ok.by_ hd) hv q) K
theorem W.lconst (ok : Ok B l Z nar own nm code ml ret R h0 ws fr Q Me) {i : Fin 2} (v : Int64) (hd : decode code pc = .ok (.lconst i, 1)) (hp : pc + 1 = pc') (hv : Int64.ofNat i = v) (K : W B h k n M cl pc' L (.long v :: S)) : W B h k n M cl pc L S := by
  subst hp; exact W.pure (fun T t hA q => XT.lconstV hA ok.x rfl v (hb ok.by_ hd) hv q) K
theorem W.aconstNull (ok : Ok B l Z nar own nm code ml ret R h0 ws fr Q Me)  (hd : decode code pc = .ok (.aconst_null, 1)) (hp : pc + 1 = pc')  (K : W B h k n M cl pc' L (.null :: S)) : W B h k n M cl pc L S := by
  subst hp; exact W.pure (fun T t hA q => XS.aconstNull hA ok.x rfl (hb ok.by_ hd) q) K
theorem W.iadd (ok : Ok B l Z nar own nm code ml ret R h0 ws fr Q Me) {x y : Int32} (hd : decode code pc = .ok (.iadd, 1)) (hp : pc + 1 = pc')  (K : W B h k n M cl pc' L (.int (x + y) :: S)) : W B h k n M cl pc L (.int y :: .int x :: S) := by
  subst hp; exact W.pure (fun T t hA q => XS.iadd hA ok.x rfl (hb ok.by_ hd) rfl q) K
theorem W.isub (ok : Ok B l Z nar own nm code ml ret R h0 ws fr Q Me) {x y : Int32} (hd : decode code pc = .ok (.isub, 1)) (hp : pc + 1 = pc')  (K : W B h k n M cl pc' L (.int (x - y) :: S)) : W B h k n M cl pc L (.int y :: .int x :: S) := by
  subst hp; exact W.pure (fun T t hA q => XS.isub hA ok.x rfl (hb ok.by_ hd) rfl q) K
theorem W.iand (ok : Ok B l Z nar own nm code ml ret R h0 ws fr Q Me) {x y : Int32} (hd : decode code pc = .ok (.iand, 1)) (hp : pc + 1 = pc')  (K : W B h k n M cl pc' L (.int (x &&& y) :: S)) : W B h k n M cl pc L (.int y :: .int x :: S) := by
  subst hp; exact W.pure (fun T t hA q => XS.iand hA ok.x rfl (hb ok.by_ hd) rfl q) K
theorem W.imul (ok : Ok B l Z nar own nm code ml ret R h0 ws fr Q Me) {x y : Int32} (hd : decode code pc = .ok (.imul, 1)) (hp : pc + 1 = pc')  (K : W B h k n M cl pc' L (.int (x * y) :: S)) : W B h k n M cl pc L (.int y :: .int x :: S) := by
  subst hp; exact W.pure (fun T t hA q => XS.imul hA ok.x rfl (hb ok.by_ hd) rfl q) K
theorem W.ior (ok : Ok B l Z nar own nm code ml ret R h0 ws fr Q Me) {x y : Int32} (hd : decode code pc = .ok (.ior, 1)) (hp : pc + 1 = pc')  (K : W B h k n M cl pc' L (.int (x ||| y) :: S)) : W B h k n M cl pc L (.int y :: .int x :: S) := by
  subst hp; exact W.pure (fun T t hA q => XT.ior hA ok.x rfl (hb ok.by_ hd) rfl q) K
theorem W.ixor (ok : Ok B l Z nar own nm code ml ret R h0 ws fr Q Me) {x y : Int32} (hd : decode code pc = .ok (.ixor, 1)) (hp : pc + 1 = pc')  (K : W B h k n M cl pc' L (.int (x ^^^ y) :: S)) : W B h k n M cl pc L (.int y :: .int x :: S) := by
  subst hp; exact W.pure (fun T t hA q => XT.ixor hA ok.x rfl (hb ok.by_ hd) rfl q) K
theorem W.ishl (ok : Ok B l Z nar own nm code ml ret R h0 ws fr Q Me) {x y : Int32} (hd : decode code pc = .ok (.ishl, 1)) (hp : pc + 1 = pc')  (K : W B h k n M cl pc' L (.int (x <<< (y &&& 31)) :: S)) : W B h k n M cl pc L (.int y :: .int x :: S) := by
  subst hp; exact W.pure (fun T t hA q => XT.ishl hA ok.x rfl (hb ok.by_ hd) rfl q) K
theorem W.ishr (ok : Ok B l Z nar own nm code ml ret R h0 ws fr Q Me) {x y : Int32} (hd : decode code pc = .ok (.ishr, 1)) (hp : pc + 1 = pc')  (K : W B h k n M cl pc' L (.int (x >>> (y &&& 31)) :: S)) : W B h k n M cl pc L (.int y :: .int x :: S) := by
  subst hp; exact W.pure (fun T t hA q => XT.ishr hA ok.x rfl (hb ok.by_ hd) rfl q) K
theorem W.iushr (ok : Ok B l Z nar own nm code ml ret R h0 ws fr Q Me) {x y : Int32} (hd : decode code pc = .ok (.iushr, 1)) (hp : pc + 1 = pc')  (K : W B h k n M cl pc' L (.int (XT.ushr x y) :: S)) : W B h k n M cl pc L (.int y :: .int x :: S) := by
  subst hp; exact W.pure (fun T t hA q => XT.iushr hA ok.x rfl (hb ok.by_ hd) rfl q) K
theorem W.irem (ok : Ok B l Z nar own nm code ml ret R h0 ws fr Q Me) {x y : Int32} (hd : decode code pc = .ok (.irem, 1)) (hp : pc + 1 = pc') (hy : y ≠ 0) (K : W B h k n M cl pc' L (.int (x % y) :: S)) : W B h k n M cl pc L (.int y :: .int x :: S) := by
  subst hp; exact W.pure (fun T t hA q => XS.irem hA ok.x rfl (hb ok.by_ hd) rfl hy (by rw [show x - x / y * y = x % y from irem_eq_mod x y]; exact q)) K
theorem W.idiv (ok : Ok B l Z nar own nm code ml ret R h0 ws fr Q Me) {x y : Int32} (hd : decode code pc = .ok (.idiv, 1)) (hp : pc + 1 = pc') (hy : y ≠ 0) (K : W B h k n M cl pc' L (.int (x / y) :: S)) : W B h k n M cl pc L (.int y :: .int x :: S) := by
  subst hp; exact W.pure (fun T t hA q => XS.idiv hA ok.x rfl (hb ok.by_ hd) rfl hy q) K
theorem W.ineg (ok : Ok B l Z nar own nm code ml ret R h0 ws fr Q Me) {x : Int32} (hd : decode code pc = .ok (.ineg, 1)) (hp : pc + 1 = pc')  (K : W B h k n M cl pc' L (.int (-x) :: S)) : W B h k n M cl pc L (.int x :: S) := by
  subst hp; exact W.pure (fun T t hA q => XS.ineg hA ok.x rfl (hb ok.by_ hd) rfl q) K
theorem W.land (ok : Ok B l Z nar own nm code ml ret R h0 ws fr Q Me) {x y : Int64} (hd : decode code pc = .ok (.land, 1)) (hp : pc + 1 = pc')  (K : W B h k n M cl pc' L (.long (x &&& y) :: S)) : W B h k n M cl pc L (.long y :: .long x :: S) := by
  subst hp; exact W.pure (fun T t hA q => XT.land hA ok.x rfl (hb ok.by_ hd) rfl q) K
theorem W.lor (ok : Ok B l Z nar own nm code ml ret R h0 ws fr Q Me) {x y : Int64} (hd : decode code pc = .ok (.lor, 1)) (hp : pc + 1 = pc')  (K : W B h k n M cl pc' L (.long (x ||| y) :: S)) : W B h k n M cl pc L (.long y :: .long x :: S) := by
  subst hp; exact W.pure (fun T t hA q => XT.lor hA ok.x rfl (hb ok.by_ hd) rfl q) K
theorem W.lxor (ok : Ok B l Z nar own nm code ml ret R h0 ws fr Q Me) {x y : Int64} (hd : decode code pc = .ok (.lxor, 1)) (hp : pc + 1 = pc')  (K : W B h k n M cl pc' L (.long (x ^^^ y) :: S)) : W B h k n M cl pc L (.long y :: .long x :: S) := by
  subst hp; exact W.pure (fun T t hA q => XT.lxor hA ok.x rfl (hb ok.by_ hd) rfl q) K
theorem W.ladd (ok : Ok B l Z nar own nm code ml ret R h0 ws fr Q Me) {x y : Int64} (hd : decode code pc = .ok (.ladd, 1)) (hp : pc + 1 = pc')  (K : W B h k n M cl pc' L (.long (x + y) :: S)) : W B h k n M cl pc L (.long y :: .long x :: S) := by
  subst hp; exact W.pure (fun T t hA q => XT.ladd hA ok.x rfl (hb ok.by_ hd) rfl q) K
theorem W.lsub (ok : Ok B l Z nar own nm code ml ret R h0 ws fr Q Me) {x y : Int64} (hd : decode code pc = .ok (.lsub, 1)) (hp : pc + 1 = pc')  (K : W B h k n M cl pc' L (.long (x - y) :: S)) : W B h k n M cl pc L (.long y :: .long x :: S) := by
  subst hp; exact W.pure (fun T t hA q => XT.lsub hA ok.x rfl (hb ok.by_ hd) rfl q) K
theorem W.lmul (ok : Ok B l Z nar own nm code ml ret R h0 ws fr Q Me) {x y : Int64} (hd : decode code pc = .ok (.lmul, 1)) (hp : pc + 1 = pc')  (K : W B h k n M cl pc' L (.long (x * y) :: S)) : W B h k n M cl pc L (.long y :: .long x :: S) := by
  subst hp; exact W.pure (fun T t hA q => XT.lmul hA ok.x rfl (hb ok.by_ hd) rfl q) K
theorem W.lushr (ok : Ok B l Z nar own nm code ml ret R h0 ws fr Q Me) {x : Int64} {y : Int32} (hd : decode code pc = .ok (.lushr, 1)) (hp : pc + 1 = pc')  (K : W B h k n M cl pc' L (.long (XT.ushrL x y) :: S)) : W B h k n M cl pc L (.int y :: .long x :: S) := by
  subst hp; exact W.pure (fun T t hA q => XT.lushr hA ok.x rfl (hb ok.by_ hd) rfl q) K
theorem W.lshr (ok : Ok B l Z nar own nm code ml ret R h0 ws fr Q Me) {x : Int64} {y : Int32} (hd : decode code pc = .ok (.lshr, 1)) (hp : pc + 1 = pc')  (K : W B h k n M cl pc' L (.long (x >>> (y.toInt64 &&& 63)) :: S)) : W B h k n M cl pc L (.int y :: .long x :: S) := by
  subst hp; exact W.pure (fun T t hA q => XT.lshr hA ok.x rfl (hb ok.by_ hd) rfl q) K
theorem W.lshl (ok : Ok B l Z nar own nm code ml ret R h0 ws fr Q Me) {x : Int64} {y : Int32} (hd : decode code pc = .ok (.lshl, 1)) (hp : pc + 1 = pc')  (K : W B h k n M cl pc' L (.long (x <<< (y.toInt64 &&& 63)) :: S)) : W B h k n M cl pc L (.int y :: .long x :: S) := by
  subst hp; exact W.pure (fun T t hA q => XT.lshl hA ok.x rfl (hb ok.by_ hd) rfl q) K
theorem W.i2l (ok : Ok B l Z nar own nm code ml ret R h0 ws fr Q Me) {x : Int32} (hd : decode code pc = .ok (.i2l, 1)) (hp : pc + 1 = pc')  (K : W B h k n M cl pc' L (.long x.toInt64 :: S)) : W B h k n M cl pc L (.int x :: S) := by
  subst hp; exact W.pure (fun T t hA q => XT.i2l hA ok.x rfl (hb ok.by_ hd) rfl q) K
theorem W.l2i (ok : Ok B l Z nar own nm code ml ret R h0 ws fr Q Me) {x : Int64} (hd : decode code pc = .ok (.l2i, 1)) (hp : pc + 1 = pc')  (K : W B h k n M cl pc' L (.int x.toInt32 :: S)) : W B h k n M cl pc L (.long x :: S) := by
  subst hp; exact W.pure (fun T t hA q => XT.l2i hA ok.x rfl (hb ok.by_ hd) rfl q) K
theorem W.i2b (ok : Ok B l Z nar own nm code ml ret R h0 ws fr Q Me) {x : Int32} (hd : decode code pc = .ok (.i2b, 1)) (hp : pc + 1 = pc')  (K : W B h k n M cl pc' L (.int (b8 x) :: S)) : W B h k n M cl pc L (.int x :: S) := by
  subst hp; exact W.pure (fun T t hA q => XT.i2b hA ok.x rfl (hb ok.by_ hd) rfl q) K
theorem W.i2c (ok : Ok B l Z nar own nm code ml ret R h0 ws fr Q Me) {x : Int32} (hd : decode code pc = .ok (.i2c, 1)) (hp : pc + 1 = pc')  (K : W B h k n M cl pc' L (.int (c16 x) :: S)) : W B h k n M cl pc L (.int x :: S) := by
  subst hp; exact W.pure (fun T t hA q => XT.i2c hA ok.x rfl (hb ok.by_ hd) rfl q) K
theorem W.dup (ok : Ok B l Z nar own nm code ml ret R h0 ws fr Q Me) {x : Value} (hd : decode code pc = .ok (.dup, 1)) (hp : pc + 1 = pc') (hc : x.category = 1) (K : W B h k n M cl pc' L (x :: x :: S)) : W B h k n M cl pc L (x :: S) := by
  subst hp; exact W.pure (fun T t hA q => XS.dup hA ok.x rfl (hb ok.by_ hd) rfl hc q) K
theorem W.dup2 (ok : Ok B l Z nar own nm code ml ret R h0 ws fr Q Me) {x y : Value} (hd : decode code pc = .ok (.dup2, 1)) (hp : pc + 1 = pc') (hc : x.category = 1) (hc' : y.category = 1) (K : W B h k n M cl pc' L (x :: y :: x :: y :: S)) : W B h k n M cl pc L (x :: y :: S) := by
  subst hp; exact W.pure (fun T t hA q => XT.dup2 hA ok.x rfl (hb ok.by_ hd) rfl hc hc' q) K
theorem W.dupX1 (ok : Ok B l Z nar own nm code ml ret R h0 ws fr Q Me) {x y : Value} (hd : decode code pc = .ok (.dup_x1, 1)) (hp : pc + 1 = pc') (hc : x.category = 1) (hc' : y.category = 1) (K : W B h k n M cl pc' L (x :: y :: x :: S)) : W B h k n M cl pc L (x :: y :: S) := by
  subst hp; exact W.pure (fun T t hA q => XT.dupX1 hA ok.x rfl (hb ok.by_ hd) rfl hc hc' q) K
theorem W.pop1 (ok : Ok B l Z nar own nm code ml ret R h0 ws fr Q Me) {x : Value} (hd : decode code pc = .ok (.pop, 1)) (hp : pc + 1 = pc') (hc : x.category = 1) (K : W B h k n M cl pc' L S) : W B h k n M cl pc L (x :: S) := by
  subst hp; exact W.pure (fun T t hA q => XT.pop hA ok.x rfl (hb ok.by_ hd) rfl hc q) K
theorem W.istore (ok : Ok B l Z nar own nm code ml ret R h0 ws fr Q Me) {i : Nat} {v : Int32} (hd : decode code pc = .ok (.istore i, 2)) (hp : pc + 2 = pc') (hl : storeLocals L i (.int v) = some L') (K : W B h k n M cl pc' L' S) : W B h k n M cl pc L (.int v :: S) := by
  subst hp; exact W.pure (fun T t hA q => XS.istore hA ok.x rfl (hb ok.by_ hd) rfl hl q) K
theorem W.istoreN (ok : Ok B l Z nar own nm code ml ret R h0 ws fr Q Me) {i : Fin 4} {v : Int32} (hd : decode code pc = .ok (.istore_n i, 1)) (hp : pc + 1 = pc') (hl : storeLocals L i.val (.int v) = some L') (K : W B h k n M cl pc' L' S) : W B h k n M cl pc L (.int v :: S) := by
  subst hp; exact W.pure (fun T t hA q => XS.istoreN hA ok.x rfl (hb ok.by_ hd) rfl hl q) K
theorem W.astore (ok : Ok B l Z nar own nm code ml ret R h0 ws fr Q Me) {i : Nat} {v : Value} (hd : decode code pc = .ok (.astore i, 2)) (hp : pc + 2 = pc') (hv : v.isRef = true) (hl : storeLocals L i v = some L') (K : W B h k n M cl pc' L' S) : W B h k n M cl pc L (v :: S) := by
  subst hp; exact W.pure (fun T t hA q => XS.astore hA ok.x rfl (hb ok.by_ hd) rfl hv hl q) K
theorem W.astoreN (ok : Ok B l Z nar own nm code ml ret R h0 ws fr Q Me) {i : Fin 4} {v : Value} (hd : decode code pc = .ok (.astore_n i, 1)) (hp : pc + 1 = pc') (hv : v.isRef = true) (hl : storeLocals L i.val v = some L') (K : W B h k n M cl pc' L' S) : W B h k n M cl pc L (v :: S) := by
  subst hp; exact W.pure (fun T t hA q => XS.astoreN hA ok.x rfl (hb ok.by_ hd) rfl hv hl q) K
theorem W.lstore (ok : Ok B l Z nar own nm code ml ret R h0 ws fr Q Me) {i : Nat} {v : Int64} (hd : decode code pc = .ok (.lstore i, 2)) (hp : pc + 2 = pc') (hl : storeLocals L i (.long v) = some L') (K : W B h k n M cl pc' L' S) : W B h k n M cl pc L (.long v :: S) := by
  subst hp; exact W.pure (fun T t hA q => XT.lstore hA ok.x rfl (hb ok.by_ hd) rfl hl q) K
theorem W.lstoreN (ok : Ok B l Z nar own nm code ml ret R h0 ws fr Q Me) {i : Fin 4} {v : Int64} (hd : decode code pc = .ok (.lstore_n i, 1)) (hp : pc + 1 = pc') (hl : storeLocals L i.val (.long v) = some L') (K : W B h k n M cl pc' L' S) : W B h k n M cl pc L (.long v :: S) := by
  subst hp; exact W.pure (fun T t hA q => XT.lstoreN hA ok.x rfl (hb ok.by_ hd) rfl hl q) K
theorem W.astoreS (ok : Ok B l Z nar own nm code ml ret R h0 ws fr Q Me) {i : Nat} {v : Value} {o : Slot} (hd : decode code pc = .ok (.astore i, 2)) (hp : pc + 2 = pc') (hv : v.isRef = true) (hl : L[i]? = some o) (ho : One o) (e : L.setIfInBounds i (.val v) = L') (K : W B h k n M cl pc' L' S) : W B h k n M cl pc L (v :: S) := by
  subst hp; exact W.pure (fun T t hA q => XS.astore hA ok.x rfl (hb ok.by_ hd) rfl hv ((XS.store1 hl ho (XT.cat1 hv)).trans (congrArg some e)) q) K
theorem W.astoreNS (ok : Ok B l Z nar own nm code ml ret R h0 ws fr Q Me) {i : Fin 4} {v : Value} {o : Slot} (hd : decode code pc = .ok (.astore_n i, 1)) (hp : pc + 1 = pc') (hv : v.isRef = true) (hl : L[i.val]? = some o) (ho : One o) (e : L.setIfInBounds i.val (.val v) = L') (K : W B h k n M cl pc' L' S) : W B h k n M cl pc L (v :: S) := by
  subst hp; exact W.pure (fun T t hA q => XS.astoreN hA ok.x rfl (hb ok.by_ hd) rfl hv ((XS.store1 hl ho (XT.cat1 hv)).trans (congrArg some e)) q) K
theorem W.istoreS (ok : Ok B l Z nar own nm code ml ret R h0 ws fr Q Me) {i : Nat} {v : Int32} {o : Slot} (hd : decode code pc = .ok (.istore i, 2)) (hp : pc + 2 = pc') (hl : L[i]? = some o) (ho : One o) (e : L.setIfInBounds i (.val (.int v)) = L') (K : W B h k n M cl pc' L' S) : W B h k n M cl pc L (.int v :: S) := by
  subst hp; exact W.pure (fun T t hA q => XS.istore hA ok.x rfl (hb ok.by_ hd) rfl ((XS.store1 hl ho rfl).trans (congrArg some e)) q) K
theorem W.istoreNS (ok : Ok B l Z nar own nm code ml ret R h0 ws fr Q Me) {i : Fin 4} {v : Int32} {o : Slot} (hd : decode code pc = .ok (.istore_n i, 1)) (hp : pc + 1 = pc') (hl : L[i.val]? = some o) (ho : One o) (e : L.setIfInBounds i.val (.val (.int v)) = L') (K : W B h k n M cl pc' L' S) : W B h k n M cl pc L (.int v :: S) := by
  subst hp; exact W.pure (fun T t hA q => XS.istoreN hA ok.x rfl (hb ok.by_ hd) rfl ((XS.store1 hl ho rfl).trans (congrArg some e)) q) K
theorem W.iinc (ok : Ok B l Z nar own nm code ml ret R h0 ws fr Q Me) {i : Nat} {cst : Int} {x : Int32} (v : Int32) (hd : decode code pc = .ok (.iinc i cst, 3)) (hp : pc + 3 = pc') (hv : Int32.ofInt cst = v) (hl : L[i]? = some (.val (.int x))) (hl' : storeLocals L i (.int (x + v)) = some L') (K : W B h k n M cl pc' L' S) : W B h k n M cl pc L S := by
  subst hp; exact W.pure (fun T t hA q => XT.iincV hA ok.x rfl v (hb ok.by_ hd) hv hl hl' q) K
theorem W.goto (ok : Ok B l Z nar own nm code ml ret R h0 ws fr Q Me) {o : Int} (hd : decode code pc = .ok (.goto o, 3)) (ho : 0 ≤ (pc : Int) + o) (hp : ((pc : Int) + o).toNat = pc') (K : W B h k n M cl pc' L S) : W B h k n M cl pc L S :=
  W.pure (fun T t hA q => XS.goto hA ok.x rfl (pc0 := pc) rfl (hb ok.by_ hd) ho hp q) K
theorem W.ifeq (ok : Ok B l Z nar own nm code ml ret R h0 ws fr Q Me) {x : Int32} {o : Int} {pcY pcN : Nat} (hd : decode code pc = .ok (.ifCond .eq o, 3)) (hp : pc + 3 = pcN) (ho : 0 ≤ (pc : Int) + o) (hj : ((pc : Int) + o).toNat = pcY) (KT : x = 0 → W B h k n M cl pcY L S) (KF : ¬ x = 0 → W B h k n M cl pcN L S) : W B h k n M cl pc L (.int x :: S) := by
  subst hp; by_cases c : x = 0
  · exact W.pure (fun T t hA q => XS.ifYes hA ok.x rfl (pc0 := pc) rfl (hb ok.by_ hd) rfl (XT.i0_eq_t c) ho hj q) (KT c)
  · exact W.pure (fun T t hA q => XS.ifNo hA ok.x rfl (hb ok.by_ hd) rfl (XT.i0_eq_f c) q) (KF c)
theorem W.ifne (ok : Ok B l Z nar own nm code ml ret R h0 ws fr Q Me) {x : Int32} {o : Int} {pcY pcN : Nat} (hd : decode code pc = .ok (.ifCond .ne o, 3)) (hp : pc + 3 = pcN) (ho : 0 ≤ (pc : Int) + o) (hj : ((pc : Int) + o).toNat = pcY) (KT : x = 0 → W B h k n M cl pcN L S) (KF : ¬ x = 0 → W B h k n M cl pcY L S) : W B h k n M cl pc L (.int x :: S) := by
  subst hp; by_cases c : x = 0
  · exact W.pure (fun T t hA q => XS.ifNo hA ok.x rfl (hb ok.by_ hd) rfl (XT.i0_ne_f c) q) (KT c)
  · exact W.pure (fun T t hA q => XS.ifYes hA ok.x rfl (pc0 := pc) rfl (hb ok.by_ hd) rfl (XT.i0_ne_t c) ho hj q) (KF c)
theorem W.iflt (ok : Ok B l Z nar own nm code ml ret R h0 ws fr Q Me) {x : Int32} {o : Int} {pcY pcN : Nat} (hd : decode code pc = .ok (.ifCond .lt o, 3)) (hp : pc + 3 = pcN) (ho : 0 ≤ (pc : Int) + o) (hj : ((pc : Int) + o).toNat = pcY) (KT : x < 0 → W B h k n M cl pcY L S) (KF : ¬ x < 0 → W B h k n M cl pcN L S) : W B h k n M cl pc L (.int x :: S) := by
  subst hp; by_cases c : x < 0
  · exact W.pure (fun T t hA q => XS.ifYes hA ok.x rfl (pc0 := pc) rfl (hb ok.by_ hd) rfl (XT.i0_lt_t c) ho hj q) (KT c)
  · exact W.pure (fun T t hA q => XS.ifNo hA ok.x rfl (hb ok.by_ hd) rfl (XT.i0_lt_f c) q) (KF c)
theorem W.ifge (ok : Ok B l Z nar own nm code ml ret R h0 ws fr Q Me) {x : Int32} {o : Int} {pcY pcN : Nat} (hd : decode code pc = .ok (.ifCond .ge o, 3)) (hp : pc + 3 = pcN) (ho : 0 ≤ (pc : Int) + o) (hj : ((pc : Int) + o).toNat = pcY) (KT : x < 0 → W B h k n M cl pcN L S) (KF : ¬ x < 0 → W B h k n M cl pcY L S) : W B h k n M cl pc L (.int x :: S) := by
  subst hp; by_cases c : x < 0
  · exact W.pure (fun T t hA q => XS.ifNo hA ok.x rfl (hb ok.by_ hd) rfl (XT.i0_ge_f c) q) (KT c)
  · exact W.pure (fun T t hA q => XS.ifYes hA ok.x rfl (pc0 := pc) rfl (hb ok.by_ hd) rfl (XT.i0_ge_t c) ho hj q) (KF c)
theorem W.ifgt (ok : Ok B l Z nar own nm code ml ret R h0 ws fr Q Me) {x : Int32} {o : Int} {pcY pcN : Nat} (hd : decode code pc = .ok (.ifCond .gt o, 3)) (hp : pc + 3 = pcN) (ho : 0 ≤ (pc : Int) + o) (hj : ((pc : Int) + o).toNat = pcY) (KT : 0 < x → W B h k n M cl pcY L S) (KF : ¬ 0 < x → W B h k n M cl pcN L S) : W B h k n M cl pc L (.int x :: S) := by
  subst hp; by_cases c : 0 < x
  · exact W.pure (fun T t hA q => XS.ifYes hA ok.x rfl (pc0 := pc) rfl (hb ok.by_ hd) rfl (XT.i0_gt_t c) ho hj q) (KT c)
  · exact W.pure (fun T t hA q => XS.ifNo hA ok.x rfl (hb ok.by_ hd) rfl (XT.i0_gt_f c) q) (KF c)
theorem W.ifle (ok : Ok B l Z nar own nm code ml ret R h0 ws fr Q Me) {x : Int32} {o : Int} {pcY pcN : Nat} (hd : decode code pc = .ok (.ifCond .le o, 3)) (hp : pc + 3 = pcN) (ho : 0 ≤ (pc : Int) + o) (hj : ((pc : Int) + o).toNat = pcY) (KT : 0 < x → W B h k n M cl pcN L S) (KF : ¬ 0 < x → W B h k n M cl pcY L S) : W B h k n M cl pc L (.int x :: S) := by
  subst hp; by_cases c : 0 < x
  · exact W.pure (fun T t hA q => XS.ifNo hA ok.x rfl (hb ok.by_ hd) rfl (XT.i0_le_f c) q) (KT c)
  · exact W.pure (fun T t hA q => XS.ifYes hA ok.x rfl (pc0 := pc) rfl (hb ok.by_ hd) rfl (XT.i0_le_t c) ho hj q) (KF c)
theorem W.icmpeq (ok : Ok B l Z nar own nm code ml ret R h0 ws fr Q Me) {x y : Int32} {o : Int} {pcY pcN : Nat} (hd : decode code pc = .ok (.if_icmp .eq o, 3)) (hp : pc + 3 = pcN) (ho : 0 ≤ (pc : Int) + o) (hj : ((pc : Int) + o).toNat = pcY) (KT : x = y → W B h k n M cl pcY L S) (KF : ¬ x = y → W B h k n M cl pcN L S) : W B h k n M cl pc L (.int y :: .int x :: S) := by
  subst hp; by_cases c : x = y
  · exact W.pure (fun T t hA q => XS.icmpYes hA ok.x rfl (pc0 := pc) rfl (hb ok.by_ hd) rfl (XT.ii_eq_t c) ho hj q) (KT c)
  · exact W.pure (fun T t hA q => XS.icmpNo hA ok.x rfl (hb ok.by_ hd) rfl (XT.ii_eq_f c) q) (KF c)
theorem W.icmpne (ok : Ok B l Z nar own nm code ml ret R h0 ws fr Q Me) {x y : Int32} {o : Int} {pcY pcN : Nat} (hd : decode code pc = .ok (.if_icmp .ne o, 3)) (hp : pc + 3 = pcN) (ho : 0 ≤ (pc : Int) + o) (hj : ((pc : Int) + o).toNat = pcY) (KT : x = y → W B h k n M cl pcN L S) (KF : ¬ x = y → W B h k n M cl pcY L S) : W B h k n M cl pc L (.int y :: .int x :: S) := by
  subst hp; by_cases c : x = y
  · exact W.pure (fun T t hA q => XS.icmpNo hA ok.x rfl (hb ok.by_ hd) rfl (XT.ii_ne_f c) q) (KT c)
  · exact W.pure (fun T t hA q => XS.icmpYes hA ok.x rfl (pc0 := pc) rfl (hb ok.by_ hd) rfl (XT.ii_ne_t c) ho hj q) (KF c)
theorem W.icmplt (ok : Ok B l Z nar own nm code ml ret R h0 ws fr Q Me) {x y : Int32} {o : Int} {pcY pcN : Nat} (hd : decode code pc = .ok (.if_icmp .lt o, 3)) (hp : pc + 3 = pcN) (ho : 0 ≤ (pc : Int) + o) (hj : ((pc : Int) + o).toNat = pcY) (KT : x < y → W B h k n M cl pcY L S) (KF : ¬ x < y → W B h k n M cl pcN L S) : W B h k n M cl pc L (.int y :: .int x :: S) := by
  subst hp; by_cases c : x < y
  · exact W.pure (fun T t hA q => XS.icmpYes hA ok.x rfl (pc0 := pc) rfl (hb ok.by_ hd) rfl (XT.ii_lt_t c) ho hj q) (KT c)
  · exact W.pure (fun T t hA q => XS.icmpNo hA ok.x rfl (hb ok.by_ hd) rfl (XT.ii_lt_f c) q) (KF c)
theorem W.icmpge (ok : Ok B l Z nar own nm code ml ret R h0 ws fr Q Me) {x y : Int32} {o : Int} {pcY pcN : Nat} (hd : decode code pc = .ok (.if_icmp .ge o, 3)) (hp : pc + 3 = pcN) (ho : 0 ≤ (pc : Int) + o) (hj : ((pc : Int) + o).toNat = pcY) (KT : x < y → W B h k n M cl pcN L S) (KF : ¬ x < y → W B h k n M cl pcY L S) : W B h k n M cl pc L (.int y :: .int x :: S) := by
  subst hp; by_cases c : x < y
  · exact W.pure (fun T t hA q => XS.icmpNo hA ok.x rfl (hb ok.by_ hd) rfl (XT.ii_ge_f c) q) (KT c)
  · exact W.pure (fun T t hA q => XS.icmpYes hA ok.x rfl (pc0 := pc) rfl (hb ok.by_ hd) rfl (XT.ii_ge_t c) ho hj q) (KF c)
theorem W.icmpgt (ok : Ok B l Z nar own nm code ml ret R h0 ws fr Q Me) {x y : Int32} {o : Int} {pcY pcN : Nat} (hd : decode code pc = .ok (.if_icmp .gt o, 3)) (hp : pc + 3 = pcN) (ho : 0 ≤ (pc : Int) + o) (hj : ((pc : Int) + o).toNat = pcY) (KT : y < x → W B h k n M cl pcY L S) (KF : ¬ y < x → W B h k n M cl pcN L S) : W B h k n M cl pc L (.int y :: .int x :: S) := by
  subst hp; by_cases c : y < x
  · exact W.pure (fun T t hA q => XS.icmpYes hA ok.x rfl (pc0 := pc) rfl (hb ok.by_ hd) rfl (XT.ii_gt_t c) ho hj q) (KT c)
  · exact W.pure (fun T t hA q => XS.icmpNo hA ok.x rfl (hb ok.by_ hd) rfl (XT.ii_gt_f c) q) (KF c)
theorem W.icmple (ok : Ok B l Z nar own nm code ml ret R h0 ws fr Q Me) {x y : Int32} {o : Int} {pcY pcN : Nat} (hd : decode code pc = .ok (.if_icmp .le o, 3)) (hp : pc + 3 = pcN) (ho : 0 ≤ (pc : Int) + o) (hj : ((pc : Int) + o).toNat = pcY) (KT : y < x → W B h k n M cl pcN L S) (KF : ¬ y < x → W B h k n M cl pcY L S) : W B h k n M cl pc L (.int y :: .int x :: S) := by
  subst hp; by_cases c : y < x
  · exact W.pure (fun T t hA q => XS.icmpNo hA ok.x rfl (hb ok.by_ hd) rfl (XT.ii_le_f c) q) (KT c)
  · exact W.pure (fun T t hA q => XS.icmpYes hA ok.x rfl (pc0 := pc) rfl (hb ok.by_ hd) rfl (XT.ii_le_t c) ho hj q) (KF c)
theorem W.acmpeq (ok : Ok B l Z nar own nm code ml ret R h0 ws fr Q Me) {x y : Value} {o : Int} {pcY pcN : Nat} (hd : decode code pc = .ok (.if_acmp .eq o, 3)) (hp : pc + 3 = pcN) (hx : x.isRef = true) (hy : y.isRef = true) (ho : 0 ≤ (pc : Int) + o) (hj : ((pc : Int) + o).toNat = pcY) (KT : x = y → W B h k n M cl pcY L S) (KF : ¬ x = y → W B h k n M cl pcN L S) : W B h k n M cl pc L (y :: x :: S) := by
  subst hp; by_cases c : x = y
  · exact W.pure (fun T t hA q => XT.acmpYes hA ok.x rfl (pc0 := pc) rfl (hb ok.by_ hd) rfl hx hy (XT.aa_eq_t c) ho hj q) (KT c)
  · exact W.pure (fun T t hA q => XT.acmpNo hA ok.x rfl (hb ok.by_ hd) rfl hx hy (XT.aa_eq_f c) q) (KF c)
theorem W.acmpne (ok : Ok B l Z nar own nm code ml ret R h0 ws fr Q Me) {x y : Value} {o : Int} {pcY pcN : Nat} (hd : decode code pc = .ok (.if_acmp .ne o, 3)) (hp : pc + 3 = pcN) (hx : x.isRef = true) (hy : y.isRef = true) (ho : 0 ≤ (pc : Int) + o) (hj : ((pc : Int) + o).toNat = pcY) (KT : x = y → W B h k n M cl pcN L S) (KF : ¬ x = y → W B h k n M cl pcY L S) : W B h k n M cl pc L (y :: x :: S) := by
  subst hp; by_cases c : x = y
  · exact W.pure (fun T t hA q => XT.acmpNo hA ok.x rfl (hb ok.by_ hd) rfl hx hy (XT.aa_ne_f c) q) (KT c)
  · exact W.pure (fun T t hA q => XT.acmpYes hA ok.x rfl (pc0 := pc) rfl (hb ok.by_ hd) rfl hx hy (XT.aa_ne_t c) ho hj q) (KF c)
theorem W.ifnull (ok : Ok B l Z nar own nm code ml ret R h0 ws fr Q Me) {v : Value} {o : Int} {pcY pcN : Nat} (hd : decode code pc = .ok (.ifnull o, 3)) (hp : pc + 3 = pcN) (hv : v.isRef = true) (ho : 0 ≤ (pc : Int) + o) (hj : ((pc : Int) + o).toNat = pcY) (KT : v = .null → W B h k n M cl pcY L S) (KF : ¬ v = .null → W B h k n M cl pcN L S) : W B h k n M cl pc L (v :: S) := by
  subst hp; by_cases c : v = .null
  · exact W.pure (fun T t hA q => XT.nullYes hA ok.x rfl (pc0 := pc) rfl (hb ok.by_ hd) rfl c ho hj q) (KT c)
  · exact W.pure (fun T t hA q => XT.nullNo hA ok.x rfl (hb ok.by_ hd) rfl hv c q) (KF c)
theorem W.ifnonnull (ok : Ok B l Z nar own nm code ml ret R h0 ws fr Q Me) {v : Value} {o : Int} {pcY pcN : Nat} (hd : decode code pc = .ok (.ifnonnull o, 3)) (hp : pc + 3 = pcN) (hv : v.isRef = true) (ho : 0 ≤ (pc : Int) + o) (hj : ((pc : Int) + o).toNat = pcY) (KT : v = .null → W B h k n M cl pcN L S) (KF : ¬ v = .null → W B h k n M cl pcY L S) : W B h k n M cl pc L (v :: S) := by
  subst hp; by_cases c : v = .null
  · exact W.pure (fun T t hA q => XT.nonnullNo hA ok.x rfl (hb ok.by_ hd) rfl c q) (KT c)
  · exact W.pure (fun T t hA q => XT.nonnullYes hA ok.x rfl (pc0 := pc) rfl (hb ok.by_ hd) rfl hv c ho hj q) (KF c)
end Pure
end Jvm.Pilot.@@N@@.Wk
namespace Jvm.Pilot.@@N@@.Wk
open Jvm Jvm.ClassFile Sem Op Lib Jvm.Free Jvm.Stand Jvm.LawKit Jvm.RoadKit Bundle
/-! ### arrays of int-like things, all components known -/
def ArI (Z : State) (h : Heap) (a : Addr) (ty : FieldType) (cs : List Int32) : Prop := ∃ c : Cell, Arr Z h a c ty ∧ c.slots = (cs.map Value.int).toArray ∧ ∀ x ∈ cs, fits ty (.int x) = true
theorem ArI.ext {Z : State} {h h' : Heap} {a : Addr} {ty : FieldType} {cs : List Int32} (F : ArI Z h a ty cs) (E : Ext h h') : ArI Z h' a ty cs := by obtain ⟨c, A, r⟩ := F; exact ⟨c, A.ext E, r⟩
theorem ArI.keep {Z : State} {h h' : Heap} {a : Addr} {ty : FieldType} {cs : List Int32} {ws : List Addr} (F : ArI Z h a ty cs) (K : Keep h h' ws) (q : a ∉ ws) : ArI Z h' a ty cs := by obtain ⟨c, A, r⟩ := F; exact ⟨c, ⟨K.2.1 a c A.1 q, A.2⟩, r⟩
theorem ArI.kept {Z : State} {h h' : Heap} {a : Addr} {ty : FieldType} {cs : List Int32} {M : List Addr} (F : ArI Z h a ty cs) (K : Kept M h h') (q : a ∉ M) : ArI Z h' a ty cs := by obtain ⟨c, A, r⟩ := F; exact ⟨c, ⟨K.2 a c A.1 q, A.2⟩, r⟩
theorem ArI.other {Z : State} {h h' : Heap} {a b : Addr} {ty : FieldType} {cs : List Int32} {sl : Nat} {v : Value} (F : ArI Z h b ty cs) (W : Wr h h' a sl v) (q : b ≠ a) : ArI Z h' b ty cs := by obtain ⟨c, A, r⟩ := F; exact ⟨c, A.other W q, r⟩
theorem ArI.lt {Z : State} {h : Heap} {a : Addr} {ty : FieldType} {cs : List Int32} (F : ArI Z h a ty cs) : a < h.size := by obtain ⟨c, A, -⟩ := F; exact A.lt
theorem ArI.gt {Z : State} {h : Heap} {a : Addr} {ty : FieldType} {cs : List Int32} (F : ArI Z h a ty cs) : h.size > a := F.lt
theorem gtE {Z : State} {h : Heap} {a : Addr} {C : String} (F : Exa Z h a C) : h.size > a := F.lt
theorem ArI.fit {Z : State} {h : Heap} {a : Addr} {ty : FieldType} {cs : List Int32} (F : ArI Z h a ty cs) : ∀ x ∈ cs, fits ty (.int x) = true := by obtain ⟨c, A, -, r⟩ := F; exact r
theorem ArI.cast {Z : State} {h : Heap} {a : Addr} {ty : FieldType} {cs cs' : List Int32} (F : ArI Z h a ty cs) (e : cs = cs') : ArI Z h a ty cs' := e ▸ F
theorem ArI.new {Z : State} {h : Heap} {a : Addr} {ty : FieldType} {cA : ClassId} {z : Int32} (A : Arr Z h a (newA cA ty z) ty) (hd : defaultValue ty = .int 0) (hf : fits ty (.int 0) = true) : ArI Z h a ty (List.replicate z.toNatClampNeg 0) := by
  refine ⟨_, A, ?_, fun x hx => ?_⟩
  · simp [newA, hd]
  · rw [List.eq_of_mem_replicate hx]; exact hf
theorem ArI.set {Z : State} {h h' : Heap} {a : Addr} {ty : FieldType} {cs : List Int32} {j : Nat} {x : Int32} (F : ArI Z h a ty cs) (W : Wr h h' a j (.int x)) (hx : fits ty (.int x) = true) : ArI Z h' a ty (cs.set j x) := by
  obtain ⟨c, A, e, r⟩ := F
  refine ⟨_, A.same W, ?_, fun y hy => ?_⟩
  · simp only [Cell.setSlot, e]
    apply Array.ext_getElem?
    intro i
    simp [List.map_set]
  · rcases List.mem_or_eq_of_mem_set hy with q | q
    · exact r y q
    · exact q ▸ hx
theorem Fld.kept {Z : State} {h h' : Heap} {a : Addr} {C f d : String} {v : Value} {M : List Addr} (F : Fld Z h a C f d v) (K : Kept M h h') (q : a ∉ M) : Fld Z h' a C f d v := by
  obtain ⟨cell, cf, k, i, f, h1, r⟩ := F; exact ⟨cell, cf, k, i, f, K.2 a cell h1 q, r⟩
theorem Exa.kept {Z : State} {h h' : Heap} {a : Addr} {C : String} {M : List Addr} (F : Exa Z h a C) (K : Kept M h h') (q : a ∉ M) : Exa Z h' a C := by
  obtain ⟨cell, k, h1, r⟩ := F; exact ⟨cell, k, K.2 a cell h1 q, r⟩
theorem ane {a b : Nat} (h : a < b ∨ b < a) : a ≠ b := by omega
theorem nin1 {a b : Nat} (h : a < b ∨ b < a) : a ∉ [b] := by simp; omega
theorem nin2 {a b c : Nat} (h : a < b ∨ b < a) (h2 : a < c ∨ c < a) : a ∉ [b, c] := by simp; omega
theorem ExtT {h h1 h2 : Heap} (E : Ext h h1) (E' : Ext h1 h2) : Ext h h2 := ⟨Nat.le_trans E.1 E'.1, fun a c q => E'.2 a c (E.2 a c q)⟩
theorem ExtK {h h1 h2 : Heap} {ws : List Addr} (E : Ext h h1) (K : Keep h1 h2 ws) (hw : ∀ w ∈ ws, h.size ≤ w) : Ext h h2 :=
  ⟨Nat.le_trans E.1 K.1, fun a c q => K.2.1 a c (E.2 a c q) fun z => absurd (Array.getElem?_eq_some_iff.mp q).1 (Nat.not_lt.mpr (hw a z))⟩
theorem ExtW {h h1 h2 : Heap} {b : Addr} {sl : Nat} {v : Value} (E : Ext h h1) (W : Wr h1 h2 b sl v) (hb : h.size ≤ b) : Ext h h2 := ExtK E (Keep.of_wr W) fun w hw => by cases List.mem_singleton.mp hw; exact hb
theorem ExtR (h : Heap) : Ext h h := ⟨Nat.le_refl _, fun _ _ q => q⟩
theorem Exa.neArI {Z : State} {h : Heap} {a b : Addr} {C : String} {ty : FieldType} {cs : List Int32} {a0 : Array Value} {k : Nat} (E : Exa Z h a C) (w : (Cond.instantiable C k).before a0 Z = true) (A : ArI Z h b ty cs) : a ≠ b := by
  obtain ⟨c, A, -⟩ := A
  exact ne_arr E w A
/-! ### one W-lemma a step that reads or turns the heap -/
section Heap
variable {B : Cx} {l : Launch} {Z : State} {nar : Bool} {own nm : String} {code : ByteArray} {ml : Nat} {ret : Option FieldType} {R : Room} {h0 : Heap} {ws : List Addr} {fr : Bool} {Q : List Addr → Option Value → Heap → Prop} {Me : List Addr}
variable {h : Heap} {k n : Nat} {M : List Addr} {cl : Cl} {pc pc' : Nat} {L L' : Array Slot} {S S' : List Value} {a0 : Array Value}
theorem W.heap {Φ : Heap → Prop} {k' n' : Nat} {M' : List Addr} {cl' : Cl} (ok : Ok B l Z nar own nm code ml ret R h0 ws fr Q Me)
    (st : ∀ (T : State) (vm0 : Vm) (locs : List Loc), Stand B.p B.l B.e B.R (B.s.setVm vm0) B.m B.args B.below B.meth B.c T locs k n → Z.Warmed39 (B.s.setVm vm0).vm → (B.s.setVm vm0).vm.findClass own = some B.m.cls → T.heap = h → Ext Z.heap h → h0.size ≤ h.size →
      ∃ (T' : State) (locs2 : List Loc), Stand B.p B.l B.e B.R (B.s.setVm vm0) B.m B.args B.below B.meth B.c T' (locs ++ locs2) k' n' ∧ Kept M h T'.heap ∧ (∀ y ∈ locs2, y.base ∈ ws ∨ h0.size ≤ y.base) ∧ (cl'.1 = true → cl.1 = true ∧ ∀ y ∈ locs2, h0.size ≤ y.base) ∧ (∀ x ∈ M', x ∈ M ∨ (h.size ≤ x ∧ x < T'.heap.size)) ∧ Φ T'.heap ∧
        ∀ t, Steps B.p.tables B.e B.below (T'.setTop (mkF B.m pc' L' S')) t → Steps B.p.tables B.e B.below (T.setTop (mkF B.m pc L S)) t)
    (hcs : cl'.2 = cl.2) (K : ∀ h', Φ h' → W B h' k' n' M' cl' pc' L' S') : W B h k n M cl pc L S := by
  intro T P
  obtain ⟨vm0, k0, locs, X, hS, hk0, hnar, hL, hcl, hlt, eT, bg⟩ := P
  have eZ := ok.Z_
  have hsz : h0.size ≤ h.size := by rw [← ok.h_, ← eT]; exact X.same.2.1
  obtain ⟨T', locs2, X', hk, hl2, hc2, hM, hΦ, hst⟩ := st T vm0 locs X (ok.zv hS) (ok.ownv hS) eT (by rw [← eT, ← eZ]; exact bg.2.2.1) hsz
  rw [← eT] at hk hM
  refine Gd.step hst (K _ hΦ T' ⟨vm0, k0, locs ++ locs2, X', hS, Nat.le_trans hk0 hk.1, hnar, fun y hy => ?_, fun hc y hy => ?_, by rw [hcs]; exact hlt, rfl, by rw [eZ] at bg ⊢; exact bg.nextN (ok.zv hS) X X' hk hM⟩)
  · rcases List.mem_append.mp hy with q | q
    · exact hL y q
    · rw [ok.ws_, ok.h_]; exact hl2 y q
  · rcases List.mem_append.mp hy with q | q
    · exact hcl (hc2 hc).1 y q
    · rw [ok.h_]; exact (hc2 hc).2 y q
/-- a step that moves no cell -/
theorem W.still (ok : Ok B l Z nar own nm code ml ret R h0 ws fr Q Me)
    (st : ∀ (T : State) (vm0 : Vm) (locs : List Loc), Stand B.p B.l B.e B.R (B.s.setVm vm0) B.m B.args B.below B.meth B.c T locs k n → Z.Warmed39 (B.s.setVm vm0).vm → (B.s.setVm vm0).vm.findClass own = some B.m.cls → T.heap = h → Ext Z.heap h →
      ∃ (T' : State), Stand B.p B.l B.e B.R (B.s.setVm vm0) B.m B.args B.below B.meth B.c T' locs k n ∧ T'.heap = h ∧ ∀ t, Steps B.p.tables B.e B.below (T'.setTop (mkF B.m pc' L' S')) t → Steps B.p.tables B.e B.below (T.setTop (mkF B.m pc L S)) t)
    (K : W B h k n M cl pc' L' S') : W B h k n M cl pc L S := by
  refine W.heap (Φ := fun h' => h' = h) ok (fun T vm0 locs X hz ho eT hE hsz => ?_) rfl (fun h' e => e ▸ K)
  obtain ⟨T', X', e', hst⟩ := st T vm0 locs X hz ho eT hE
  exact ⟨T', [], by rw [List.append_nil]; exact X', by rw [e']; exact Kept.refl _ _, fun _ q => (nomatch q), fun q => ⟨q, fun _ q => (nomatch q)⟩, fun x q => Or.inl q, e', hst⟩
theorem W.getF (ok : Ok B l Z nar own nm code ml ret R h0 ws fr Q Me) {idx : Nat} {R0 O f d : String} {a : Addr} {v : Value} (w : (Cond.fieldLink own idx R0 f d).before a0 Z = true) (via : Via Z R0 O f d) (F : Fld Z h a O f d v)
    (hd : decode code pc = .ok (.getfield idx, 3)) (hp : pc + 3 = pc') (K : W B h k n M cl pc' L (v :: S)) : W B h k n M cl pc L (.ref a :: S) := by
  subst hp
  refine W.still ok (fun T vm0 locs X hz ho eT _ => ?_) K
  exact RoadKit.getF X ok.x hz ho (host := "") (Or.inl w) via eT F (g := mkF B.m pc L (.ref a :: S)) rfl rfl (hb ok.by_ hd)
theorem W.getS (ok : Ok B l Z nar own nm code ml ret R h0 ws fr Q Me) {idx : Nat} {R0 O f d : String} {v : Value} (w : (Cond.fieldLink own idx R0 f d).before a0 Z = true) (via : Via Z R0 O f d) (F : Sta Z Z.heap O f d v)
    (hd : decode code pc = .ok (.getstatic idx, 3)) (hp : pc + 3 = pc') (K : W B h k n M cl pc' L (v :: S)) : W B h k n M cl pc L S := by
  subst hp
  refine W.still ok (fun T vm0 locs X hz ho eT hE => ?_) K
  exact RoadKit.getS X ok.x hz ho (host := "") w via eT (F.ext hE) (g := mkF B.m pc L S) rfl (hb ok.by_ hd)
theorem W.cast (ok : Ok B l Z nar own nm code ml ret R h0 ws fr Q Me) {idx : Nat} {C : String} {a : Addr} (w : (Cond.classLink own idx C).before a0 Z = true) (F : Ins Z h a C true)
    (hd : decode code pc = .ok (.checkcast idx, 3)) (hp : pc + 3 = pc') (K : W B h k n M cl pc' L (.ref a :: S)) : W B h k n M cl pc L (.ref a :: S) := by
  subst hp
  refine W.still ok (fun T vm0 locs X hz ho eT hE => ?_) K
  exact castY X ok.x hz ho w eT F (g := mkF B.m pc L (.ref a :: S)) rfl rfl (hb ok.by_ hd)
theorem W.instY (ok : Ok B l Z nar own nm code ml ret R h0 ws fr Q Me) {idx : Nat} {C : String} {a : Addr} (w : (Cond.classLink own idx C).before a0 Z = true) (F : Ins Z h a C true)
    (hd : decode code pc = .ok (.instanceof idx, 3)) (hp : pc + 3 = pc') (K : W B h k n M cl pc' L (.int 1 :: S)) : W B h k n M cl pc L (.ref a :: S) := by
  subst hp
  refine W.still ok (fun T vm0 locs X hz ho eT hE => ?_) K
  exact RoadKit.instY X ok.x hz ho w eT F (g := mkF B.m pc L (.ref a :: S)) rfl rfl (hb ok.by_ hd)
theorem W.instNull (ok : Ok B l Z nar own nm code ml ret R h0 ws fr Q Me) {idx : Nat} (hd : decode code pc = .ok (.instanceof idx, 3)) (hp : pc + 3 = pc') (K : W B h k n M cl pc' L (.int 0 :: S)) : W B h k n M cl pc L (.null :: S) := by
  subst hp
  refine W.still ok (fun T vm0 locs X hz ho eT hE => ⟨T, X, eT, fun t q => ?_⟩) K
  exact X.instanceofNull ok.x (g := mkF B.m pc L (.null :: S)) rfl rfl (hb ok.by_ hd) t q
theorem W.arraylength (ok : Ok B l Z nar own nm code ml ret R h0 ws fr Q Me) {a : Addr} {c : Cell} {ty : FieldType} (A : Arr Z h a c ty) (v : Int32) (hv : c.slots.size.toInt32 = v)
    (hd : decode code pc = .ok (.arraylength, 1)) (hp : pc + 1 = pc') (K : W B h k n M cl pc' L (.int v :: S)) : W B h k n M cl pc L (.ref a :: S) := by
  subst hp; subst hv
  refine W.still ok (fun T vm0 locs X hz ho eT hE => ⟨T, X, eT, fun t q => ?_⟩) K
  exact X.arraylength ok.x (by rw [eT]; exact A.1) (State.isArrayOf_alike hz.alike A.2.1) (g := mkF B.m pc L (.ref a :: S)) rfl rfl (hb ok.by_ hd) t q
theorem W.lenI (ok : Ok B l Z nar own nm code ml ret R h0 ws fr Q Me) {a : Addr} {cs : List Int32} {ty : FieldType} (A : ArI Z h a ty cs) (v : Int32) (hv : cs.length.toInt32 = v)
    (hd : decode code pc = .ok (.arraylength, 1)) (hp : pc + 1 = pc') (K : W B h k n M cl pc' L (.int v :: S)) : W B h k n M cl pc L (.ref a :: S) := by
  obtain ⟨c, A, e, -⟩ := A
  exact W.arraylength ok A v (by rw [e]; simpa using hv) hd hp K
theorem inb {c : Cell} {cs : List Int32} {j x : Int32} (e : c.slots = (cs.map Value.int).toArray) (h0 : ¬ j < 0) (hx : cs[j.toNatClampNeg]? = some x) : ¬ (j < 0 ∨ c.slots.size ≤ j.toNatClampNeg) := by
  rintro (q | q)
  · exact h0 q
  · have := (List.getElem?_eq_some_iff.mp hx).1
    rw [e] at q; simp at q; omega
theorem inbL {c : Cell} {cs : List Int32} {j : Int32} (e : c.slots = (cs.map Value.int).toArray) (h0 : ¬ j < 0) (hl : j.toNatClampNeg < cs.length) : ¬ (j < 0 ∨ c.slots.size ≤ j.toNatClampNeg) := by
  rintro (q | q)
  · exact h0 q
  · rw [e] at q; simp at q; omega
theorem W.caload (ok : Ok B l Z nar own nm code ml ret R h0 ws fr Q Me) {a : Addr} {cs : List Int32} {j : Int32} (A : ArI Z h a .char cs) (x : Int32) (hj : ¬ j < 0) (hx : cs[j.toNatClampNeg]? = some x)
    (hd : decode code pc = .ok (.caload, 1)) (hp : pc + 1 = pc') (K : W B h k n M cl pc' L (.int x :: S)) : W B h k n M cl pc L (.int j :: .ref a :: S) := by
  subst hp
  obtain ⟨c, A, e, -⟩ := A
  refine W.still ok (fun T vm0 locs X hz ho eT hE => ⟨T, X, eT, fun t q => ?_⟩) K
  exact X.caload ok.x (j := j) (v := .int x) (by rw [eT]; exact A.1) (State.isArrayOf_alike hz.alike A.2.1) A.2.2 (inb e hj hx) (by rw [e]; simp [hx]) (g := mkF B.m pc L (.int j :: .ref a :: S)) rfl rfl (hb ok.by_ hd) t q
theorem W.baload (ok : Ok B l Z nar own nm code ml ret R h0 ws fr Q Me) {a : Addr} {cs : List Int32} {j : Int32} (A : ArI Z h a .byte cs) (x : Int32) (hj : ¬ j < 0) (hx : cs[j.toNatClampNeg]? = some x)
    (hd : decode code pc = .ok (.baload, 1)) (hp : pc + 1 = pc') (K : W B h k n M cl pc' L (.int x :: S)) : W B h k n M cl pc L (.int j :: .ref a :: S) := by
  subst hp
  obtain ⟨c, A, e, -⟩ := A
  refine W.still ok (fun T vm0 locs X hz ho eT hE => ⟨T, X, eT, fun t q => ?_⟩) K
  exact X.baloadBytes ok.x (j := j) (v := .int x) (by rw [eT]; exact A.1) (State.isArrayOf_alike hz.alike A.2.1) A.2.2 (inb e hj hx) (by rw [e]; simp [hx]) (g := mkF B.m pc L (.int j :: .ref a :: S)) rfl rfl (hb ok.by_ hd) t q
/-- 'new C': the fields at their first values by D -/
theorem W.new (ok : Ok B l Z nar own nm code ml ret R h0 ws fr Q Me) {idx sz : Nat} {C : String} (w : (Cond.classLink own idx C).before a0 Z = true) (wi : (Cond.instantiable C sz).before a0 Z = true) (wz : (Cond.initialized C).before a0 Z = true)
    (hd : decode code pc = .ok (.new idx, 3)) (hp : pc + 3 = pc') (hc : k + 1 ≤ R.cells) (hn : n + sz ≤ R.slots)
    (K : ∀ (a : Addr) (h' : Heap), h0.size ≤ a → h.size = a → Ext h h' → Exa Z h' a C → (∀ {O f d : String} {ty : FieldType}, Laid Z a0 C O f d → parseFieldDescriptor d = some ty → Fld Z h' a O f d (defaultValue ty)) → Unt h' a → W B h' (k + 1) (n + sz) (a :: M) cl pc' L (.ref a :: S)) : W B h k n M cl pc L S := by
  subst hp
  refine W.heap (Φ := fun h' => h0.size ≤ h.size ∧ Ext h h' ∧ Exa Z h' h.size C ∧ (∀ {O f d : String} {ty : FieldType}, Laid Z a0 C O f d → parseFieldDescriptor d = some ty → Fld Z h' h.size O f d (defaultValue ty)) ∧ Unt h' h.size) (k' := k + 1) (n' := n + sz) (M' := h.size :: M) (cl' := cl) (L' := L) (S' := .ref h.size :: S) ok (fun T vm0 locs X hz ho eT hE hsz => ?_) rfl (fun h' ⟨p0, p1, p2, p3, p4⟩ => K _ h' p0 rfl p1 p2 p3 p4)
  have eR := ok.R_
  subst eR
  obtain ⟨T', h', X', e', E', A', D', U', st⟩ := newO X ok.x hz ho w wi wz eT (g := mkF B.m pc L S) rfl (hb ok.by_ hd) hc hn
  subst e'
  exact ⟨T', [], by rw [List.append_nil]; exact X', Kept.ext E', fun _ q => (nomatch q), fun q => ⟨q, fun _ q => (nomatch q)⟩, fun x q => (List.mem_cons.mp q).elim (fun q => Or.inr ⟨Nat.le_of_eq q.symm, q ▸ A'.lt⟩) Or.inl, ⟨hsz, E', A', D', U'⟩, st⟩
theorem W.newarray (ok : Ok B l Z nar own nm code ml ret R h0 ws fr Q Me) {aty : ArrayType} (w : (Cond.arrayClass (newarray.typeOf aty)).before a0 Z = true) {z : Int32} {cap : Nat} (hz0 : ¬ z < 0) (hcap : z.toNatClampNeg ≤ cap) (hb8 : cap * 8 ≤ 536870912)
    (hd : decode code pc = .ok (.newarray aty, 2)) (hp : pc + 2 = pc') (hc : k + 1 ≤ R.cells) (hn : n + cap ≤ R.slots)
    (K : ∀ (a : Addr) (h' : Heap) (cA : ClassId), h0.size ≤ a → h.size = a → Ext h h' → Arr Z h' a (newA cA (newarray.typeOf aty) z) (newarray.typeOf aty) → W B h' (k + 1) (n + cap) (a :: M) cl pc' L (.ref a :: S)) : W B h k n M cl pc L (.int z :: S) := by
  subst hp
  refine W.heap (Φ := fun h' => h0.size ≤ h.size ∧ Ext h h' ∧ ∃ cA, Arr Z h' h.size (newA cA (newarray.typeOf aty) z) (newarray.typeOf aty)) (k' := k + 1) (n' := n + cap) (M' := h.size :: M) (cl' := cl) (L' := L) (S' := .ref h.size :: S) ok (fun T vm0 locs X hz ho eT hE hsz => ?_) rfl (fun h' ⟨p0, p1, cA, p2⟩ => K _ h' cA p0 rfl p1 p2)
  have eR := ok.R_
  subst eR
  obtain ⟨T', h', cA, X', e', E', A', st⟩ := newP X ok.x hz w eT (g := mkF B.m pc L (.int z :: S)) rfl (hb ok.by_ hd) rfl hz0 hcap hb8 hc hn
  subst e'
  exact ⟨T', [], by rw [List.append_nil]; exact X', Kept.ext E', fun _ q => (nomatch q), fun q => ⟨q, fun _ q => (nomatch q)⟩, fun x q => (List.mem_cons.mp q).elim (fun q => Or.inr ⟨Nat.le_of_eq q.symm, q ▸ A'.lt⟩) Or.inl, ⟨hsz, E', cA, A'⟩, st⟩
theorem W.newC (ok : Ok B l Z nar own nm code ml ret R h0 ws fr Q Me) (w : (Cond.arrayClass .char).before a0 Z = true) {z : Int32} {cap : Nat} (hz0 : ¬ z < 0) (hcap : z.toNatClampNeg ≤ cap) (hb8 : cap * 8 ≤ 536870912)
    (hd : decode code pc = .ok (.newarray .char, 2)) (hp : pc + 2 = pc') (hc : k + 1 ≤ R.cells) (hn : n + cap ≤ R.slots)
    (K : ∀ (a : Addr) (h' : Heap), h0.size ≤ a → h.size = a → Ext h h' → ArI Z h' a .char (List.replicate z.toNatClampNeg 0) → W B h' (k + 1) (n + cap) (a :: M) cl pc' L (.ref a :: S)) : W B h k n M cl pc L (.int z :: S) :=
  W.newarray ok (aty := .char) w hz0 hcap hb8 hd hp hc hn fun a h' cA p0 p1 p2 p3 => K a h' p0 p1 p2 (ArI.new p3 rfl rfl)
theorem W.newB (ok : Ok B l Z nar own nm code ml ret R h0 ws fr Q Me) (w : (Cond.arrayClass .byte).before a0 Z = true) {z : Int32} {cap : Nat} (hz0 : ¬ z < 0) (hcap : z.toNatClampNeg ≤ cap) (hb8 : cap * 8 ≤ 536870912)
    (hd : decode code pc = .ok (.newarray .byte, 2)) (hp : pc + 2 = pc') (hc : k + 1 ≤ R.cells) (hn : n + cap ≤ R.slots)
    (K : ∀ (a : Addr) (h' : Heap), h0.size ≤ a → h.size = a → Ext h h' → ArI Z h' a .byte (List.replicate z.toNatClampNeg 0) → W B h' (k + 1) (n + cap) (a :: M) cl pc' L (.ref a :: S)) : W B h k n M cl pc L (.int z :: S) :=
  W.newarray ok (aty := .byte) w hz0 hcap hb8 hd hp hc hn fun a h' cA p0 p1 p2 p3 => K a h' p0 p1 p2 (ArI.new p3 rfl rfl)
/-- a store into an array that is still to be written: hold: cl' says whether old cells are untouched behind it -/
theorem W.castore (ok : Ok B l Z nar own nm code ml ret R h0 ws fr Q Me) {a : Addr} {cs : List Int32} {j x : Int32} {cl' : Cl} (A : ArI Z h a .char cs) (hj : ¬ j < 0) (hl : j.toNatClampNeg < cs.length) (ha : a ∈ M) (hw : a ∈ ws ∨ h0.size ≤ a) (hcl : cl'.1 = true → cl.1 = true ∧ h0.size ≤ a) (hcs : cl'.2 = cl.2)
    (hd : decode code pc = .ok (.castore, 1)) (hp : pc + 1 = pc') (K : ∀ h' : Heap, Wr h h' a j.toNatClampNeg (.int (c16 x)) → ArI Z h' a .char (cs.set j.toNatClampNeg (c16 x)) → W B h' k n M cl' pc' L S) : W B h k n M cl pc L (.int x :: .int j :: .ref a :: S) := by
  subst hp
  refine W.heap (Φ := fun h' => Wr h h' a j.toNatClampNeg (.int (c16 x))) (k' := k) (n' := n) (M' := M) (cl' := cl') (L' := L) (S' := S) ok (fun T vm0 locs X hz ho eT hE hsz => ?_) hcs (fun h' q => K h' q (A.set q (fits_nar_char x)))
  obtain ⟨c, A1, e, r⟩ := A
  obtain ⟨T', h', X', e', W', st⟩ := stC X ok.x hz eT A1 (j := j) (x := x) (inbL e hj hl) (g := mkF B.m pc L (.int x :: .int j :: .ref a :: S)) rfl rfl (hb ok.by_ hd)
  subst e'
  exact ⟨T', _, X', Kept.wr W' ha, fun y hy => by cases List.mem_singleton.mp hy; exact hw, fun q => ⟨(hcl q).1, fun y hy => by cases List.mem_singleton.mp hy; exact (hcl q).2⟩, fun x q => Or.inl q, W', st⟩
theorem W.bastore (ok : Ok B l Z nar own nm code ml ret R h0 ws fr Q Me) {a : Addr} {cs : List Int32} {j x : Int32} {cl' : Cl} (A : ArI Z h a .byte cs) (hj : ¬ j < 0) (hl : j.toNatClampNeg < cs.length) (ha : a ∈ M) (hw : a ∈ ws ∨ h0.size ≤ a) (hcl : cl'.1 = true → cl.1 = true ∧ h0.size ≤ a) (hcs : cl'.2 = cl.2)
    (hd : decode code pc = .ok (.bastore, 1)) (hp : pc + 1 = pc') (K : ∀ h' : Heap, Wr h h' a j.toNatClampNeg (.int (b8 x)) → ArI Z h' a .byte (cs.set j.toNatClampNeg (b8 x)) → W B h' k n M cl' pc' L S) : W B h k n M cl pc L (.int x :: .int j :: .ref a :: S) := by
  subst hp
  refine W.heap (Φ := fun h' => Wr h h' a j.toNatClampNeg (.int (b8 x))) (k' := k) (n' := n) (M' := M) (cl' := cl') (L' := L) (S' := S) ok (fun T vm0 locs X hz ho eT hE hsz => ?_) hcs (fun h' q => K h' q (A.set q (fits_nar_byte x)))
  obtain ⟨c, A1, e, r⟩ := A
  obtain ⟨T', h', X', e', W', st⟩ := stB X ok.x hz eT A1 (j := j) (x := x) (inbL e hj hl) (g := mkF B.m pc L (.int x :: .int j :: .ref a :: S)) rfl rfl (hb ok.by_ hd)
  subst e'
  exact ⟨T', _, X', Kept.wr W' ha, fun y hy => by cases List.mem_singleton.mp hy; exact hw, fun q => ⟨(hcl q).1, fun y hy => by cases List.mem_singleton.mp hy; exact (hcl q).2⟩, fun x q => Or.inl q, W', st⟩
theorem W.putF (ok : Ok B l Z nar own nm code ml ret R h0 ws fr Q Me) {idx kk : Nat} {R0 O f d C : String} {ty : FieldType} {a : Addr} {v v0 : Value} {cl' : Cl} (w : (Cond.fieldLink own idx R0 f d).before a0 Z = true) (via : Via Z R0 O f d) (F : Fld Z h a O f d v0) (E : Exa Z h a C)
    (La : (Cond.lays C O f d).before a0 Z = true ∨ ((Cond.laysFinal C O f d).before a0 Z = true ∧ own = O ∧ nm = "<init>")) (wi : (Cond.instantiable C kk).before a0 Z = true) (hty : parseFieldDescriptor d = some ty) (hnr : narrow ty v = v) (hf : fits ty v = true)
    (ha : a ∈ M) (hw : a ∈ ws ∨ h0.size ≤ a) (hcl : cl'.1 = true → cl.1 = true ∧ h0.size ≤ a) (hcs : cl'.2 = cl.2)
    (hd : decode code pc = .ok (.putfield idx, 3)) (hp : pc + 3 = pc') (K : ∀ h' : Heap, Wr h h' a (RoadKit.slotOf Z O f d) v → W B h' k n M cl' pc' L S) : W B h k n M cl pc L (v :: .ref a :: S) := by
  subst hp
  refine W.heap (Φ := fun h' => Wr h h' a (RoadKit.slotOf Z O f d) v) (k' := k) (n' := n) (M' := M) (cl' := cl') (L' := L) (S' := S) ok (fun T vm0 locs X hz ho eT hE hsz => ?_) hcs (fun h' q => K h' q)
  obtain ⟨T', h', X', e', W', st⟩ := RoadKit.putF X ok.x hz ho (host := "") (Or.inl w) via eT F E (La.imp id fun q => ⟨q.1, q.2.1, ok.nm_.trans q.2.2⟩) wi hty hnr hf (g := mkF B.m pc L (v :: .ref a :: S)) rfl rfl (hb ok.by_ hd)
  subst e'
  exact ⟨T', _, X', Kept.wr W' ha, fun y hy => by cases List.mem_singleton.mp hy; exact hw, fun q => ⟨(hcl q).1, fun y hy => by cases List.mem_singleton.mp hy; exact (hcl q).2⟩, fun x q => Or.inl q, W', st⟩
theorem W.initO (ok : Ok B l Z nar own nm code ml ret R h0 ws fr Q Me) {idx : Nat} {a : Addr} (w1 : (Cond.methodLink own idx Lib.objectInit).before a0 Z = true) (w2 : (Cond.instanceMethod Lib.objectInit).before a0 Z = true) (w3 : (Cond.code Lib.objectInit ⟨#[0xb1]⟩ 1 none).before a0 Z = true)
    (hL : L.size = ml) (hfr : 1 ≤ R.frames) (hlo : (S.map fun v => v.category).sum + 12 ≤ R.locals) (hd : decode code pc = .ok (.invokespecial idx, 3)) (hp : pc + 3 = pc') (K : W B h k n M cl pc' L S) : W B h k n M cl pc L (.ref a :: S) := by
  subst hp
  refine W.still ok (fun T vm0 locs X hz ho eT hE => ?_) K
  have eR := ok.R_
  subst eR
  exact RoadKit.initO X ok.x hz ho w1 w2 w3 eT (g := mkF B.m pc L (.ref a :: S)) rfl (by rw [ok.ml_]; exact hL) rfl (hb ok.by_ hd) hfr (W := (S.map fun v => v.category).sum) (by show 2 * 0 + _ ≤ _; omega) hlo
theorem W.ldcI (ok : Ok B l Z nar own nm code ml ret R h0 ws fr Q Me) {idx : Nat} {v : Int32} (w : (Cond.constant own idx v).before a0 Z = true) (hd : decode code pc = .ok (.ldc idx, 2)) (hp : pc + 2 = pc') (K : W B h k n M cl pc' L (.int v :: S)) : W B h k n M cl pc L S := by
  subst hp
  refine W.still ok (fun T vm0 locs X hz ho eT hE => ⟨T, X, eT, fun t q => ?_⟩) K
  exact X.ldcI ok.x ho (mv hz w) (g := mkF B.m pc L S) rfl (hb ok.by_ hd) q
theorem W.ldc2J (ok : Ok B l Z nar own nm code ml ret R h0 ws fr Q Me) {idx : Nat} {v : Int64} (w : (Cond.constantLong own idx v).before a0 Z = true) (hd : decode code pc = .ok (.ldc2_w idx, 3)) (hp : pc + 3 = pc') (K : W B h k n M cl pc' L (.long v :: S)) : W B h k n M cl pc L S := by
  subst hp
  refine W.still ok (fun T vm0 locs X hz ho eT hE => ⟨T, X, eT, fun t q => ?_⟩) K
  exact X.ldc2J ok.x ho (mv hz w) (g := mkF B.m pc L S) rfl (hb ok.by_ hd) q
/-! ### the end -/
theorem keep_of {p : Program} {l : Launch} {e : Env} {R : Room} {s : State} {m : MethodId} {args : Array Value} {below : List Frame} {meth : Method} {c : Code} {T : State} {locs : List Loc} {k n : Nat} {ws : List Addr}
    (X : Stand p l e R s m args below meth c T locs k n) (hL : ∀ y ∈ locs, y.base ∈ ws ∨ s.heap.size ≤ y.base) : Keep s.heap T.heap ws := by
  refine ⟨X.same.2.1, fun b c hb hn => ?_, fun b c hb => ?_⟩
  · obtain ⟨c', h1, h2, -, h4⟩ := X.same.2.2.2.2.2 b c hb
    have hlt := (Array.getElem?_eq_some_iff.mp hb).1
    have hsl : c'.slots = c.slots := Array.ext_getElem? fun i => h4 i fun hm => (hL _ hm).elim hn fun q => absurd hlt (Nat.not_lt.mpr q)
    have hcc : c' = c := by rw [h2, hsl]
    rw [← hcc]; exact h1
  · obtain ⟨c', h1, h2, h3, -⟩ := X.same.2.2.2.2.2 b c hb
    exact ⟨c', h1, by rw [h2], by rw [h2], h3⟩
theorem W.end_ (ok : Ok B l Z nar own nm code ml ret R h0 ws fr Q Me) {v : Option Value} (hv : ret = none → v = none) (hk : k ≤ R.cells) (hn : n ≤ R.slots) {N : List Addr} (hM : ∀ x ∈ N ++ Me, x ∈ M) (hQ : Keep h0 h ws → Q N v h)
    (st : ∀ (T : State) (vm0 : Vm) (locs : List Loc) (fs : List Frame), Stand B.p B.l B.e B.R (B.s.setVm vm0) B.m B.args B.below B.meth B.c T locs k n → (∀ (f : JFrame) (acts : List Action), f.method = B.m → f.locked = none → f.entered = [] → (doReturn B.e (T.setTop f) acts v).1 = T.setFrames fs) → Steps B.p.tables B.e B.below (T.setTop (mkF B.m pc L S)) (T.setFrames fs)) : W B h k n M cl pc L S := by
  intro T P
  obtain ⟨vm0, k0, locs, X, hS, hk0, hnar, hL, hcl, hlt, eT, bg⟩ := P
  obtain ⟨fs, hr, hrun, hend, hW⟩ := X.leaveW hS hk0 (v := v) (fun q => hv (ok.ret_ ▸ q)) ok.lk
  have kp : Keep B.s.heap T.heap B.ws := keep_of (s := B.s.setVm vm0) X hL
  refine ⟨_, _, st T vm0 locs fs X hr, hrun, hend, v, locs, N, rfl, ?_, kp, ?_, hL, ⟨hW.1, hW.2.1, hW.2.2.1, hW.2.2.2.mono (by rw [ok.R_]; exact hk) (by rw [ok.R_]; exact hn)⟩, fun q => ?_⟩
  · rw [ok.Q_]
    show Q N v T.heap
    rw [eT]
    rw [ok.h_, ok.ws_, eT] at kp
    exact hQ kp
  · rw [ok.Me_]
    exact (bg.shrink hM).move (U' := T.setFrames fs) bg.1 rfl (Kept.refl _ _)
  · exact State.WarmedH.trans (t := B.s.setVm vm0) (hnar q) X.warmed
theorem W.retW (ok : Ok B l Z nar own nm code ml ret R h0 ws fr Q Me) {w : Value} {t : FieldType} {i : Instr} (hret : ret = some t) (hd : decode code pc = .ok (i, 1)) (hnw : narrow t w = w)
    (hi : (i = .ireturn ∧ (t = .int ∨ t = .boolean ∨ t = .byte ∨ t = .char ∨ t = .short) ∧ ∃ z, w = .int z) ∨ (i = .lreturn ∧ t = .long ∧ ∃ z, w = .long z) ∨ (i = .dreturn ∧ t = .double ∧ ∃ z, w = .double z) ∨ (i = .freturn ∧ t = .float ∧ ∃ z, w = .float z) ∨ (i = .areturn ∧ t.isReference = true ∧ w.isRef = true))
    (hk : k ≤ R.cells) (hn : n ≤ R.slots) {N : List Addr} (hM : ∀ x ∈ N ++ Me, x ∈ M) (hQ : Keep h0 h ws → Q N (some w) h) : W B h k n M cl pc L (w :: S) :=
  W.end_ ok (fun q => by rw [hret] at q; cases q) hk hn hM hQ fun T vm0 locs fs X hr => retOut X ok.x (ok.ret_.trans hret) hnw hi (hb ok.by_ hd) hr
theorem W.retI {Q0 : Option Value → Heap → Prop} (ok : Ok B l Z nar own nm code ml (some .int) R h0 ws fr (OldQ fr Q0) Me) {z : Int32} (hd : decode code pc = .ok (.ireturn, 1)) (hk : k ≤ R.cells) (hn : n ≤ R.slots) (hM : ∀ x ∈ Me, x ∈ M) (hQ : Keep h0 h ws → Q0 (some (.int z)) h) : W B h k n M cl pc L (.int z :: S) :=
  W.retW ok rfl hd rfl (Or.inl ⟨rfl, Or.inl rfl, z, rfl⟩) hk hn (N := refs fr _) (by cases fr <;> exact hM) (fun q => ⟨rfl, hQ q⟩)
theorem W.retZ {Q0 : Option Value → Heap → Prop} (ok : Ok B l Z nar own nm code ml (some .boolean) R h0 ws fr (OldQ fr Q0) Me) {z : Int32} (hd : decode code pc = .ok (.ireturn, 1)) (hz : z &&& 1 = z) (hk : k ≤ R.cells) (hn : n ≤ R.slots) (hM : ∀ x ∈ Me, x ∈ M) (hQ : Keep h0 h ws → Q0 (some (.int z)) h) : W B h k n M cl pc L (.int z :: S) :=
  W.retW ok rfl hd (by show Value.int (z &&& 1) = _; rw [hz]) (Or.inl ⟨rfl, Or.inr (Or.inl rfl), z, rfl⟩) hk hn (N := refs fr _) (by cases fr <;> exact hM) (fun q => ⟨rfl, hQ q⟩)
theorem W.retB {Q0 : Option Value → Heap → Prop} (ok : Ok B l Z nar own nm code ml (some .byte) R h0 ws fr (OldQ fr Q0) Me) {z : Int32} (hd : decode code pc = .ok (.ireturn, 1)) (hz : b8 z = z) (hk : k ≤ R.cells) (hn : n ≤ R.slots) (hM : ∀ x ∈ Me, x ∈ M) (hQ : Keep h0 h ws → Q0 (some (.int z)) h) : W B h k n M cl pc L (.int z :: S) :=
  W.retW ok rfl hd (by show Value.int (b8 z) = _; rw [hz]) (Or.inl ⟨rfl, Or.inr (Or.inr (Or.inl rfl)), z, rfl⟩) hk hn (N := refs fr _) (by cases fr <;> exact hM) (fun q => ⟨rfl, hQ q⟩)
theorem W.retC {Q0 : Option Value → Heap → Prop} (ok : Ok B l Z nar own nm code ml (some .char) R h0 ws fr (OldQ fr Q0) Me) {z : Int32} (hd : decode code pc = .ok (.ireturn, 1)) (hz : c16 z = z) (hk : k ≤ R.cells) (hn : n ≤ R.slots) (hM : ∀ x ∈ Me, x ∈ M) (hQ : Keep h0 h ws → Q0 (some (.int z)) h) : W B h k n M cl pc L (.int z :: S) :=
  W.retW ok rfl hd (by show Value.int (c16 z) = _; rw [hz]) (Or.inl ⟨rfl, Or.inr (Or.inr (Or.inr (Or.inl rfl))), z, rfl⟩) hk hn (N := refs fr _) (by cases fr <;> exact hM) (fun q => ⟨rfl, hQ q⟩)
theorem W.retA {Q0 : Option Value → Heap → Prop} {t : FieldType} (ok : Ok B l Z nar own nm code ml (some t) R h0 ws fr (OldQ fr Q0) Me) {w : Value} (hd : decode code pc = .ok (.areturn, 1)) (ht : t.isReference = true) (hw : w.isRef = true) (hk : k ≤ R.cells) (hn : n ≤ R.slots) (hM : ∀ x ∈ refs fr (some w) ++ Me, x ∈ M) (hQ : Keep h0 h ws → Q0 (some w) h) : W B h k n M cl pc L (w :: S) :=
  W.retW ok rfl hd (by cases w <;> simp [Value.isRef] at hw <;> cases t <;> simp [FieldType.isReference] at ht <;> rfl) (Or.inr (Or.inr (Or.inr (Or.inr ⟨rfl, ht, hw⟩)))) hk hn (N := refs fr _) hM (fun q => ⟨rfl, hQ q⟩)
theorem W.retV {Q0 : Option Value → Heap → Prop} (ok : Ok B l Z nar own nm code ml none R h0 ws fr (OldQ fr Q0) Me) (hd : decode code pc = .ok (.return_, 1)) (hk : k ≤ R.cells) (hn : n ≤ R.slots) (hM : ∀ x ∈ Me, x ∈ M) (hQ : Keep h0 h ws → Q0 none h) : W B h k n M cl pc L [] :=
  W.end_ ok (fun _ => rfl) hk hn (N := refs fr _) (by cases fr <;> exact hM) (fun q => ⟨rfl, hQ q⟩) fun T vm0 locs fs X hr => X.returnOut ok.x ok.ret_ (hb ok.by_ hd) hr
/-- the wide ends: N, what is made and may still be written -/
theorem W.retAN {t : FieldType} (ok : Ok B l Z nar own nm code ml (some t) R h0 ws fr Q Me) {w : Value} (N : List Addr) (hd : decode code pc = .ok (.areturn, 1)) (ht : t.isReference = true) (hw : w.isRef = true) (hk : k ≤ R.cells) (hn : n ≤ R.slots) (hM : ∀ x ∈ N ++ Me, x ∈ M) (hQ : Keep h0 h ws → Q N (some w) h) : W B h k n M cl pc L (w :: S) :=
  W.retW ok rfl hd (by cases w <;> simp [Value.isRef] at hw <;> cases t <;> simp [FieldType.isReference] at ht <;> rfl) (Or.inr (Or.inr (Or.inr (Or.inr ⟨rfl, ht, hw⟩)))) hk hn hM hQ
theorem W.retVN (ok : Ok B l Z nar own nm code ml none R h0 ws fr Q Me) (N : List Addr) (hd : decode code pc = .ok (.return_, 1)) (hk : k ≤ R.cells) (hn : n ≤ R.slots) (hM : ∀ x ∈ N ++ Me, x ∈ M) (hQ : Keep h0 h ws → Q N none h) : W B h k n M cl pc L [] :=
  W.end_ ok (fun _ => rfl) hk hn hM hQ fun T vm0 locs fs X hr => X.returnOut ok.x ok.ret_ (hb ok.by_ hd) hr
end Heap
end Jvm.Pilot.@@N@@.Wk
namespace Jvm.Pilot.@@N@@.Wk
open Jvm Jvm.ClassFile Sem Op Lib Jvm.Free Jvm.Stand Jvm.LawKit Jvm.RoadKit Bundle
/-! ### a method's contract, and how a call spends it -/
def Con2 (l : Launch) (Z : State) (nar : Bool) (y : MethodName) (bytes : ByteArray) (maxL : Nat) (ret : Option FieldType) (rm : Room) (as' : List Value) (h : Heap) (ws : List Addr) (Q : List Addr → List Addr → Option Value → Heap → Prop) : Prop :=
  ∀ (ws0 : List Jvm.Cond) (M : List Addr), (∀ w ∈ ws, w ∈ M) → MetFree l y (head1 (Jvm.Cond.code y bytes maxL ret :: ws0) rm) (fun a U => a = as'.toArray ∧ U.heap = h ∧ Bg Z M U) (fun _ _ _ _ _ => True)
    (fun _ U o U' => ∃ v Lc N, o = .returned v ∧ Q M N v U'.heap ∧ Keep h U'.heap ws ∧ Bg Z (N ++ M) U' ∧ (∀ y ∈ Lc, y.base ∈ ws ∨ h.size ≤ y.base) ∧ ReturnedEndW U o U' Lc rm.cells rm.slots ∧ (nar = true → U.WarmedH U'.vm))
/-- a plain contract -/
def Con (l : Launch) (Z : State) (nar : Bool) (y : MethodName) (bytes : ByteArray) (maxL : Nat) (ret : Option FieldType) (rm : Room) (as' : List Value) (h : Heap) (ws : List Addr) (fr : Bool) (Q : List Addr → Option Value → Heap → Prop) : Prop := Con2 l Z nar y bytes maxL ret rm as' h ws (fun M => OldQ fr (Q M))
theorem ef_of {m : MethodId} {as' : List Value} {n : Nat} {Ls : Array Slot} (h : Jvm.Sym.laidSlots as' ++ List.replicate (n - (Jvm.Sym.laidSlots as').length) .unset = Ls.toList) : entryFrame m as'.toArray n = mkF m 0 Ls [] := by
  have e : argsToLocals as'.toArray n = Ls := Array.toList_inj.mp (by rw [Jvm.Sym.argsToLocals_toList]; exact h)
  exact (rfl : entryFrame m as'.toArray n = mkF m 0 (argsToLocals as'.toArray n) []).trans (congrArg (fun L => mkF m 0 L []) e)
theorem Con2.intro {l : Launch} {Z : State} {nar : Bool} {y : MethodName} {bytes : ByteArray} {maxL : Nat} {ret : Option FieldType} {rm : Room} {as' : List Value} {h : Heap} {ws : List Addr} {Q : List Addr → List Addr → Option Value → Heap → Prop} {L0 : Array Slot}
    (hpl : plainFor y = true) (hef : ∀ m, entryFrame m as'.toArray maxL = mkF m 0 L0 []) (body : ∀ (B : Cx) (M : List Addr), (∀ w ∈ ws, w ∈ M) → Ok B l Z nar y.cls y.name bytes maxL ret rm h ws false (Q M) M → W B h 0 0 M (true, []) 0 L0 []) : Con2 l Z nar y bytes maxL ret rm as' h ws Q := by
  intro ws0 M hM
  refine MetFree.of_bodySF hpl hisR ?_
  intro p e s m args below meth c s₁ Bd hml hP hK
  obtain ⟨rfl, hh, bg⟩ := hP
  have X : Stand p l e rm s m as'.toArray below meth c s₁ [] 0 0 := Stand.of_body Bd
  obtain ⟨t, o, g1, g2, g3, v, Lc, N, g4, g5, g6, g7, g8, g9, g10⟩ := body (p, l, e, rm, s, m, as'.toArray, below, meth, c, Z, nar, ws, M, false, Q M) M hM
    ⟨Bd.exec, Bd.bytes, hml, findClass_of_methodNamed Bd.named, (name_of_methodNamed Bd.named Bd.method).1, Bd.returns, Bd.notSynchronized, bg.1, rfl, rfl, rfl, rfl, rfl, rfl, rfl, rfl, hh⟩ s₁
    ⟨s.vm, s.heap.size, [], by rw [State.setVm_self]; exact X, (State.WarmedH.refl s).since _, by rw [Bd.state]; exact Nat.le_refl _, fun _ => State.WarmedH.refl s, fun _ q => (nomatch q), fun _ _ q => (nomatch q), fun _ q => (nomatch q), by rw [Bd.state]; exact hh, by rw [Bd.state]; exact bg.move bg.1 rfl (Kept.refl _ _)⟩
  refine ⟨t, o, by rw [hef]; exact g1, g2, g3, v, Lc, N, g4, g5, ?_, g7, ?_, g9, g10⟩
  · rw [← hh]; exact g6
  · rw [← hh]; exact g8
theorem Con.intro {l : Launch} {Z : State} {nar : Bool} {y : MethodName} {bytes : ByteArray} {maxL : Nat} {ret : Option FieldType} {rm : Room} {as' : List Value} {h : Heap} {ws : List Addr} {fr : Bool} {Q : List Addr → Option Value → Heap → Prop} {L0 : Array Slot}
    (hpl : plainFor y = true) (hef : ∀ m, entryFrame m as'.toArray maxL = mkF m 0 L0 []) (body : ∀ (B : Cx) (M : List Addr), (∀ w ∈ ws, w ∈ M) → Ok B l Z nar y.cls y.name bytes maxL ret rm h ws fr (OldQ fr (Q M)) M → W B h 0 0 M (true, []) 0 L0 []) : Con l Z nar y bytes maxL ret rm as' h ws fr Q :=
  Con2.intro hpl hef fun B M hM ok => body (B.1, B.2.1, B.2.2.1, B.2.2.2.1, B.2.2.2.2.1, B.2.2.2.2.2.1, B.2.2.2.2.2.2.1, B.2.2.2.2.2.2.2.1, B.2.2.2.2.2.2.2.2.1, B.2.2.2.2.2.2.2.2.2.1, B.2.2.2.2.2.2.2.2.2.2.1, B.2.2.2.2.2.2.2.2.2.2.2.1, B.2.2.2.2.2.2.2.2.2.2.2.2.1, B.2.2.2.2.2.2.2.2.2.2.2.2.2.1, fr, B.2.2.2.2.2.2.2.2.2.2.2.2.2.2.2) M hM ⟨ok.1, ok.2.1, ok.2.2.1, ok.2.2.2.1, ok.2.2.2.2.1, ok.2.2.2.2.2.1, ok.2.2.2.2.2.2.1, ok.2.2.2.2.2.2.2.1, ok.2.2.2.2.2.2.2.2.1, ok.2.2.2.2.2.2.2.2.2.1, ok.2.2.2.2.2.2.2.2.2.2.1, ok.2.2.2.2.2.2.2.2.2.2.2.1, ok.2.2.2.2.2.2.2.2.2.2.2.2.1, ok.2.2.2.2.2.2.2.2.2.2.2.2.2.1, rfl, ok.2.2.2.2.2.2.2.2.2.2.2.2.2.2.2.1, ok.2.2.2.2.2.2.2.2.2.2.2.2.2.2.2.2⟩
theorem Con2.back {l : Launch} {Z : State} {nar : Bool} {y : MethodName} {bytes : ByteArray} {maxL : Nat} {ret : Option FieldType} {rm : Room} {as' : List Value} {h : Heap} {ws : List Addr} {Q : List Addr → List Addr → Option Value → Heap → Prop} {M : List Addr} {a0 : Array Value}
    (C : Con2 l Z nar y bytes maxL ret rm as' h ws Q) (hM : ∀ w ∈ ws, w ∈ M) {p : Program} {e : Env} {below : List Frame} {s : State} {args : Array Value} {R : Room} {len Wd : Nat} (hZ : Z.Warmed39 s.vm)
    (wc : (Jvm.Cond.code y bytes maxL ret).before a0 Z = true) (wz : (Jvm.Cond.initialized y.cls).before a0 Z = true) (hf : rm.frames + 1 ≤ R.frames) (hl : Wd + (maxL + 11) + rm.locals ≤ R.locals) :
    BackS l R p e below s args y len Wd (fun A a => a = as'.toArray ∧ A.U.heap = h ∧ Bg Z M A.U ∧ A.cells + rm.cells ≤ R.cells ∧ A.slots + rm.slots ≤ R.slots)
      (fun A _ v B => ∃ Lc N, Q M N v B.U.heap ∧ Keep h B.U.heap ws ∧ Bg Z (N ++ M) B.U ∧ (∀ y ∈ Lc, y.base ∈ ws ∨ h.size ≤ y.base) ∧ B.locs = A.locs ++ Lc ∧ B.cells = A.cells + rm.cells ∧ B.slots = A.slots + rm.slots ∧ (nar = true → A.U.WarmedH B.U.vm)) :=
  BackS.of_freeW (bytes := bytes) (maxL := maxL) (ret := ret) (E := fun _ U o t Lc k n => k = rm.cells ∧ n = rm.slots ∧ ∃ v N, o = .returned v ∧ Q M N v t.heap ∧ Keep h t.heap ws ∧ Bg Z (N ++ M) t ∧ (∀ y ∈ Lc, y.base ∈ ws ∨ h.size ≤ y.base) ∧ (nar = true → U.WarmedH t.vm)) (C [] M hM) hf hl
    (fun m meth c A a Y hp => have hU : Z.Warmed39 A.U.vm := wtrans hZ Y.warmed
      ⟨by show (Jvm.Cond.and _ .tt).before a A.U = true; rw [Cond.before_and, mv hU wc]; rfl, mv hU wc, mv hU wz, hp.2.2.2.1, hp.2.2.2.2⟩)
    (fun m meth c A a g mk Y hp => ⟨hp.1, hp.2.1, hp.2.2.1.move (U' := A.U.calling g mk a) hp.2.2.1.1 rfl (Kept.refl _ _)⟩) (fun _ _ _ _ _ _ _ _ _ => trivial)
    (fun _ _ _ _ ⟨v, Lc, N, h1, h2, h3, h4, h5, h6, h7⟩ => ⟨Lc, _, _, h6, rfl, rfl, v, N, h1, h2, h3, h4, h5, h7⟩)
    (fun m meth c A a g mk v t Lc k n Y hp _ _ ⟨e1, e2, v', N, e3, e4, e5, e6, e7, e8⟩ => by
      cases e3; subst e1 e2
      exact ⟨Lc, N, e4, e5, e6.move (U' := ({ A.U with heap := t.heap, slotsUsed := t.slotsUsed } : State).setVm t.vm) e6.1 rfl (Kept.refl _ _), e7, rfl, rfl, rfl, e8⟩)
section Calls
variable {B : Cx} {l : Launch} {Z : State} {nar : Bool} {own nm : String} {code : ByteArray} {ml : Nat} {ret : Option FieldType} {R : Room} {h0 : Heap} {ws : List Addr} {fr : Bool} {Q : List Addr → Option Value → Heap → Prop} {Me : List Addr}
variable {h : Heap} {k n : Nat} {M : List Addr} {cl : Cl} {pc pc' : Nat} {L : Array Slot} {S : List Value} {a0 : Array Value}
variable {idx : Nat} {y : MethodName} {bytes : ByteArray} {maxL : Nat} {ret' : Option FieldType} {rm' : Room} {as' rest : List Value} {ws' : List Addr} {Q' : List Addr → List Addr → Option Value → Heap → Prop} {ps : List FieldType} {r : Option FieldType} {cl' : Cl}
theorem W.call {len : Nat} (ok : Ok B l Z nar own nm code ml ret R h0 ws fr Q Me) (wc : (Jvm.Cond.code y bytes maxL ret').before a0 Z = true) (wz : (Jvm.Cond.initialized y.cls).before a0 Z = true) (C : Con2 l Z nar y bytes maxL ret' rm' as' h ws' Q')
    (hws : ∀ w ∈ ws', w ∈ M ∧ (w ∈ ws ∨ h0.size ≤ w)) (hcl : cl'.1 = true → cl.1 = true ∧ ∀ w ∈ ws', h0.size ≤ w) (hcs : cl'.2 = cl.2) (hf : rm'.frames + 1 ≤ R.frames) (hlo : (rest.map fun v => v.category).sum + (maxL + 11) + rm'.locals ≤ R.locals) (hcc : k + rm'.cells ≤ R.cells) (hnn : n + rm'.slots ≤ R.slots)
    (core : ∀ (T : State) (vm0 : Vm) (locs : List Loc), Stand B.p B.l B.e B.R (B.s.setVm vm0) B.m B.args B.below B.meth B.c T locs k n → Z.Warmed39 (B.s.setVm vm0).vm → (B.s.setVm vm0).vm.findClass own = some B.m.cls → T.heap = h →
      ∀ {Pre : Pt → Array Value → Prop} {Post : Pt → Array Value → Option Value → Pt → Prop}, BackS B.l B.R B.p B.e B.below (B.s.setVm vm0) B.args y len (rest.map fun v => v.category).sum Pre Post → (∀ vm₁, (B.s.setVm vm0).WarmedH vm₁ → Pre ⟨T.setVm vm₁, locs, k, n⟩ as'.toArray) →
      ∃ (v : Option Value) (vm₁ : Vm) (A : Pt), (B.s.setVm vm0).WarmedH vm₁ ∧ Stand B.p B.l B.e B.R ((B.s.setVm vm0).setVm A.U.vm) B.m B.args B.below B.meth B.c A.U A.locs A.cells A.slots ∧ (B.s.setVm vm0).Since A.U.vm A.U.heap.size ∧ T.heap.size ≤ A.U.heap.size ∧ Post ⟨T.setVm vm₁, locs, k, n⟩ as'.toArray v A ∧
        Steps B.p.tables B.e B.below (T.setTop (mkF B.m pc L S)) (A.U.setTop (mkF B.m pc' L (v.toList ++ rest))))
    (K : ∀ (N : List Addr) (v : Option Value) (h' : Heap), Q' M N v h' → Keep h h' ws' → W B h' (k + rm'.cells) (n + rm'.slots) (N ++ M) cl' pc' L (v.toList ++ rest)) : W B h k n M cl pc L S := by
  intro T P
  obtain ⟨vm0, k0, locs, X, hS, hk0, hnar, hL, hc, hlt, eT, bg⟩ := P
  have eZ := ok.Z_
  subst eZ
  have eR := ok.R_
  subst eR
  have el := ok.l_
  subst el
  have hsz : h0.size ≤ h.size := by rw [← ok.h_, ← eT]; exact X.same.2.1
  have hz := ok.zv hS
  have hK := C.back (M := M) (p := B.p) (e := B.e) (below := B.below) (s := B.s.setVm vm0) (args := B.args) (len := len) (fun w hw => (hws w hw).1) hz wc wz hf hlo
  obtain ⟨v, vm1, ⟨T', L', k', n'⟩, hw1, X', hS', hgr, ⟨Lc, N, q1, q2, q3, q4, q5, q6, q7, q8⟩, st⟩ := core T vm0 locs X hz (ok.ownv hS) eT
    hK (fun vm1 hw => ⟨rfl, eT, bg.move (U' := T.setVm vm1) (wtrans hz hw) (hw.interned_eq.trans X.warmed.interned_eq.symm) (Kept.refl _ _), hcc, hnn⟩)
  dsimp only [Pt.U, Pt.locs, Pt.cells, Pt.slots] at X' hS' hgr q1 q2 q3 q4 q5 q6 q7 q8 st
  subst q5 q6 q7
  obtain ⟨hS2, hZ2⟩ : B.s.Since T'.vm T'.heap.size ∧ True := ⟨hS.trans hS' (Nat.le_trans hk0 hgr), trivial⟩
  refine Gd.step (fun t q => st.trans q) (K N v T'.heap q1 q2 T' ⟨T'.vm, T'.heap.size, locs ++ Lc, X', hS2, Nat.le_refl _, fun q => ?_, fun x hx => ?_, fun q x hx => ?_, fun e he => ?_, rfl, q3⟩)
  · exact State.WarmedH.trans (t := T.setVm vm1) (State.WarmedH.trans (t := B.s.setVm vm0) (hnar q) hw1) (q8 (ok.nar_ ▸ q))
  · rcases List.mem_append.mp hx with z | z
    · exact hL x z
    · rw [ok.ws_, ok.h_]
      rcases q4 x z with u | u
      · exact (hws _ u).2
      · exact Or.inr (Nat.le_trans hsz u)
  · rcases List.mem_append.mp hx with z | z
    · exact hc (hcl q).1 x z
    · rw [ok.h_]
      rcases q4 x z with u | u
      · exact (hcl q).2 _ u
      · exact Nat.le_trans hsz u
  · rw [hcs] at he
    obtain ⟨a, ha⟩ := hlt e he
    exact ⟨a, Lit.stays ha hS'.1⟩
abbrev notMH (s : String) : Prop := s ≠ "java/lang/invoke/MethodHandle" ∧ s ≠ "java/lang/invoke/VarHandle"
theorem W.callS (ok : Ok B l Z nar own nm code ml ret R h0 ws fr Q Me) (w1 : (Jvm.Cond.methodLink own idx y).before a0 Z = true) (w2 : (Jvm.Cond.static y).before a0 Z = true) (wz : (Jvm.Cond.initialized y.cls).before a0 Z = true) (wc : (Jvm.Cond.code y bytes maxL ret').before a0 Z = true) (hy : notMH y.cls)
    (hds : parseMethodDescriptor y.desc = some ⟨ps, r⟩) (hlen : as'.length = ps.length) (C : Con2 l Z nar y bytes maxL ret' rm' as' h ws' Q') (hws : ∀ w ∈ ws', w ∈ M ∧ (w ∈ ws ∨ h0.size ≤ w)) (hcl : cl'.1 = true → cl.1 = true ∧ ∀ w ∈ ws', h0.size ≤ w) (hcs : cl'.2 = cl.2) (hL : L.size = ml)
    (hf : rm'.frames + 1 ≤ R.frames) (hlo : (rest.map fun v => v.category).sum + (maxL + 11) + rm'.locals ≤ R.locals) (hcc : k + rm'.cells ≤ R.cells) (hnn : n + rm'.slots ≤ R.slots) (hd : decode code pc = .ok (.invokestatic idx, 3)) (hp : pc + 3 = pc') (hst : S = as'.reverse ++ rest)
    (K : ∀ (N : List Addr) (v : Option Value) (h' : Heap), Q' M N v h' → Keep h h' ws' → W B h' (k + rm'.cells) (n + rm'.slots) (N ++ M) cl' pc' L (v.toList ++ rest)) : W B h k n M cl pc L S := by
  subst hp
  refine W.call (len := 3) ok wc wz C hws hcl hcs hf hlo hcc hnn (fun T vm0 locs X hz ho eT Pre Post hK hpre => ?_) K
  exact callSS X ok.x ho (mv hz w1) (mv hz w2) (mv hz wz) (mv hz wc) hy hK (g := mkF B.m pc L S) rfl (by rw [ok.ml_]; exact hL) (argsL := as') (rest := rest) (lenOf hds hlen) hst (by show 2 * 0 + _ ≤ _; omega) (hb ok.by_ hd) hpre
theorem W.callI (ok : Ok B l Z nar own nm code ml ret R h0 ws fr Q Me) {a : Addr} (hy1 : y.name = "<init>") (w1 : (Jvm.Cond.methodLink own idx y).before a0 Z = true) (w2 : (Jvm.Cond.instanceMethod y).before a0 Z = true) (wz : (Jvm.Cond.initialized y.cls).before a0 Z = true) (wc : (Jvm.Cond.code y bytes maxL none).before a0 Z = true) (hy : notMH y.cls)
    (hds : parseMethodDescriptor y.desc = some ⟨ps, r⟩) (hlen : as'.length = ps.length) (C : Con2 l Z nar y bytes maxL none rm' (.ref a :: as') h ws' Q') (hws : ∀ w ∈ ws', w ∈ M ∧ (w ∈ ws ∨ h0.size ≤ w)) (hcl : cl'.1 = true → cl.1 = true ∧ ∀ w ∈ ws', h0.size ≤ w) (hcs : cl'.2 = cl.2) (hL : L.size = ml)
    (hf : rm'.frames + 1 ≤ R.frames) (hlo : (rest.map fun v => v.category).sum + (maxL + 11) + rm'.locals ≤ R.locals) (hcc : k + rm'.cells ≤ R.cells) (hnn : n + rm'.slots ≤ R.slots) (hd : decode code pc = .ok (.invokespecial idx, 3)) (hp : pc + 3 = pc') (hst : S = as'.reverse ++ .ref a :: rest)
    (K : ∀ (N : List Addr) (v : Option Value) (h' : Heap), Q' M N v h' → Keep h h' ws' → W B h' (k + rm'.cells) (n + rm'.slots) (N ++ M) cl' pc' L (v.toList ++ rest)) : W B h k n M cl pc L S := by
  subst hp
  refine W.call (len := 3) ok wc wz C hws hcl hcs hf hlo hcc hnn (fun T vm0 locs X hz ho eT Pre Post hK hpre => ?_) K
  exact X.specialBackS ok.x hy1 ho (mv hz w1) (mv hz w2) (mv hz wc) hy hK (g := mkF B.m pc L S) rfl (by rw [ok.ml_]; exact hL) (Steps.refl _) (argsL := as') (rest := rest) (lenOf hds hlen) hst (by show 2 * 0 + _ ≤ _; omega) (hb ok.by_ hd) hpre
theorem W.callV (ok : Ok B l Z nar own nm code ml ret R h0 ws fr Q Me) {a : Addr} {C0 : String} (w1 : (Jvm.Cond.methodLink own idx y).before a0 Z = true) (w2 : (Jvm.Cond.declares y).before a0 Z = true) (w3 : (Jvm.Cond.selects C0 y y).before a0 Z = true) (w4 : (Jvm.Cond.instanceMethod y).before a0 Z = true) (wz : (Jvm.Cond.initialized y.cls).before a0 Z = true) (wc : (Jvm.Cond.code y bytes maxL ret').before a0 Z = true) (hy : notMH y.cls)
    (E : Exa Z h a C0) (hds : parseMethodDescriptor y.desc = some ⟨ps, r⟩) (hlen : as'.length = ps.length) (C : Con2 l Z nar y bytes maxL ret' rm' (.ref a :: as') h ws' Q') (hws : ∀ w ∈ ws', w ∈ M ∧ (w ∈ ws ∨ h0.size ≤ w)) (hcl : cl'.1 = true → cl.1 = true ∧ ∀ w ∈ ws', h0.size ≤ w) (hcs : cl'.2 = cl.2) (hL : L.size = ml)
    (hf : rm'.frames + 1 ≤ R.frames) (hlo : (rest.map fun v => v.category).sum + (maxL + 11) + rm'.locals ≤ R.locals) (hcc : k + rm'.cells ≤ R.cells) (hnn : n + rm'.slots ≤ R.slots) (hd : decode code pc = .ok (.invokevirtual idx, 3)) (hp : pc + 3 = pc') (hst : S = as'.reverse ++ .ref a :: rest)
    (K : ∀ (N : List Addr) (v : Option Value) (h' : Heap), Q' M N v h' → Keep h h' ws' → W B h' (k + rm'.cells) (n + rm'.slots) (N ++ M) cl' pc' L (v.toList ++ rest)) : W B h k n M cl pc L S := by
  subst hp
  refine W.call (len := 3) ok wc wz C hws hcl hcs hf hlo hcc hnn (fun T vm0 locs X hz ho eT Pre Post hK hpre => ?_) K
  obtain ⟨cB, kB, q1, q2, q3⟩ := isOf hz eT E
  exact X.virtualBackS ok.x ho (mv hz w1) (mv hz w2) (notFace_of_selects (args := #[]) (mv hz w3)) (mv hz w3) (mv hz w4) hy hK q1 q3 (g := mkF B.m pc L S) rfl (by rw [ok.ml_]; exact hL) (Steps.refl _) (argsL := as') (rest := rest) (lenOf hds hlen) hst (by show 2 * 0 + _ ≤ _; omega) (hb ok.by_ hd) hpre
theorem W.callF (ok : Ok B l Z nar own nm code ml ret R h0 ws fr Q Me) {a : Addr} {C0 : String} {yr : MethodName} {count : Nat} (w1 : (Jvm.Cond.methodLink own idx yr).before a0 Z = true) (w2 : (Jvm.Cond.declares yr).before a0 Z = true) (w5 : (Jvm.Cond.interfaceMethod yr.cls yr.cls yr.name yr.desc).before a0 Z = true) (k5 : ((Jvm.Cond.interfaceMethod yr.cls yr.cls yr.name yr.desc).onTables && (Jvm.Cond.interfaceMethod yr.cls yr.cls yr.name yr.desc).keepsFace) = true) (w3 : (Jvm.Cond.selects C0 yr y).before a0 Z = true) (w4 : (Jvm.Cond.instanceMethod y).before a0 Z = true)
    (w6 : (Jvm.Cond.publicMethod y).before a0 Z = true) (w7 : (Jvm.Cond.unhidden C0 yr.name yr.desc).before a0 Z = true) (w8 : (Jvm.Cond.castable C0 yr.cls).before a0 Z = true) (wz : (Jvm.Cond.initialized y.cls).before a0 Z = true) (wc : (Jvm.Cond.code y bytes maxL ret').before a0 Z = true) (hy : notMH yr.cls)
    (E : Exa Z h a C0) (hds : parseMethodDescriptor yr.desc = some ⟨ps, r⟩) (hlen : as'.length = ps.length) (C : Con2 l Z nar y bytes maxL ret' rm' (.ref a :: as') h ws' Q') (hws : ∀ w ∈ ws', w ∈ M ∧ (w ∈ ws ∨ h0.size ≤ w)) (hcl : cl'.1 = true → cl.1 = true ∧ ∀ w ∈ ws', h0.size ≤ w) (hcs : cl'.2 = cl.2) (hL : L.size = ml)
    (hf : rm'.frames + 1 ≤ R.frames) (hlo : (rest.map fun v => v.category).sum + (maxL + 11) + rm'.locals ≤ R.locals) (hcc : k + rm'.cells ≤ R.cells) (hnn : n + rm'.slots ≤ R.slots) (hd : decode code pc = .ok (.invokeinterface idx count, 5)) (hp : pc + 5 = pc') (hst : S = as'.reverse ++ .ref a :: rest)
    (K : ∀ (N : List Addr) (v : Option Value) (h' : Heap), Q' M N v h' → Keep h h' ws' → W B h' (k + rm'.cells) (n + rm'.slots) (N ++ M) cl' pc' L (v.toList ++ rest)) : W B h k n M cl pc L S := by
  subst hp
  refine W.call (len := 5) ok wc wz C hws hcl hcs hf hlo hcc hnn (fun T vm0 locs X hz ho eT Pre Post hK hpre => ?_) K
  obtain ⟨cB, kB, q1, q2, q3⟩ := isOf hz eT E
  exact X.interfaceBackS ok.x ho (mv hz w1) (mv hz w2) (mv hz w5 k5) (mv hz w3) (mv hz w4) (mv hz w6) (mv hz w7) (mv hz w8) hy hK q1 q2 q3 (g := mkF B.m pc L S) rfl (by rw [ok.ml_]; exact hL) (Steps.refl _) (argsL := as') (rest := rest) (lenOf hds hlen) hst (by show 2 * 0 + _ ≤ _; omega) (hb ok.by_ hd) hpre
theorem W.weaken {k' n' : Nat} {cl' : Cl} (hk : k ≤ k') (hn : n ≤ n') (hcl : cl'.1 = true → cl.1 = true) (hcs : ∀ e ∈ cl'.2, e ∈ cl.2) (K : W B h k' n' M cl' pc L S) : W B h k n M cl pc L S := fun T P => by
  obtain ⟨vm0, k0, locs, X, hS, hk0, hnar, hL, hc, hlt, eT, bg⟩ := P
  exact K T ⟨vm0, k0, locs, X.mono hk hn, hS, hk0, hnar, hL, fun q => hc (hcl q), fun e he => hlt e (hcs e he), eT, bg⟩
theorem W.drop {M' : List Addr} (hM : ∀ x ∈ M', x ∈ M) (K : W B h k n M' cl pc L S) : W B h k n M cl pc L S := fun T P => by
  obtain ⟨vm0, k0, locs, X, hS, hk0, hnar, hL, hc, hlt, eT, bg⟩ := P
  exact K T ⟨vm0, k0, locs, X, hS, hk0, hnar, hL, hc, hlt, eT, bg.shrink hM⟩
/-- what the walk knows of the addresses still to be written -/
theorem W.lt (K : (∀ b ∈ M, h.size > b) → W B h k n M cl pc L S) : W B h k n M cl pc L S := fun T P => by
  obtain ⟨vm0, k0, locs, X, hS, hk0, hnar, hL, hc, hlt, eT, bg⟩ := P
  exact K (fun b hb => by rw [← eT]; exact bg.2.2.2.2 b hb) T ⟨vm0, k0, locs, X, hS, hk0, hnar, hL, hc, hlt, eT, bg⟩
theorem W.old (ok : Ok B l Z nar own nm code ml ret R h0 ws fr Q Me) (K : Ext Z.heap h → h0.size ≤ h.size → W B h k n M cl pc L S) : W B h k n M cl pc L S := fun T P => by
  obtain ⟨vm0, k0, locs, X, hS, hk0, hnar, hL, hc, hlt, eT, bg⟩ := P
  exact K (by rw [← eT, ← ok.Z_]; exact bg.2.2.1) (by rw [← ok.h_, ← eT]; exact X.same.2.1) T ⟨vm0, k0, locs, X, hS, hk0, hnar, hL, hc, hlt, eT, bg⟩
theorem oldK {fr' : Bool} {Q0 : Option Value → Heap → Prop} {k' n' : Nat} (K : ∀ (v : Option Value) (h' : Heap), Q0 v h' → Keep h h' ws' → W B h' k' n' (refs fr' v ++ M) cl pc L (v.toList ++ rest)) : ∀ (N : List Addr) (v : Option Value) (h' : Heap), OldQ fr' Q0 N v h' → Keep h h' ws' → W B h' k' n' (N ++ M) cl pc L (v.toList ++ rest) := by
  rintro N v h' ⟨rfl, q⟩ kp
  exact K v h' q kp
theorem pureK {w : Value} {k' n' : Nat} (K : W B h k' n' M cl pc L (w :: rest)) : ∀ (N : List Addr) (v : Option Value) (h' : Heap), OldQ false (fun v h' => v = some w ∧ h' = h) N v h' → Keep h h' ws' → W B h' k' n' (N ++ M) cl pc L (v.toList ++ rest) := by
  rintro N v h' ⟨rfl, rfl, rfl⟩ -
  exact K
theorem pureK0 {k' n' : Nat} (K : W B h k' n' M cl pc L rest) : ∀ (N : List Addr) (v : Option Value) (h' : Heap), OldQ false (fun v h' => v = none ∧ h' = h) N v h' → Keep h h' ws' → W B h' k' n' (N ++ M) cl pc L (v.toList ++ rest) := by
  rintro N v h' ⟨rfl, rfl, rfl⟩ -
  exact K
theorem ext_keep {h h' : Heap} (K : Keep h h' []) : Ext h h' := ⟨K.1, fun a c q => K.2.1 a c q fun z => (nomatch z)⟩
end Calls
end Jvm.Pilot.@@N@@.Wk
namespace Jvm.Pilot.@@N@@.Wk
open Jvm Jvm.ClassFile Sem Op Lib Jvm.Free Jvm.Stand Jvm.LawKit Jvm.RoadKit Bundle Jvm.Free.SB Jvm.Free.SBG
/-! ### Strings: nobody writes them, all chars known -/
abbrev ST : String := "java/lang/String"
def wide : List Int32 → List Int32
  | [] => []
  | c :: r => b8 c :: b8 (c >>> ((8 : Int32) &&& 31)) :: wide r
def Cod (cd : Int32) (cs bs : List Int32) : Prop :=
  (cd = 0 ∧ bs = cs.map b8 ∧ ∀ c ∈ cs, 0 ≤ c.toInt ∧ c.toInt ≤ 255) ∨ (cd = 1 ∧ bs = wide cs ∧ (∀ c ∈ cs, 0 ≤ c.toInt ∧ c.toInt ≤ 65535) ∧ ∃ c ∈ cs, 255 < c.toInt)
def StrM (Z : State) (h : Heap) (M : List Addr) (a : Addr) (cs : List Int32) : Prop :=
  ∃ (t : Addr) (cd : Int32) (bs : List Int32), a ∉ M ∧ t ∉ M ∧ Exa Z h a ST ∧ Fld Z h a ST "value" "[B" (.ref t) ∧ Fld Z h a ST "coder" "B" (.int cd) ∧ ArI Z h t .byte bs ∧ Cod cd cs bs
theorem StrM.kept {Z : State} {h h' : Heap} {M : List Addr} {a : Addr} {cs : List Int32} (F : StrM Z h M a cs) (K : Kept M h h') : StrM Z h' M a cs := by
  obtain ⟨t, cd, bs, q1, q2, q3, q4, q5, q6, q7⟩ := F
  exact ⟨t, cd, bs, q1, q2, Exa.kept q3 K q1, Fld.kept q4 K q1, Fld.kept q5 K q1, q6.kept K q2, q7⟩
theorem StrM.ext {Z : State} {h h' : Heap} {M : List Addr} {a : Addr} {cs : List Int32} (F : StrM Z h M a cs) (E : Ext h h') : StrM Z h' M a cs := F.kept (Kept.ext E)
theorem StrM.keep {Z : State} {h h' : Heap} {M ws : List Addr} {a : Addr} {cs : List Int32} (F : StrM Z h M a cs) (K : Keep h h' ws) (hw : ∀ w ∈ ws, w ∈ M) : StrM Z h' M a cs := F.kept (Kept.keep K hw)
theorem StrM.wr {Z : State} {h h' : Heap} {M : List Addr} {a b : Addr} {cs : List Int32} {sl : Nat} {v : Value} (F : StrM Z h M a cs) (W : Wr h h' b sl v) (hb : b ∈ M) : StrM Z h' M a cs := F.kept (Kept.wr W hb)
theorem StrM.mono {Z : State} {h : Heap} {M M' : List Addr} {a : Addr} {cs : List Int32} (F : StrM Z h M a cs) (hM : ∀ b ∈ M', b ∈ M ∨ h.size ≤ b) : StrM Z h M' a cs := by
  obtain ⟨t, cd, bs, q1, q2, q3, q4, q5, q6, q7⟩ := F
  exact ⟨t, cd, bs, fun r => (hM _ r).elim q1 fun z => absurd q3.lt (Nat.not_lt.mpr z), fun r => (hM _ r).elim q2 fun z => absurd q6.lt (Nat.not_lt.mpr z), q3, q4, q5, q6, q7⟩
theorem StrM.cons {Z : State} {h h' : Heap} {M : List Addr} {a b : Addr} {cs : List Int32} (F : StrM Z h M a cs) (hb : h.size = b) (E : Ext h h') : StrM Z h' (b :: M) a cs :=
  (F.mono (M' := b :: M) fun x hx => (List.mem_cons.mp hx).elim (fun q => Or.inr (Nat.le_of_eq (hb.trans q.symm))) Or.inl).ext E
theorem StrM.exa {Z : State} {h : Heap} {M : List Addr} {a : Addr} {cs : List Int32} (F : StrM Z h M a cs) : Exa Z h a ST := by obtain ⟨t, cd, bs, q1, q2, q3, -⟩ := F; exact q3
theorem StrM.lt {Z : State} {h : Heap} {M : List Addr} {a : Addr} {cs : List Int32} (F : StrM Z h M a cs) : a < h.size := F.exa.lt
theorem StrM.gt {Z : State} {h : Heap} {M : List Addr} {a : Addr} {cs : List Int32} (F : StrM Z h M a cs) : h.size > a := F.lt
theorem StrM.nin {Z : State} {h : Heap} {M : List Addr} {a : Addr} {cs : List Int32} (F : StrM Z h M a cs) : a ∉ M := by obtain ⟨t, cd, bs, q1, -⟩ := F; exact q1
def Str (Z : State) (h : Heap) (a : Addr) (cs : List Int32) : Prop :=
  ∃ (t : Addr) (cd : Int32) (bs : List Int32), Exa Z h a ST ∧ Fld Z h a ST "value" "[B" (.ref t) ∧ Fld Z h a ST "coder" "B" (.int cd) ∧ ArI Z h t .byte bs ∧ Cod cd cs bs
theorem StrM.str {Z : State} {h : Heap} {M : List Addr} {a : Addr} {cs : List Int32} (F : StrM Z h M a cs) : Str Z h a cs := by obtain ⟨t, cd, bs, -, -, q⟩ := F; exact ⟨t, cd, bs, q⟩
theorem Str.ext {Z : State} {h h' : Heap} {a : Addr} {cs : List Int32} (F : Str Z h a cs) (E : Ext h h') : Str Z h' a cs := by obtain ⟨t, cd, bs, q1, q2, q3, q4, q5⟩ := F; exact ⟨t, cd, bs, q1.ext E, q2.ext E, q3.ext E, q4.ext E, q5⟩
theorem Str.cast {Z : State} {h : Heap} {a : Addr} {cs cs' : List Int32} (F : Str Z h a cs) (e : cs = cs') : Str Z h a cs' := e ▸ F
theorem Str.exa {Z : State} {h : Heap} {a : Addr} {cs : List Int32} (F : Str Z h a cs) : Exa Z h a ST := by obtain ⟨t, cd, bs, q, -⟩ := F; exact q
theorem StrM.cast {Z : State} {h : Heap} {M : List Addr} {a : Addr} {cs cs' : List Int32} (F : StrM Z h M a cs) (e : cs = cs') : StrM Z h M a cs' := e ▸ F
theorem Cod.rng {cd : Int32} {cs bs : List Int32} (h : Cod cd cs bs) : ∀ c ∈ cs, 0 ≤ c.toInt ∧ c.toInt ≤ 65535 := by
  rcases h with ⟨-, -, h⟩ | ⟨-, -, h, -⟩
  · exact fun c hc => ⟨(h c hc).1, by have := (h c hc).2; omega⟩
  · exact h
theorem StrM.rng {Z : State} {h : Heap} {M : List Addr} {a : Addr} {cs : List Int32} (F : StrM Z h M a cs) : ∀ c ∈ cs, 0 ≤ c.toInt ∧ c.toInt ≤ 65535 := by obtain ⟨t, cd, bs, -, -, -, -, -, -, q⟩ := F; exact q.rng
theorem wide_length : ∀ cs : List Int32, (wide cs).length = 2 * cs.length
  | [] => rfl
  | c :: r => by simp only [wide, List.length_cons, wide_length r]; omega
/-- the chars of a literal -/
def chs (t : String) : List Int32 := t.toList.map fun c => Int32.ofNat c.toNat
theorem b8_byteI : ∀ u : UInt16, u < 256 → b8 (Int32.ofNat u.toNat) = Jvm.Lit.byteI u ∧ 0 ≤ (Int32.ofNat u.toNat).toInt ∧ (Int32.ofNat u.toNat).toInt ≤ 255 := by
  have key : ∀ i : Fin 256, b8 (Int32.ofNat i.val) = Jvm.Lit.byteI (UInt16.ofNat i.val) ∧ 0 ≤ (Int32.ofNat i.val).toInt ∧ (Int32.ofNat i.val).toInt ≤ 255 := by decide +kernel
  intro u hu
  have h256 : u.toNat < 256 := UInt16.lt_iff_toNat_lt.mp hu
  have := key ⟨u.toNat, h256⟩
  simpa using this
theorem StrM.of_sl {Z U : State} {M : List Addr} {a : Addr} {units : Array UInt16} (hal : Z.vm.Alike U.vm) (hlat : units.all (· < 256) = true) (s : SlM M U a units) : StrM Z U.heap M a (units.toList.map fun u => Int32.ofNat u.toNat) := by
  obtain ⟨q, cS, hqa, ⟨⟨s1, s2, s3, ⟨cv, kv, iv, s4, s4'⟩, ⟨cc, kc, ic, s5, s5'⟩, s6, s7, s8, s9, s10, s11, s12, s13, s14, s15, s16⟩, hfS, hcS⟩, ⟨kS, k1, k2, k3⟩, hB, hbyt, n1, n2⟩ := s
  subst hqa
  obtain ⟨kv', z4⟩ := ff_back hal s4
  obtain ⟨kc', z5⟩ := ff_back hal s5
  have hfZ : Z.vm.findClass "java/lang/String" = some q.sC.cls := by rw [← hal.findClass, hcS]; exact hfS
  obtain ⟨kz, hkz, -⟩ := Vm.findClass_spec hfZ
  obtain ⟨kz', hkz', ekz⟩ := hal.2.2 _ _ hkz
  have ekS : kz' = kS := Option.some.inj (hkz'.symm.trans (hcS ▸ k1))
  have hBZ : Z.vm.findClass "[B" = some q.SA.cls := by rw [← hal.findClass]; exact hB
  obtain ⟨kb, hkb, -⟩ := Vm.findClass_spec hBZ
  obtain ⟨kb', hkb', ekb⟩ := hal.2.2 _ _ hkb
  obtain ⟨hst, k9, hk9, comp, hkind9⟩ := s11
  have ek9 : k9 = kb' := Option.some.inj (hk9.symm.trans hkb')
  have hAZ : Z.isArrayOf q.SA .byte := ⟨hst, kb, hkb, comp, by rw [ek9, ekb] at hkind9; exact hkind9⟩
  have hl : ∀ u ∈ units.toList, u < 256 := fun u hu => by
    have := (Array.all_eq_true_iff_forall_mem.mp hlat) u (Array.mem_toList_iff.mp hu)
    simpa using this
  have hsl : q.SA.slots = units.map fun u => Value.int (Jvm.Lit.byteI u) := by rw [hbyt, SBG.stringBytes_lat hlat]; rfl
  refine ⟨q.sd, 0, units.toList.map Jvm.Lit.byteI, n1, n2, ⟨q.sC, kz, s1, hfZ, hkz, s3, fun ho => by rw [k3, ← ekS, ekz]⟩, ⟨q.sC, cv, kv', iv, q.fSV, s1, z4, s6, s2, s3, by rw [← hal.assignable]; exact s4', s8⟩, ⟨q.sC, cc, kc', ic, q.fSC, s1, z5, s7, s2, s3, by rw [← hal.assignable]; exact s5', s9⟩, ⟨q.SA, ⟨s10, hAZ, s12⟩, ?_, fun x hx => ?_⟩, Or.inl ⟨rfl, ?_, fun c hc => ?_⟩⟩
  · rw [hsl]
    apply Array.toList_inj.mp
    simp
  · obtain ⟨u, -, rfl⟩ := List.mem_map.mp hx
    exact SBG.fits_of_int8 _
  · rw [List.map_map]
    exact List.map_congr_left fun u hu => ((b8_byteI u (hl u hu)).1).symm
  · obtain ⟨u, hu, rfl⟩ := List.mem_map.mp hc
    exact (b8_byteI u (hl u hu)).2
theorem chs_of {units : Array UInt16} {text : String} (h : utf16ToString? units = some text) (ht : ∀ c ∈ text.toList, c.toNat < 256) : (units.toList.map fun u => Int32.ofNat u.toNat) = chs text := by
  rw [Jvm.ClassFile.units_of_text h ht, List.map_map]
  refine List.map_congr_left fun c hc => ?_
  have := ht c hc
  simp only [Function.comp]
  congr 1
  simp [Nat.toUInt16]
  omega
/-- an old String of a case is one that nobody writes -/
theorem SlM.of_old {Z U : State} {M : List Addr} {a : Addr} {units : Array UInt16} (s : SlOf Z a units) (b : Bg Z M U) : SlM M U a units := by
  obtain ⟨q, cS, h1, h2, ⟨kS, k1, k2, k3⟩, h4, h5⟩ := s
  have hal := b.1.alike
  obtain ⟨kS', hk', ek⟩ := hal.2.2 _ _ k1
  have g1 := h2.1.1
  have g2 := h2.1.2.2.2.2.2.2.2.2.2.1
  exact ⟨q, cS, h1, h2.carry hal (b.2.2.1.2 _ _ g1) (b.2.2.1.2 _ _ g2), ⟨kS', hk', by rw [ek]; exact k2, by rw [ek]; exact k3⟩, by rw [hal.findClass]; exact h4, h5,
    fun r => absurd (Array.getElem?_eq_some_iff.mp g1).1 (Nat.not_lt.mpr (b.2.2.2.1 _ r)), fun r => absurd (Array.getElem?_eq_some_iff.mp g2).1 (Nat.not_lt.mpr (b.2.2.2.1 _ r))⟩
section Ldc
variable {B : Cx} {l : Launch} {Z : State} {nar : Bool} {own nm : String} {code : ByteArray} {ml : Nat} {ret : Option FieldType} {R : Room} {h0 : Heap} {ws : List Addr} {fr : Bool} {Q : List Addr → Option Value → Heap → Prop} {Me : List Addr}
variable {h : Heap} {k n : Nat} {M : List Addr} {cl : Cl} {pc pc' : Nat} {L : Array Slot} {S : List Value} {a0 : Array Value}
theorem find_push {A : Array (Array UInt16 × Addr)} {u u' : Array UInt16} {a a' : Addr} (h : (A.push (u', a')).find? (fun p => p.1 == u) = some (u, a)) : A.find? (fun p => p.1 == u) = some (u, a) ∨ (A.find? (fun p => p.1 == u) = none ∧ u' = u ∧ a' = a) := by
  rw [Array.find?_push] at h
  cases hf : A.find? (fun p => p.1 == u) with
  | some x => rw [hf] at h; exact Or.inl (by simpa using h)
  | none =>
    rw [hf] at h
    simp at h
    exact Or.inr ⟨rfl, h.1, h.2⟩
theorem W.ldcS (ok : Ok B l Z nar own nm code ml ret R h0 ws fr Q Me) (hnar : nar = false) {idx : Nat} {text : String} (w : (Jvm.Cond.stringLink own idx text).before a0 Z = true) (wS : ∀ a ∈ Bundle.stringAtoms, a.before a0 Z = true) (hh : Jvm.Lit.constHeld Z own idx) (hcw : Jvm.Lit.compactW.before a0 Z = true)
    (ht : ∀ c ∈ text.toList, c.toNat < 256) (hcl : cl.1 = true ∨ (own, idx) ∈ cl.2) {sz : Nat} (hsz : 4 * text.toList.length ≤ sz) (hbig : sz ≤ 536870912) (hd : decode code pc = .ok (.ldc idx, 2)) (hp : pc + 2 = pc') (hc : k + 2 ≤ R.cells) (hn : n + (sz + 4) ≤ R.slots)
    (K : ∀ (a : Addr) (h' : Heap), Ext h h' → StrM Z h' M a (chs text) → W B h' (k + 2) (n + (sz + 4)) M (cl.1, (own, idx) :: cl.2) pc' L (.ref a :: S)) : W B h k n M cl pc L S := by
  subst hp
  intro T P
  obtain ⟨vm0, k0, locs, X, hS, hk0, hnr, hL, hcl', hlt, eT, bg⟩ := P
  have eZ := ok.Z_
  have eR := ok.R_
  rw [eZ] at bg
  have hz : Z.Warmed39 T.vm := bg.1
  have hal : Z.vm.Alike T.vm := hz.alike
  have X1 : Stand B.p B.l B.e B.R (B.s.setVm T.vm) B.m B.args B.below B.meth B.c T locs k n := X.retabled X.warmed.wide
  have hS1 : B.s.Since T.vm T.heap.size := hS.trans (X.warmed.since _) hk0
  have hown : (B.s.setVm T.vm).vm.findClass own = some B.m.cls := (hS1.1.alike.findClass _ _).trans ok.own_
  have wl : (Jvm.Cond.stringLink own idx text).before B.args (B.s.setVm T.vm) = true := mvS hz w
  obtain ⟨k1, cf, i, units, hk1, hcf, hcp, hu, hnm, htext, hres⟩ := Cond.stringLink_spec hown wl
  have hlat := Jvm.ClassFile.lat_of_text htext ht
  have q2 : k1.cf.bind (namesOf? ·.constantPool idx) = some (.string text) := by rw [hcf]; exact hnm
  have q3 : k1.cf.bind (·.constantPool[idx]?) = some (.string i) := by rw [hcf]; exact hcp
  have q4 : k1.cf.bind (·.constantPool.utf8? i) = some units := by rw [hcf]; simp [ConstantPool.utf8?, hu]
  have wi : (Jvm.Cond.instantiable "java/lang/String" 4).before a0 Z = true := wS _ (by simp [Bundle.stringAtoms, Bundle.sN])
  have wa : (Jvm.Cond.arrayClass .byte).before a0 Z = true := wS _ (by simp [Bundle.stringAtoms])
  have hH : ConstHeldL Z own idx := heldStart hh w ht hcw wa wi
  -- the class's record at the case's start
  have hownZ : Z.vm.findClass own = some B.m.cls := by rw [← hal.findClass]; exact hown
  obtain ⟨kz, cfz, iz, uz, hkz, hcfz, hcpz, huz, hnmz, htextz, hresz⟩ := Cond.stringLink_spec hownZ w
  obtain ⟨kT, hkT, ekT, -, hent, -⟩ := hz.2.2.2 _ _ hkz
  have e1 : kT = k1 := Option.some.inj (hkT.symm.trans hk1)
  subst e1
  have ecf : cfz = cf := by have : kT.cf = kz.cf := by rw [ekT]
                            rw [this, hcfz] at hcf; exact Option.some.inj hcf
  subst ecf
  have ei : iz = i := by have := hcpz.symm.trans hcp; simpa using this
  subst ei
  have eu : uz = units := by have := huz.symm.trans hu; simpa using this
  subst eu
  have held : ∀ a, T.vm.interned.find? (fun p => p.1 == uz) = some (uz, a) → SlM M T a uz ∨ Z.vm.interned.find? (fun p => p.1 == uz) = some (uz, a) := fun a hf => (bg.2.1 uz a hlat hf).symm
  have hownT : T.vm.findClass own = some B.m.cls := hown
  have hkT1 : T.vm.classes[B.m.cls]? = some kT := hk1
  have hltT : ∀ e ∈ cl.2, ∃ a, Lit (B.s.setVm T.vm) e.1 e.2 a := fun e he => by
    obtain ⟨a, ha⟩ := hlt e he
    exact ⟨a, Lit.stays ha X.warmed.wide⟩
  rcases hres with hopen | ⟨a, hres⟩
  · have hcl : cl.1 = true := hcl.elim id fun q => by
      obtain ⟨a, ha⟩ := hltT _ q
      simp [Lit, State.resolvedAt?, hownT, hkT1, hopen] at ha
    cases hf : T.vm.interned.find? (fun p => p.1 == uz) with
    | some pr =>
      obtain ⟨u', a⟩ := pr
      have hu' : u' = uz := by
        have := Array.find?_some hf
        simpa using this
      subst hu'
      have hW : (B.s.setVm T.vm).Warmed39 (T.vm.noted B.m.cls idx (.string a)) := X1.warmed.wide.notedString hk1 (Or.inl hopen) q2 q3 q4 hf
      have X2 := (X1.mono (Nat.le_add_right k 2) (Nat.le_add_right n (sz + 4))).retabled hW
      have sl : SlM M T a u' := by
        rcases held a hf with q | q
        · exact q
        · refine SlM.of_old ?_ bg
          rcases hent idx with e0 | ⟨hop, r, e1, -⟩
          · exact hH _ kz cfz iz u' a hownZ hkz hcfz hcpz huz (Or.inr ⟨e0 ▸ hopen, q⟩)
          · rw [hopen] at e1; simp at e1
      have bg2 : Bg Z M (T.setVm (T.vm.noted B.m.cls idx (.string a))) := bg.move (State.Warmed39.trans (t := B.s.setVm T.vm) hz hW) rfl (Kept.refl _ _)
      have st2 : StrM Z h M a (chs text) := by
        have := StrM.of_sl hal hlat sl
        rw [chs_of htext ht, eT] at this; exact this
      refine Gd.step (U' := (T.setVm (T.vm.noted B.m.cls idx (.string a))).setTop (mkF B.m (pc + 2) L (.ref a :: S))) (fun t q => ?_) (K a h ⟨Nat.le_refl _, fun _ _ q => q⟩ st2 _ ⟨T.vm.noted B.m.cls idx (.string a), T.heap.size, locs, X2, hS1.trans ⟨hW, State.Booked.step (T₂ := T.setVm (T.vm.noted B.m.cls idx (.string a))) (X1.warmed.no_new_pair _) X1.same.2.1 ⟨Nat.le_refl _, Or.inl rfl⟩⟩ (Nat.le_refl _), Nat.le_refl _, fun q => ?_, hL, hcl', fun e he => ?_, eT, by rw [eZ]; exact bg2⟩)
      · have hdd := hb ok.by_ hd
        jvm_step X1.here [ok.x, hdd, ldc.wp_string_found (e := B.e) (s := T) (f := mkF B.m pc L S) X1.here.top hk1 hcf hcp hu hopen hf]
        exact q
      · rw [ok.nar_, hnar] at q; cases q
      · rcases List.mem_cons.mp he with rfl | he
        · refine ⟨a, ?_⟩
          have hf2 : (T.vm.noted B.m.cls idx (.string a)).findClass own = some B.m.cls := (hW.alike.findClass _ _).trans hown
          obtain ⟨kk, hq1, hq2⟩ : ∃ k2 : Class, (T.vm.noted B.m.cls idx (.string a)).classes[B.m.cls]? = some k2 ∧ k2.resolved[idx]? = some (some (.string a)) := ⟨_, Vm.classes_note_self idx (.string a) hkT1, Class.resolved_note_self (.string a) hopen⟩
          simp [Lit, State.resolvedAt?, hf2, hq1, hq2]
        · obtain ⟨b, hb'⟩ := hltT e he
          exact ⟨b, Lit.stays hb' hW⟩
    | none =>
      have hheld : ConstHeldL (B.s.setVm T.vm) own idx := by
        intro c k2 cf2 i2 units2 a hc2 hk2 hcf2 hp2 hu2 hor
        cases hc2.symm.trans hown
        cases hk2.symm.trans hk1
        cases hcf2.symm.trans hcf
        cases hp2.symm.trans hcp
        cases hu2.symm.trans hu
        rcases hor with q | ⟨-, q⟩
        · rw [hopen] at q; simp at q
        · rw [show (B.s.setVm T.vm).vm.interned = T.vm.interned from rfl, hf] at q; cases q
      have hold : ∀ (b : Addr) (c : Cell), (B.s.setVm T.vm).heap[b]? = some c → T.heap[b]? = some c := oldF X1 (fun y hy => hcl' hcl y hy)
      obtain ⟨a, T2, X2, hS2, ⟨k2, hk2, hr2⟩, hkp, hi1, hint, ⟨units2, htext2, hin⟩, st⟩ := X1.ldcColdF hold ok.x (own := own) hown wl (fun d hd => by
        have q := wS d hd
        simp only [Bundle.stringAtoms, List.mem_cons, List.not_mem_nil, or_false] at hd
        rcases hd with rfl | rfl | rfl | rfl | rfl | rfl | rfl
        · exact mv (s := B.s.setVm T.vm) hz q
        · exact mv (s := B.s.setVm T.vm) hz q
        · exact mvA (s := B.s.setVm T.vm) hz q
        · exact mv (s := B.s.setVm T.vm) hz q
        · exact mv (s := B.s.setVm T.vm) hz q
        · exact mv (s := B.s.setVm T.vm) hz q
        · exact mv (s := B.s.setVm T.vm) hz q) hheld (fun us hus => Jvm.ClassFile.lat_of_text hus ht) (g := mkF B.m pc L S) rfl (hb ok.by_ hd) hsz hbig (by rw [eR]; exact hc) (by rw [eR]; exact hn)
      have same : ∀ us : Array UInt16, utf16ToString? us = some text → us = uz := fun us hus => Array.toList_inj.mp (by rw [Jvm.ClassFile.units_of_text hus ht, Jvm.ClassFile.units_of_text htext ht])
      have eu2 := same units2 htext2
      subst eu2
      have hz2 : Z.Warmed39 T2.vm := State.Warmed39.trans (t := B.s.setVm T.vm) hz hS2.1
      -- where the entry points now
      have hfa : T2.vm.interned.find? (fun p => p.1 == units2) = some (units2, a) := by
        obtain ⟨k2', hk2', -, -, ee, -⟩ := hS2.1.2.2.2 _ _ hk1
        cases hk2.symm.trans hk2'
        rcases ee idx with e0 | ⟨-, r, e1, hr | ⟨a3, t3, si, us, rfl, -, z3, z4, z5⟩⟩
        · rw [hr2, hopen] at e0; simp at e0
        · exfalso
          rw [hr2] at e1
          simp only [Option.some.injEq] at e1
          subst e1
          simp [State.rightAt, hk1, hcf, hnm] at hr
        · rw [hr2] at e1
          have ea : a = a3 := by simpa using e1
          subst ea
          rw [q3] at z3
          have : si = iz := by simpa using z3.symm
          subst this
          rw [q4] at z4
          have : us = units2 := by simpa using z4.symm
          subst this
          exact z5
      have hpush : T2.vm.interned = T.vm.interned.push (units2, a) ∧ T.heap.size ≤ a := by
        rcases hint with e0 | ⟨us, a', hus, e0⟩
        · rw [e0, hf] at hfa; cases hfa
        · have := same us hus
          subst this
          rw [e0] at hfa
          rcases find_push hfa with q | ⟨-, -, q⟩
          · rw [hf] at q; cases q
          · subst q
            refine ⟨e0, ?_⟩
            rcases hi1.2 with e2 | ⟨u3, a3, e2, e3, -⟩
            · rw [e0] at e2
              have := congrArg Array.size e2
              simp at this
            · have e4 := e0.symm.trans e2
              have e5 := congrArg Array.back? e4
              simp at e5
              rw [e5.2]; exact e3
      have Kp : Kept M T.heap T2.heap := ⟨hi1.1, fun b c q _ => by rw [hkp b (Array.getElem?_eq_some_iff.mp q).1]; exact q⟩
      have sl : SlM M T2 a units2 := by
        obtain ⟨q, cS, g1, g2, g3, g4, g5, g6⟩ := hin
        rcases g6 with ⟨g6, -⟩ | ⟨g6, g7⟩
        · exfalso
          have := X1.same.2.1
          rw [g1] at g6
          have h3 : (B.s.setVm T.vm).heap.size ≤ T.heap.size := this
          exact absurd g6 (Nat.not_lt.mpr (Nat.le_trans h3 hpush.2))
        · exact ⟨q, cS, g1, g2, g3, g4, g5, fun r => absurd (bg.2.2.2.2 _ r) (Nat.not_lt.mpr g6), fun r => absurd (bg.2.2.2.2 _ r) (Nat.not_lt.mpr g7)⟩
      have hal2 : T.vm.Alike T2.vm := hal.symm.trans hz2.alike
      have bg2 : Bg Z M T2 := by
        refine ⟨hz2, fun us b hl2 hf2 => ?_, ⟨Nat.le_trans bg.2.2.1.1 Kp.1, fun x c q => Kp.2 x c (bg.2.2.1.2 x c q) fun z => absurd (Array.getElem?_eq_some_iff.mp q).1 (Nat.not_lt.mpr (bg.2.2.2.1 x z))⟩, bg.2.2.2.1, fun x z => Nat.lt_of_lt_of_le (bg.2.2.2.2 x z) Kp.1⟩
        rw [hpush.1] at hf2
        rcases find_push hf2 with q | ⟨-, q, q'⟩
        · exact (bg.2.1 us b hl2 q).imp id fun s => s.move hal2 Kp.2
        · subst q q'; exact Or.inr sl
      have st2 : StrM Z T2.heap M a (chs text) := by
        have := StrM.of_sl hz2.alike hlat sl
        rw [chs_of htext ht] at this; exact this
      have E : Ext h T2.heap := by
        rw [← eT]
        exact ⟨hi1.1, fun b c q => by rw [hkp b (Array.getElem?_eq_some_iff.mp q).1]; exact q⟩
      refine Gd.step st (K a T2.heap E st2 T2 ⟨T2.vm, T2.heap.size, locs, X2, hS1.trans hS2 hi1.1, Nat.le_refl _, fun q => ?_, hL, hcl', fun e he => ?_, rfl, by rw [eZ]; exact bg2⟩)
      · rw [ok.nar_, hnar] at q; cases q
      · rcases List.mem_cons.mp he with rfl | he
        · refine ⟨a, ?_⟩
          have hf2 : T2.vm.findClass own = some B.m.cls := (hS2.1.alike.findClass _ _).trans hown
          simp [Lit, State.resolvedAt?, hf2, hk2, hr2]
        · obtain ⟨b, hb'⟩ := hltT e he
          exact ⟨b, Lit.stays hb' hS2.1⟩
  · have Li : Lit (B.s.setVm T.vm) own idx a := by simp [Lit, State.resolvedAt?, hownT, hkT1, hres]
    have sl : SlM M T a uz := by
      rcases hent idx with e0 | ⟨hop, r, e1, hr | ⟨a3, t3, si, us, rfl, -, z3, z4, z5⟩⟩
      · exact SlM.of_old (hH _ kz cfz iz uz a hownZ hkz hcfz hcpz huz (Or.inl (e0 ▸ hres))) bg
      · exfalso
        rw [hres] at e1
        simp only [Option.some.injEq] at e1
        subst e1
        simp [State.rightAt, hkz, hcfz, hnmz] at hr
      · rw [hres] at e1
        have ea : a = a3 := by simpa using e1
        subst ea
        have z3' : cfz.constantPool[idx]? = some (.string si) := by rw [hcfz] at z3; exact z3
        have : si = iz := by have := z3'.symm.trans hcpz; simpa using this
        subst this
        have z4' : us = uz := by rw [hcfz] at z4; simpa [ConstantPool.utf8?, huz] using z4.symm
        subst z4'
        rcases held a z5 with q | q
        · exact q
        · exact SlM.of_old (hH _ kz cfz si us a hownZ hkz hcfz hcpz huz (Or.inr ⟨hop, q⟩)) bg
    have st2 : StrM Z h M a (chs text) := by
      have := StrM.of_sl hal hlat sl
      rw [chs_of htext ht, eT] at this; exact this
    refine Gd.step (ldcAgain X1 ok.x hz hown w Li (g := mkF B.m pc L S) rfl (hb ok.by_ hd)) (K a h ⟨Nat.le_refl _, fun _ _ q => q⟩ st2 T ⟨T.vm, T.heap.size, locs, X1.mono (Nat.le_add_right k 2) (Nat.le_add_right n (sz + 4)), hS1, Nat.le_refl _, fun q => ?_, hL, hcl', fun e he => ?_, eT, by rw [eZ]; exact bg⟩)
    · rw [ok.nar_, hnar] at q; cases q
    · rcases List.mem_cons.mp he with rfl | he
      · exact ⟨a, Li⟩
      · exact hltT e he
end Ldc
end Jvm.Pilot.@@N@@.Wk
namespace Jvm.Pilot.@@N@@.Wk
open Jvm Jvm.ClassFile Sem Op Lib Jvm.Free Jvm.Stand Jvm.LawKit Jvm.RoadKit Bundle
/-! ### numbers -/
theorem c16_rng (x : Int32) : 0 ≤ (c16 x).toInt ∧ (c16 x).toInt ≤ 65535 := by have := c_i2c x; unfold c16; omega
theorem c16_mod (x : Int32) : (c16 x).toInt = x.toInt % 65536 := by have := c_i2c x; unfold c16; omega
theorem c16_of {c : Int32} (h : 0 ≤ c.toInt ∧ c.toInt ≤ 65535) : c16 c = c := Int32.toInt_inj.mp (by have := c16_mod c; omega)
theorem c16_c16 (x : Int32) : c16 (c16 x) = c16 x := c16_of (c16_rng x)
theorem b8_rng (x : Int32) : -128 ≤ (b8 x).toInt ∧ (b8 x).toInt ≤ 127 ∧ ((b8 x).toInt - x.toInt) % 256 = 0 := by have := c_i2b x; unfold b8; omega
theorem b8_of {c : Int32} (h : -128 ≤ c.toInt ∧ c.toInt ≤ 127) : b8 c = c := Int32.toInt_inj.mp (by have := b8_rng c; omega)
theorem b8_b8 (x : Int32) : b8 (b8 x) = b8 x := b8_of (by have := b8_rng x; omega)
theorem and255 (x : Int32) : (x &&& 255).toInt = x.toInt % 256 := c_mask x 255 8 (by decide) (by decide)
theorem b8_and {c : Int32} (h : 0 ≤ c.toInt ∧ c.toInt ≤ 255) : b8 c &&& 255 = c := Int32.toInt_inj.mp (by have := b8_rng c; have := and255 (b8 c); omega)
theorem shr8 (x : Int32) : (x >>> ((8 : Int32) &&& 31)).toInt = x.toInt / 256 := c_ishr x 8 8 (by decide)
theorem shr0 (x : Int32) : x >>> ((0 : Int32) &&& 31) = x := Int32.toInt_inj.mp (by have := c_ishr x 0 0 (by decide); simpa using this)
theorem shr1 (x : Int32) : (x >>> ((1 : Int32) &&& 31)).toInt = x.toInt / 2 := c_ishr x 1 1 (by decide)
theorem shl1 (x : Int32) : ((x <<< ((1 : Int32) &&& 31)).toInt - x.toInt * 2) % 4294967296 = 0 := c_ishl x 1 1 (by decide)
theorem pair {c : Int32} (h : 0 ≤ c.toInt ∧ c.toInt ≤ 65535) : c16 (((b8 c &&& 255) <<< ((0 : Int32) &&& 31)) ||| ((b8 (c >>> ((8 : Int32) &&& 31)) &&& 255) <<< ((8 : Int32) &&& 31))) = c := by
  have e1 := and255 (b8 c)
  have e2 := b8_rng c
  have e3 := and255 (b8 (c >>> ((8 : Int32) &&& 31)))
  have e4 := b8_rng (c >>> ((8 : Int32) &&& 31))
  have e5 := shr8 c
  generalize b8 c &&& 255 = u at *
  generalize b8 (c >>> ((8 : Int32) &&& 31)) &&& 255 = w at *
  have f1 := c_ishl u 0 0 (by decide)
  have f2 := c_ishl w 8 8 (by decide)
  have g1 := rng32 (u <<< ((0 : Int32) &&& 31))
  have g2 := rng32 (w <<< ((8 : Int32) &&& 31))
  generalize u <<< ((0 : Int32) &&& 31) = u' at *
  generalize w <<< ((8 : Int32) &&& 31) = w' at *
  have f3 := c_or' u' w' 8 (by decide) 256 (by decide) (by omega) (by omega) (by omega)
  have f4 := c16_mod (u' ||| w')
  have f5 := rng32 (u' ||| w')
  exact Int32.toInt_inj.mp (by omega)
theorem i32_len {n : Nat} (h : n < 2147483648) : (n.toInt32).toInt = n := len_toInt h
theorem Cod.len {cd : Int32} {cs bs : List Int32} (h : Cod cd cs bs) (hl : cs.length < 1000000) : bs.length.toInt32 >>> (cd &&& 31) = cs.length.toInt32 := by
  rcases h with ⟨rfl, rfl, -⟩ | ⟨rfl, rfl, -⟩
  · rw [shr0, List.length_map]
  · apply Int32.toInt_inj.mp
    rw [shr1, i32_len (by rw [wide_length]; omega), i32_len (by omega), wide_length]; omega
theorem Cod.cd01 {cd : Int32} {cs bs : List Int32} (h : Cod cd cs bs) : b8 cd = cd := by
  rcases h with ⟨rfl, -⟩ | ⟨rfl, -⟩ <;> rfl
theorem nat_i32 {n : Nat} (h : n < 2147483648) : (n.toInt32).toNatClampNeg = n := by
  simp only [Int32.toNatClampNeg, i32_len h]; omega
theorem wide_at : ∀ (cs : List Int32) (i : Nat) (c : Int32), cs[i]? = some c → (wide cs)[2 * i]? = some (b8 c) ∧ (wide cs)[2 * i + 1]? = some (b8 (c >>> ((8 : Int32) &&& 31)))
  | [], i, c, h => by simp at h
  | x :: r, 0, c, h => by simp at h; subst h; simp [wide]
  | x :: r, i + 1, c, h => by
    have := wide_at r i c (by simpa using h)
    have e : 2 * (i + 1) = 2 * i + 1 + 1 := by omega
    rw [e]
    simpa [wide] using this
theorem lt_of_at {cs : List Int32} {i : Nat} {c : Int32} (h : cs[i]? = some c) : i < cs.length := (List.getElem?_eq_some_iff.mp h).1
theorem mem_of_at {cs : List Int32} {i : Nat} {c : Int32} (h : cs[i]? = some c) : c ∈ cs := List.mem_of_getElem? h
theorem neg_iff (x : Int32) : x < 0 ↔ x.toInt < 0 := by rw [Int32.lt_iff_toInt_lt]; rfl
theorem fits_char_rng {x : Int32} (h : fits .char (.int x) = true) : 0 ≤ x.toInt ∧ x.toInt ≤ 65535 := by
  have := rng_char h
  rw [Int32.lt_iff_toInt_lt, Int32.lt_iff_toInt_lt] at this
  have e0 : (0 : Int32).toInt = 0 := rfl
  have e1 : (65535 : Int32).toInt = 65535 := rfl
  omega
theorem i32_succ (i : Nat) : i.toInt32 + 1 = (i + 1).toInt32 := by
  show Int32.ofNat i + 1 = Int32.ofNat (i + 1)
  rw [Int32.ofNat_add]; rfl
theorem fill_step {cs : List Int32} {i m : Nat} {c : Int32} (hc : cs[i]? = some c) : ((cs.take i).map b8 ++ List.replicate (m + 1) 0).set i (b8 c) = (cs.take (i + 1)).map b8 ++ List.replicate m 0 := by
  have hi := lt_of_at hc
  have hl : ((cs.take i).map b8).length = i := by simp; omega
  rw [List.set_append_right _ _ (by omega), hl, Nat.sub_self, List.replicate_succ, List.set_cons_zero, List.take_add_one, hc]
  simp
theorem take_all (cs : List Int32) (i : Nat) (h : i = cs.length) : (cs.take i).map b8 ++ List.replicate 0 0 = cs.map b8 := by simp [h]
theorem wide_app : ∀ (a b : List Int32), wide (a ++ b) = wide a ++ wide b
  | [], b => rfl
  | x :: a, b => by simp [wide, wide_app a b]
theorem wfill_step {cs : List Int32} {i m : Nat} {c : Int32} (hc : cs[i]? = some c) : ((wide (cs.take i) ++ List.replicate (2 * (m + 1)) 0).set (2 * i) (b8 c)).set (2 * i + 1) (b8 (c >>> ((8 : Int32) &&& 31))) = wide (cs.take (i + 1)) ++ List.replicate (2 * m) 0 := by
  have hi := lt_of_at hc
  have hl : (wide (cs.take i)).length = 2 * i := by rw [wide_length, List.length_take]; omega
  have e : 2 * (m + 1) = 2 * m + 1 + 1 := by omega
  rw [List.set_append_right _ _ (by omega), hl, Nat.sub_self, e, List.replicate_succ, List.set_cons_zero, List.set_append_right _ _ (by omega), hl, List.replicate_succ, List.take_add_one, hc, wide_app]
  have e2 : 2 * i + 1 - 2 * i = 1 := by omega
  rw [e2]
  simp [wide]
theorem i32_lt {a b : Nat} (ha : a < 2147483648) (hb : b < 2147483648) : a.toInt32 < b.toInt32 ↔ a < b := by rw [Int32.lt_iff_toInt_lt, i32_len ha, i32_len hb]; omega
theorem i32_inj {a b : Nat} (ha : a < 2147483648) (hb : b < 2147483648) : a.toInt32 = b.toInt32 ↔ a = b := by
  constructor
  · intro q
    have := congrArg Int32.toInt q
    rw [i32_len ha, i32_len hb] at this; omega
  · intro q; rw [q]
theorem i32_nn {a : Nat} (ha : a < 2147483648) : ¬ a.toInt32 < 0 := by rw [neg_iff, i32_len ha]; omega
theorem at_lt {cs : List Int32} {i : Nat} (h : i < cs.length) : ∃ c, cs[i]? = some c := ⟨cs[i], by simp⟩
theorem le255 {c : Int32} (h : c.toInt ≤ 255) : ¬ (255 : Int32) < c := by rw [Int32.lt_iff_toInt_lt]; have : (255 : Int32).toInt = 255 := rfl; omega
theorem gt255 {c : Int32} (h : 255 < c.toInt) : (255 : Int32) < c := by rw [Int32.lt_iff_toInt_lt]; have : (255 : Int32).toInt = 255 := rfl; omega
/-- a list of chars: none, all narrow, or a first wide one -/
theorem three (cs : List Int32) : (∀ c ∈ cs, c.toInt ≤ 255) ∨ ∃ (q : Nat) (cq : Int32), cs[q]? = some cq ∧ 255 < cq.toInt ∧ ∀ (j : Nat) (c : Int32), j < q → cs[j]? = some c → c.toInt ≤ 255 := by
  induction cs with
  | nil => exact Or.inl (fun c hc => by cases hc)
  | cons x r ih =>
    by_cases hx : x.toInt ≤ 255
    · rcases ih with h | ⟨q, cq, h1, h2, h3⟩
      · exact Or.inl (fun c hc => (List.mem_cons.mp hc).elim (fun e => e ▸ hx) (h c))
      · refine Or.inr ⟨q + 1, cq, by simpa using h1, h2, fun j c hj hc => ?_⟩
        cases j with
        | zero => simp at hc; subst hc; exact hx
        | succ j => exact h3 j c (by omega) (by simpa using hc)
    · exact Or.inr ⟨0, x, rfl, by omega, fun j c hj => by omega⟩
theorem i32_of {z : Int32} (h : 0 ≤ z.toInt) : ∃ n : Nat, z = n.toInt32 ∧ (n : Int) = z.toInt :=
  ⟨z.toInt.toNat, Int32.toInt_inj.mp (by rw [i32_len (by have := rng32 z; omega)]; omega), by omega⟩
theorem lowL (d : Int64) : 0 ≤ (c16 (d &&& 255).toInt32).toInt ∧ (c16 (d &&& 255).toInt32).toInt ≤ 255 := by
  have e1 : (d &&& 255).toInt = d.toInt % 256 := c_maskL d 255 8 (by decide) (by decide)
  have e2 := c_l2i (d &&& 255)
  have e3 := c16_mod (d &&& 255).toInt32
  have := rng32 (d &&& 255).toInt32
  omega
theorem lowI (x : Int32) : 0 ≤ (c16 (x &&& 255)).toInt ∧ (c16 (x &&& 255)).toInt ≤ 255 := by
  have e1 := and255 x
  have e3 := c16_mod (x &&& 255)
  omega
theorem maskI (x m : Int32) (k : Nat) (hk : k ≤ 31) (hm : m.toBitVec.toNat = 2 ^ k - 1) : 0 ≤ (x &&& m).toInt ∧ (x &&& m).toInt < (2 ^ k : Nat) := by
  have := c_mask x m k hk hm
  have h2 : (0 : Int) < ((2 ^ k : Nat) : Int) := by exact_mod_cast Nat.two_pow_pos k
  rw [this]
  exact ⟨Int.emod_nonneg _ (by omega), Int.emod_lt_of_pos _ h2⟩
theorem rem_rng {x y : Int32} {d : Int} (hy : y.toInt = d) (hd : 0 < d) (h : 0 ≤ x.toInt) : 0 ≤ (x % y).toInt ∧ (x % y).toInt < d := by
  have := (c_irem x y d hy).1 h
  rw [this]
  exact ⟨Int.emod_nonneg _ (by omega), Int.emod_lt_of_pos _ hd⟩
theorem unb8 : ∀ cs : List Int32, (∀ c ∈ cs, 0 ≤ c.toInt ∧ c.toInt ≤ 255) → (cs.map b8).map (· &&& 255) = cs
  | [], _ => rfl
  | c :: r, h => by
    simp only [List.map_cons]
    rw [b8_and (h c (List.mem_cons_self ..)), unb8 r fun x hx => h x (List.mem_cons_of_mem _ hx)]
def unw : List Int32 → List Int32
  | u :: w :: r => c16 (((u &&& 255) <<< ((0 : Int32) &&& 31)) ||| ((w &&& 255) <<< ((8 : Int32) &&& 31))) :: unw r
  | _ => []
theorem unw_wide : ∀ cs : List Int32, (∀ c ∈ cs, 0 ≤ c.toInt ∧ c.toInt ≤ 65535) → unw (wide cs) = cs
  | [], _ => rfl
  | c :: r, h => by
    simp only [wide, unw]
    rw [pair (h c (List.mem_cons_self ..)), unw_wide r fun x hx => h x (List.mem_cons_of_mem _ hx)]
theorem Cod.inj {cd : Int32} {cs ds bs es : List Int32} (h : Cod cd cs bs) (g : Cod cd ds es) : bs = es ↔ cs = ds := by
  rcases h with ⟨rfl, rfl, h⟩ | ⟨rfl, rfl, h, -⟩ <;> rcases g with ⟨g0, rfl, g⟩ | ⟨g0, rfl, g, -⟩
  · exact ⟨fun e => by rw [← unb8 cs h, ← unb8 ds g, e], fun e => by rw [e]⟩
  · simp at g0
  · simp at g0
  · exact ⟨fun e => by rw [← unw_wide cs h, ← unw_wide ds g, e], fun e => by rw [e]⟩
theorem Cod.apart {cd ce : Int32} {cs ds bs es : List Int32} (h : Cod cd cs bs) (g : Cod ce ds es) (hne : ¬ cd = ce) : ¬ cs = ds := by
  intro e
  subst e
  rcases h with ⟨rfl, -, h⟩ | ⟨rfl, -, -, x, hx, hx2⟩ <;> rcases g with ⟨rfl, -, g⟩ | ⟨rfl, -, -, y, hy, hy2⟩
  · exact hne rfl
  · have := h y hy; omega
  · have := g x hx; omega
  · exact hne rfl
theorem Fld.uniq {Z : State} {h : Heap} {a : Addr} {C f d : String} {v w : Value} (F : Fld Z h a C f d v) (G : Fld Z h a C f d w) : v = w := by
  by_cases q : v = w
  · exact q
  · exact absurd rfl (Fld.ne F G q)
theorem ArI.uniq {Z : State} {h : Heap} {a : Addr} {ty ty' : FieldType} {cs ds : List Int32} (F : ArI Z h a ty cs) (G : ArI Z h a ty' ds) : cs = ds := by
  obtain ⟨c, A, e, -⟩ := F
  obtain ⟨c', A', e', -⟩ := G
  cases A.1.symm.trans A'.1
  have : (cs.map Value.int).toArray = (ds.map Value.int).toArray := e.symm.trans e'
  have := congrArg Array.toList this
  simp at this
  exact (List.map_inj_right (fun x y q => by injection q)).mp this
theorem Str.inj {Z : State} {h : Heap} {a : Addr} {cs ds : List Int32} (F : Str Z h a cs) (G : Str Z h a ds) : cs = ds := by
  obtain ⟨t, cd, bs, -, f2, f3, f4, f5⟩ := F
  obtain ⟨u, ce, es, -, g2, g3, g4, g5⟩ := G
  have e1 := Fld.uniq f2 g2
  have e2 := Fld.uniq f3 g3
  simp only [Value.ref.injEq, Value.int.injEq] at e1 e2
  subst e1 e2
  exact (f5.inj g5).mp (f4.uniq g4)
theorem take_succ_eq {bs es : List Int32} {i : Nat} {x : Int32} (h : bs.take i = es.take i) (h1 : bs[i]? = some x) (h2 : es[i]? = some x) : bs.take (i + 1) = es.take (i + 1) := by
  rw [List.take_add_one, List.take_add_one, h, h1, h2]
theorem eq_int_v {args : Array Value} {s : State} {t : Term} {v : Int32} (h : (Jvm.Cond.eq t (.int v)).value args s none s [] = some true) : t.eval args s none [] s = some (.int v) := by
  simp only [Cond.value, Term.eval] at h
  cases ht : t.eval args s none [] s with
  | none => simp [ht] at h
  | some x => cases x <;> simp [ht] at h ⊢; exact h
theorem ushr31_zero : b8 (XT.ushr (0 : Int32) (31 : Int32)) = 0 := by decide +kernel
theorem ushr_len {n : Nat} (h0 : 0 < n) (h : n < 1000000) : b8 (XT.ushr (n.toInt32 - (2 * n).toInt32) (31 : Int32)) = 1 := by
  have e1 := c_isub n.toInt32 (2 * n).toInt32
  rw [i32_len (by omega), i32_len (by omega)] at e1
  have r := rng32 (n.toInt32 - (2 * n).toInt32)
  have e2 := c_iushr (n.toInt32 - (2 * n).toInt32) 31 31 (by decide) (by decide)
  have e3 : XT.ushr (n.toInt32 - (2 * n).toInt32) 31 = 1 := Int32.toInt_inj.mp (by
    have : (1 : Int32).toInt = 1 := rfl
    unfold XT.ushr
    rw [e2]; omega)
  rw [e3]; rfl
end Jvm.Pilot.@@N@@.Wk
namespace Jvm.Pilot.@@N@@.Wk
open Jvm Jvm.ClassFile Sem Op Lib Jvm.Free Jvm.Stand Jvm.LawKit Jvm.RoadKit Bundle
/-! ### arrays of references; what a case tells of its own objects -/
def ArR (Z : State) (h : Heap) (a : Addr) (ty : FieldType) (vs : List Value) : Prop := ∃ c : Cell, Arr Z h a c ty ∧ c.slots = vs.toArray
theorem ArR.ext {Z : State} {h h' : Heap} {a : Addr} {ty : FieldType} {vs : List Value} (F : ArR Z h a ty vs) (E : Ext h h') : ArR Z h' a ty vs := by obtain ⟨c, A, r⟩ := F; exact ⟨c, A.ext E, r⟩
theorem ArR.keep {Z : State} {h h' : Heap} {a : Addr} {ty : FieldType} {vs : List Value} {ws : List Addr} (F : ArR Z h a ty vs) (K : Keep h h' ws) (q : a ∉ ws) : ArR Z h' a ty vs := by obtain ⟨c, A, r⟩ := F; exact ⟨c, ⟨K.2.1 a c A.1 q, A.2⟩, r⟩
theorem ArR.other {Z : State} {h h' : Heap} {a b : Addr} {ty : FieldType} {vs : List Value} {sl : Nat} {v : Value} (F : ArR Z h b ty vs) (W : Wr h h' a sl v) (q : b ≠ a) : ArR Z h' b ty vs := by obtain ⟨c, A, r⟩ := F; exact ⟨c, A.other W q, r⟩
theorem ArR.gt {Z : State} {h : Heap} {a : Addr} {ty : FieldType} {vs : List Value} (F : ArR Z h a ty vs) : h.size > a := by obtain ⟨c, A, -⟩ := F; exact A.lt
theorem ArR.cast {Z : State} {h : Heap} {a : Addr} {ty : FieldType} {vs vs' : List Value} (F : ArR Z h a ty vs) (e : vs = vs') : ArR Z h a ty vs' := e ▸ F
theorem slots_eq {cl : Cell} {vs : List Value} (hs : cl.slots.size = vs.length) (H : HasL cl 0 vs) : cl.slots = vs.toArray := by
  apply Array.ext_getElem?
  intro i
  by_cases h : i < vs.length
  · have := HasL.at (dv := .null) vs 0 H i h
    rw [Nat.zero_add] at this
    rw [this]; simp [h]
  · rw [Array.getElem?_eq_none (by omega)]; simp; omega
theorem size_of {Z : State} {args : Array Value} {t : Term} {a : Addr} {cl : Cell} {ty : FieldType} {n : Int32} {m : Nat} (ev : t.eval args Z none [] Z = some (.ref a)) (A : Arr Z Z.heap a cl ty) (hl : (Term.length t).eval args Z none [] Z = some (.int n)) (hm : m.toInt32 = n) (hs : m < 1000) : cl.slots.size = m := by
  have h1 : Z.arrayAt? a = some cl := Arr.fin (Vm.Alike.refl _) A
  simp [Term.eval, ev, h1] at hl
  obtain ⟨q1, q2⟩ := hl
  exact (i32_inj (by omega) (by omega)).mp (q2.trans hm.symm)
theorem ArI.ofHas {Z : State} {a : Addr} {cl : Cell} {ty : FieldType} {cs : List Int32} (hf : Fit Z) (A : Arr Z Z.heap a cl ty) (hs : cl.slots.size = cs.length) (hb : cs.length < 1000) (H : HasL cl 0 (cs.map Value.int)) : ArI Z Z.heap a ty cs := by
  refine ⟨cl, A, slots_eq (by simpa using hs) H, fun x hx => ?_⟩
  obtain ⟨i, hi⟩ := List.getElem?_of_mem hx
  have li := lt_of_at hi
  have e : cl.slots = (cs.map Value.int).toArray := slots_eq (by simpa using hs) H
  refine elem_fits (j := i.toInt32) hf A (by rintro (q | q); exact i32_nn (by omega) q; rw [nat_i32 (by omega)] at q; omega) ?_
  rw [nat_i32 (by omega), e]; simp [hi]
theorem eq_ref_v {args : Array Value} {s : State} {t u : Term} {r : Addr} (h : (Jvm.Cond.eq t u).value args s none s [] = some true) (hu : u.eval args s none [] s = some (.ref r)) : t.eval args s none [] s = some (.ref r) := by
  simp only [Cond.value, hu] at h
  cases ht : t.eval args s none [] s with
  | none => simp [ht] at h
  | some x => cases x <;> simp [ht] at h ⊢; exact h
section Heap
variable {B : Cx} {l : Launch} {Z : State} {nar : Bool} {own nm : String} {code : ByteArray} {ml : Nat} {ret : Option FieldType} {R : Room} {h0 : Heap} {ws : List Addr} {fr : Bool} {Q : List Addr → Option Value → Heap → Prop} {Me : List Addr}
variable {h : Heap} {k n : Nat} {M : List Addr} {cl : Cl} {pc pc' : Nat} {L L' : Array Slot} {S S' : List Value} {a0 : Array Value}
theorem W.lenR (ok : Ok B l Z nar own nm code ml ret R h0 ws fr Q Me) {a : Addr} {vs : List Value} {ty : FieldType} (A : ArR Z h a ty vs) (v : Int32) (hv : vs.length.toInt32 = v)
    (hd : decode code pc = .ok (.arraylength, 1)) (hp : pc + 1 = pc') (K : W B h k n M cl pc' L (.int v :: S)) : W B h k n M cl pc L (.ref a :: S) := by
  obtain ⟨c, A, e⟩ := A
  exact W.arraylength ok A v (by rw [e]; simpa using hv) hd hp K
theorem W.aaload (ok : Ok B l Z nar own nm code ml ret R h0 ws fr Q Me) {a : Addr} {vs : List Value} {ty : FieldType} {j : Int32} (A : ArR Z h a ty vs) (hty : ty.isReference = true) (x : Value) (hj : ¬ j < 0) (hx : vs[j.toNatClampNeg]? = some x)
    (hd : decode code pc = .ok (.aaload, 1)) (hp : pc + 1 = pc') (K : W B h k n M cl pc' L (x :: S)) : W B h k n M cl pc L (.int j :: .ref a :: S) := by
  subst hp
  obtain ⟨c, A, e⟩ := A
  have hin : ¬ (j < 0 ∨ c.slots.size ≤ j.toNatClampNeg) := by
    rintro (q | q)
    · exact hj q
    · have := (List.getElem?_eq_some_iff.mp hx).1
      rw [e] at q; simp at q; omega
  refine W.still ok (fun T vm0 locs X hz ho eT hE => ⟨T, X, eT, fun t q => ?_⟩) K
  exact X.aaload ok.x (j := j) (v := x) (by rw [eT]; exact A.1) (State.isArrayOf_alike hz.alike A.2.1) hty A.2.2 hin (by rw [e]; simpa using hx) (g := mkF B.m pc L (.int j :: .ref a :: S)) rfl rfl (hb ok.by_ hd) t q
theorem W.clone (ok : Ok B l Z nar own nm code ml ret R h0 ws fr Q Me) {idx cap : Nat} {ad : String} {a : Addr} {c : Cell} {ty : FieldType} {vs : List Value} (w1 : (Jvm.Cond.methodLink own idx ⟨ad, "clone", "()Ljava/lang/Object;"⟩).before a0 Z = true) (w2 : (Jvm.Cond.sameMethod ad "java/lang/Object" "clone" "()Ljava/lang/Object;").before a0 Z = true) (w3 : (Jvm.Cond.native ⟨"java/lang/Object", "clone", "()Ljava/lang/Object;"⟩).before a0 Z = true)
    (w4 : (Jvm.Cond.instanceMethod ⟨"java/lang/Object", "clone", "()Ljava/lang/Object;"⟩).before a0 Z = true) (w5 : (Jvm.Cond.selects ad ⟨ad, "clone", "()Ljava/lang/Object;"⟩ ⟨"java/lang/Object", "clone", "()Ljava/lang/Object;"⟩).before a0 Z = true) (w6 : (Jvm.Cond.castable ad "java/lang/Cloneable").before a0 Z = true)
    (A : Arr Z h a c ty) (hs : c.slots = vs.toArray) (E : Exa Z h a ad) (F : FitC Z c) (hL : L.size = ml) (hfr : 1 ≤ R.frames) (hlo : (S.map fun v => v.category).sum + 14 ≤ R.locals) (hcap : vs.length ≤ cap) (hc : k + 1 ≤ R.cells) (hn : n + cap ≤ R.slots)
    (hd : decode code pc = .ok (.invokevirtual idx, 3)) (hp : pc + 3 = pc') (K : ∀ (d : Addr) (h' : Heap), h0.size ≤ d → h.size = d → Ext h h' → ArR Z h' d ty vs → Exa Z h' d ad → W B h' (k + 1) (n + cap) (d :: M) cl pc' L (.ref d :: S)) : W B h k n M cl pc L (.ref a :: S) := by
  subst hp
  refine W.heap (Φ := fun h' => h0.size ≤ h.size ∧ Ext h h' ∧ ArR Z h' h.size ty vs ∧ Exa Z h' h.size ad) (k' := k + 1) (n' := n + cap) (M' := h.size :: M) (cl' := cl) (L' := L) (S' := .ref h.size :: S) ok (fun T vm0 locs X hz ho eT hE hsz => ?_) rfl (fun h' ⟨p0, p1, p2, p3⟩ => K _ h' p0 rfl p1 p2 p3)
  have eR := ok.R_
  subst eR
  obtain ⟨T', h', X', e', E', A', Ex, st⟩ := cloneA X ok.x hz ho w1 w2 w3 w4 w5 w6 eT A E F (g := mkF B.m pc L (.ref a :: S)) rfl (by rw [ok.ml_]; exact hL) rfl (hb ok.by_ hd) hfr (W := (S.map fun v => v.category).sum) (by show 2 * 0 + _ ≤ _; omega) hlo (by rw [hs]; simpa using hcap) hc hn
  subst e'
  exact ⟨T', [], by rw [List.append_nil]; exact X', Kept.ext E', fun _ q => (nomatch q), fun q => ⟨q, fun _ q => (nomatch q)⟩, fun x q => (List.mem_cons.mp q).elim (fun q => Or.inr ⟨Nat.le_of_eq q.symm, q ▸ A'.lt⟩) Or.inl, ⟨hsz, E', ⟨_, A', hs⟩, Ex⟩, st⟩
end Heap
end Jvm.Pilot.@@N@@.Wk
namespace Jvm.Pilot.@@N@@.Wk
open Jvm Jvm.ClassFile Sem Op Lib Jvm.Free Jvm.Stand Jvm.LawKit Jvm.RoadKit Bundle
/-! ### more calls: super's methods, private ones, methods found above; arraycopy -/
def NoFace (Z : State) (C : String) : Prop := ∃ c k, Z.vm.findClass C = some c ∧ Z.vm.classes[c]? = some k ∧ k.isInterface = false
theorem NoFace.of {a0 : Array Value} {Z : State} {C : String} {y z : MethodName} (w : (Jvm.Cond.selects C y z).before a0 Z = true) : NoFace Z z.cls := by
  obtain ⟨c2, r2, m2, q1, q2, q3, q4, kP, hkP, hkPi⟩ := Cond.selects_spec w
  exact ⟨_, kP, findClass_of_methodNamed q3, hkP, hkPi⟩
theorem same_own {a0 : Array Value} {Z : State} {y : MethodName} (w : (Jvm.Cond.instanceMethod y).before a0 Z = true) (nf : NoFace Z y.cls) (hy : y.cls ≠ "java/lang/invoke/MethodHandle" ∧ y.cls ≠ "java/lang/invoke/VarHandle") : (Jvm.Cond.sameMethod y.cls y.cls y.name y.desc).before a0 Z = true := by
  obtain ⟨mk, meth, hn, -, -, -⟩ := Cond.instanceMethod_spec w
  obtain ⟨c, k, hc, hk, hi⟩ := nf
  have hf := State.methodFound?_of_named hn hy
  have hn' : Z.methodNamed? ⟨y.cls, y.name, y.desc⟩ = some mk := hn
  simp [Cond.before, Cond.holds, Cond.value, hc, hf, hn', hk, hi]
theorem decl_of {a0 : Array Value} {Z : State} {y : MethodName} {bytes : ByteArray} {maxL : Nat} {ret : Option FieldType} (w : (Jvm.Cond.instanceMethod y).before a0 Z = true) (wc : (Jvm.Cond.code y bytes maxL ret).before a0 Z = true) : (Jvm.Cond.declares y).before a0 Z = true := by
  obtain ⟨mk, meth, hn, hm, hs, -⟩ := Cond.instanceMethod_spec w
  obtain ⟨m2, cM, q1, -, -, -, -, -, -, hsig⟩ := Cond.code_spec hn wc
  cases hm.symm.trans q1
  simp [Cond.before, Cond.holds, Cond.value, hn, hm, hs, hsig]
section Calls
variable {B : Cx} {l : Launch} {Z : State} {nar : Bool} {own nm : String} {code : ByteArray} {ml : Nat} {ret : Option FieldType} {R : Room} {h0 : Heap} {ws : List Addr} {fr : Bool} {Q : List Addr → Option Value → Heap → Prop} {Me : List Addr}
variable {h : Heap} {k n : Nat} {M : List Addr} {cl : Cl} {pc pc' : Nat} {L : Array Slot} {S : List Value} {a0 : Array Value}
variable {idx : Nat} {y : MethodName} {bytes : ByteArray} {maxL : Nat} {ret' : Option FieldType} {rm' : Room} {as' rest : List Value} {ws' : List Addr} {Q' : List Addr → List Addr → Option Value → Heap → Prop} {ps : List FieldType} {r : Option FieldType} {cl' : Cl}
/-- super.y(..) -/
theorem W.callU (ok : Ok B l Z nar own nm code ml ret R h0 ws fr Q Me) {a : Addr} {C0 : String} (nf : NoFace Z y.cls) (hn : y.name ≠ "<init>") (w1 : (Jvm.Cond.methodLink own idx y).before a0 Z = true) (w2 : (Jvm.Cond.instanceMethod y).before a0 Z = true) (w3 : (Jvm.Cond.superclass own y.cls).before a0 Z = true) (wz : (Jvm.Cond.initialized y.cls).before a0 Z = true) (wc : (Jvm.Cond.code y bytes maxL ret').before a0 Z = true) (hy : notMH y.cls)
    (E : Exa Z h a C0) (hds : parseMethodDescriptor y.desc = some ⟨ps, r⟩) (hlen : as'.length = ps.length) (C : Con2 l Z nar y bytes maxL ret' rm' (.ref a :: as') h ws' Q') (hws : ∀ w ∈ ws', w ∈ M ∧ (w ∈ ws ∨ h0.size ≤ w)) (hcl : cl'.1 = true → cl.1 = true ∧ ∀ w ∈ ws', h0.size ≤ w) (hcs : cl'.2 = cl.2) (hL : L.size = ml)
    (hf : rm'.frames + 1 ≤ R.frames) (hlo : (rest.map fun v => v.category).sum + (maxL + 11) + rm'.locals ≤ R.locals) (hcc : k + rm'.cells ≤ R.cells) (hnn : n + rm'.slots ≤ R.slots) (hd : decode code pc = .ok (.invokespecial idx, 3)) (hp : pc + 3 = pc') (hst : S = as'.reverse ++ .ref a :: rest)
    (K : ∀ (N : List Addr) (v : Option Value) (h' : Heap), Q' M N v h' → Keep h h' ws' → W B h' (k + rm'.cells) (n + rm'.slots) (N ++ M) cl' pc' L (v.toList ++ rest)) : W B h k n M cl pc L S := by
  subst hp
  refine W.call (len := 3) ok wc wz C hws hcl hcs hf hlo hcc hnn (fun T vm0 locs X hz ho eT Pre Post hK hpre => ?_) K
  exact RoadKit.superBackS X ok.x hz ho w1 (same_own w2 nf hy) w2 w3 hn hK eT (Ins.self E) (g := mkF B.m pc L S) rfl (by rw [ok.ml_]; exact hL) wc (argsL := as') (rest := rest) (lenOf hds hlen) hst (by show 2 * 0 + _ ≤ _; omega) (hb ok.by_ hd) hpre
/-- invokevirtual of yr, that lands at y; yr's own class declares it -/
theorem W.callW (ok : Ok B l Z nar own nm code ml ret R h0 ws fr Q Me) {a : Addr} {C0 : String} {yr : MethodName} (w1 : (Jvm.Cond.methodLink own idx yr).before a0 Z = true) (w2 : (Jvm.Cond.declares yr).before a0 Z = true) (nf : NoFace Z yr.cls) (w3 : (Jvm.Cond.selects C0 yr y).before a0 Z = true) (w4 : (Jvm.Cond.instanceMethod y).before a0 Z = true) (wz : (Jvm.Cond.initialized y.cls).before a0 Z = true) (wc : (Jvm.Cond.code y bytes maxL ret').before a0 Z = true) (hy : notMH yr.cls)
    (E : Exa Z h a C0) (hds : parseMethodDescriptor yr.desc = some ⟨ps, r⟩) (hlen : as'.length = ps.length) (C : Con2 l Z nar y bytes maxL ret' rm' (.ref a :: as') h ws' Q') (hws : ∀ w ∈ ws', w ∈ M ∧ (w ∈ ws ∨ h0.size ≤ w)) (hcl : cl'.1 = true → cl.1 = true ∧ ∀ w ∈ ws', h0.size ≤ w) (hcs : cl'.2 = cl.2) (hL : L.size = ml)
    (hf : rm'.frames + 1 ≤ R.frames) (hlo : (rest.map fun v => v.category).sum + (maxL + 11) + rm'.locals ≤ R.locals) (hcc : k + rm'.cells ≤ R.cells) (hnn : n + rm'.slots ≤ R.slots) (hd : decode code pc = .ok (.invokevirtual idx, 3)) (hp : pc + 3 = pc') (hst : S = as'.reverse ++ .ref a :: rest)
    (K : ∀ (N : List Addr) (v : Option Value) (h' : Heap), Q' M N v h' → Keep h h' ws' → W B h' (k + rm'.cells) (n + rm'.slots) (N ++ M) cl' pc' L (v.toList ++ rest)) : W B h k n M cl pc L S := by
  subst hp
  refine W.call (len := 3) ok wc wz C hws hcl hcs hf hlo hcc hnn (fun T vm0 locs X hz ho eT Pre Post hK hpre => ?_) K
  obtain ⟨cB, kB, q1, q2, q3⟩ := isOf hz eT E
  refine X.virtualBackS ok.x ho (mv hz w1) (mv hz w2) ?_ (mv hz w3) (mv hz w4) hy hK q1 q3 (g := mkF B.m pc L S) rfl (by rw [ok.ml_]; exact hL) (Steps.refl _) (argsL := as') (rest := rest) (lenOf hds hlen) hst (by show 2 * 0 + _ ≤ _; omega) (hb ok.by_ hd) hpre
  obtain ⟨cc, kk, e1, e2, e3⟩ := nf
  intro r0 h0
  have f1 := findClass_of_methodNamed h0
  have f2 := (hz.alike.findClass _ _).trans e1
  obtain ⟨k', f3, f4⟩ := hz.alike.2.2 _ _ e2
  cases f1.symm.trans f2
  exact ⟨k', f3, by rw [f4]; exact e3⟩
/-- invokevirtual of x, which a class above x.cls (owner) declares -/
theorem W.callX (ok : Ok B l Z nar own nm code ml ret R h0 ws fr Q Me) {a : Addr} {C0 owner : String} {x : MethodName} (w1 : (Jvm.Cond.methodLink own idx x).before a0 Z = true) (w5 : (Jvm.Cond.sameMethod x.cls owner x.name x.desc).before a0 Z = true) (w2 : (Jvm.Cond.declares ⟨owner, x.name, x.desc⟩).before a0 Z = true) (ho' : notMH owner) (w3 : (Jvm.Cond.selects C0 x y).before a0 Z = true) (w4 : (Jvm.Cond.instanceMethod y).before a0 Z = true) (wz : (Jvm.Cond.initialized y.cls).before a0 Z = true) (wc : (Jvm.Cond.code y bytes maxL ret').before a0 Z = true)
    (E : Exa Z h a C0) (hds : parseMethodDescriptor x.desc = some ⟨ps, r⟩) (hlen : as'.length = ps.length) (C : Con2 l Z nar y bytes maxL ret' rm' (.ref a :: as') h ws' Q') (hws : ∀ w ∈ ws', w ∈ M ∧ (w ∈ ws ∨ h0.size ≤ w)) (hcl : cl'.1 = true → cl.1 = true ∧ ∀ w ∈ ws', h0.size ≤ w) (hcs : cl'.2 = cl.2) (hL : L.size = ml)
    (hf : rm'.frames + 1 ≤ R.frames) (hlo : (rest.map fun v => v.category).sum + (maxL + 11) + rm'.locals ≤ R.locals) (hcc : k + rm'.cells ≤ R.cells) (hnn : n + rm'.slots ≤ R.slots) (hd : decode code pc = .ok (.invokevirtual idx, 3)) (hp : pc + 3 = pc') (hst : S = as'.reverse ++ .ref a :: rest)
    (K : ∀ (N : List Addr) (v : Option Value) (h' : Heap), Q' M N v h' → Keep h h' ws' → W B h' (k + rm'.cells) (n + rm'.slots) (N ++ M) cl' pc' L (v.toList ++ rest)) : W B h k n M cl pc L S := by
  subst hp
  refine W.call (len := 3) ok wc wz C hws hcl hcs hf hlo hcc hnn (fun T vm0 locs X hz ho eT Pre Post hK hpre => ?_) K
  obtain ⟨cB, kB, q1, q2, q3⟩ := isOf hz eT E
  exact X.virtualBackUpS ok.x ho (mv hz w1) (mv hz w5) (mv hz w2) ho' (mv hz w3) (mv hz w4) hK q1 q3 (g := mkF B.m pc L S) rfl (by rw [ok.ml_]; exact hL) (Steps.refl _) (argsL := as') (rest := rest) (lenOf hds hlen) hst (by show 2 * 0 + _ ≤ _; omega) (hb ok.by_ hd) hpre
/-- System.arraycopy among arrays of one int-like type -/
theorem W.acopy (ok : Ok B l Z nar own nm code ml ret R h0 ws fr Q Me) {a b : Addr} {ty : FieldType} {xs ds : List Int32} {sp dp nn : Nat} {cl' : Cl} (w1 : (Jvm.Cond.methodLink own idx Jvm.Stand.acN).before a0 Z = true) (w2 : (Jvm.Cond.native Jvm.Stand.acN).before a0 Z = true) (w3 : (Jvm.Cond.static Jvm.Stand.acN).before a0 Z = true) (w4 : (Jvm.Cond.initialized "java/lang/System").before a0 Z = true)
    (A : ArI Z h a ty xs) (D : ArI Z h b ty ds) (hty : refKind ty = false) (h1 : sp + nn ≤ xs.length) (h2 : dp + nn ≤ ds.length) (h3 : xs.length < 2147483648) (h4 : ds.length < 2147483648) (ha : b ∈ M) (hw : b ∈ ws ∨ h0.size ≤ b) (hcl : cl'.1 = true → cl.1 = true ∧ h0.size ≤ b) (hcs : cl'.2 = cl.2) (hL : L.size = ml)
    (hfr : 1 ≤ R.frames) (hlo : (S.map fun v => v.category).sum + 18 ≤ R.locals) (hd : decode code pc = .ok (.invokestatic idx, 3)) (hp : pc + 3 = pc')
    (K : ∀ h' : Heap, Keep h h' [b] → ArI Z h' b ty (ds.take dp ++ (xs.drop sp).take nn ++ ds.drop (dp + nn)) → W B h' k n M cl' pc' L S) : W B h k n M cl pc L (.int nn.toInt32 :: .int dp.toInt32 :: .ref b :: .int sp.toInt32 :: .ref a :: S) := by
  subst hp
  refine W.heap (Φ := fun h' => Keep h h' [b] ∧ ArI Z h' b ty (ds.take dp ++ (xs.drop sp).take nn ++ ds.drop (dp + nn))) (k' := k) (n' := n) (M' := M) (cl' := cl') (L' := L) (S' := S) ok (fun T vm0 locs X hz ho eT hE hsz => ?_) hcs (fun h' q => K h' q.1 q.2)
  have eR := ok.R_
  subst eR
  obtain ⟨cs, As, es, fs⟩ := A
  obtain ⟨cd, Ad, ed, fd⟩ := D
  obtain ⟨os, ks, hks, sc, hsk⟩ := State.isArrayOf_alike hz.alike As.2.1
  obtain ⟨od, kd, hkd, dc, hdk⟩ := State.isArrayOf_alike hz.alike Ad.2.1
  have ssz : cs.slots.size = xs.length := by rw [es]; simp
  have dsz : cd.slots.size = ds.length := by rw [ed]; simp
  have n1 : (sp.toInt32).toNatClampNeg = sp := nat_i32 (by omega)
  have n2 : (dp.toInt32).toNatClampNeg = dp := nat_i32 (by omega)
  have n3 : (nn.toInt32).toNatClampNeg = nn := nat_i32 (by omega)
  have gv : ∀ i, i < nn → ∃ x, xs[sp + i]? = some x ∧ cs.slots.getD (sp + i) .null = .int x := fun i hi => by
    obtain ⟨x, hx⟩ := at_lt (cs := xs) (i := sp + i) (by omega)
    exact ⟨x, hx, by rw [Array.getD_eq_getD_getElem?, es]; simp [hx]⟩
  obtain ⟨vm₁, hW₁, X', st⟩ := X.arraycopyK ok.x ho (mv hz w1) (mv hz w2) (mv hz w3) (mv hz w4) (src := a) (dst := b) (srcPos := sp.toInt32) (destPos := dp.toInt32) (n := nn.toInt32) (by rw [eT]; exact As.1) (by rw [eT]; exact Ad.1) os od As.2.2 Ad.2.2 hks hkd hsk hdk
    (by simp [hty]) (i32_nn (by omega)) (i32_nn (by omega)) (i32_nn (by omega)) (by rw [i32_len (by omega), i32_len (by omega), ssz]; omega) (by rw [i32_len (by omega), i32_len (by omega), dsz]; omega)
    (fun vm₁ hw i hi => by
      rw [n3] at hi; rw [n1]
      obtain ⟨x, hx, e⟩ := gv i hi
      rw [e]; exact ⟨fs x (List.mem_of_getElem? hx), trivial⟩) (g := mkF B.m pc L (.int nn.toInt32 :: .int dp.toInt32 :: .ref b :: .int sp.toInt32 :: .ref a :: S)) rfl (by rw [ok.ml_]; exact hL) rfl (hb ok.by_ hd) hfr (by show 2 * 0 + _ + 18 ≤ _; omega)
  have hbl : b < h.size := Ad.lt
  have cf : (copied cs cd sp.toInt32 dp.toInt32 nn.toInt32).cls = cd.cls ∧ (copied cs cd sp.toInt32 dp.toInt32 nn.toInt32).vm = cd.vm ∧ (copied cs cd sp.toInt32 dp.toInt32 nn.toInt32).slots.size = cd.slots.size := let q := cd.storeRun_facts dp.toInt32.toNatClampNeg (cs.stretch sp.toInt32.toNatClampNeg nn.toInt32.toNatClampNeg); ⟨q.1, q.2.1, q.2.2.1⟩
  have eh : ((T.setVm vm₁).setCell b (copied cs cd sp.toInt32 dp.toInt32 nn.toInt32)).heap = h.setIfInBounds b (copied cs cd sp.toInt32 dp.toInt32 nn.toInt32) := by rw [← eT]; rfl
  have kp : Keep h (h.setIfInBounds b (copied cs cd sp.toInt32 dp.toInt32 nn.toInt32)) [b] := by
    refine ⟨by simp, fun x c q r => ?_, fun x c q => ?_⟩
    · have : b ≠ x := fun z => r (by simp [z])
      rw [Array.getElem?_setIfInBounds_ne this]; exact q
    · by_cases u : b = x
      · subst u; cases Ad.1.symm.trans q
        exact ⟨_, by rw [Array.getElem?_setIfInBounds_self_of_lt hbl], cf.1, cf.2.1, cf.2.2⟩
      · exact ⟨c, by rw [Array.getElem?_setIfInBounds_ne u]; exact q, rfl, rfl, rfl⟩
  have esl : (copied cs cd sp.toInt32 dp.toInt32 nn.toInt32).slots = ((ds.take dp ++ (xs.drop sp).take nn ++ ds.drop (dp + nn)).map Value.int).toArray := by
    apply Array.ext_getElem?
    intro j
    show (cd.storeRun dp.toInt32.toNatClampNeg (cs.stretch sp.toInt32.toNatClampNeg nn.toInt32.toNatClampNeg)).slots[j]? = _
    rw [n1, n2, n3, Cell.storeRun_get _ _ _ _ (by rw [Cell.stretch_length, dsz]; omega), Cell.stretch_length]
    have l1 : (ds.take dp).length = dp := by rw [List.length_take]; omega
    have l2 : ((xs.drop sp).take nn).length = nn := by rw [List.length_take, List.length_drop]; omega
    simp only [List.map_append, List.map_take, List.map_drop, List.getElem?_toArray]
    by_cases c1 : j < dp
    · rw [if_neg (by omega), List.append_assoc, List.getElem?_append_left (by simp; omega), List.getElem?_take_of_lt c1, ed]; simp
    · by_cases c2 : j < dp + nn
      · rw [if_pos ⟨by omega, c2⟩, List.getElem?_append_left (by simp; omega), List.getElem?_append_right (by simp; omega)]
        obtain ⟨x, hx, e⟩ := gv (j - dp) (by omega)
        have e1 : (cs.stretch sp nn)[j - dp]? = some (.int x) := by rw [Array.getD_eq_getD_getElem?] at e; simp [Cell.stretch, show j - dp < nn by omega, e]
        rw [e1]
        have l3 : (List.take dp (List.map Value.int ds)).length = dp := by rw [List.length_take, List.length_map]; omega
        rw [l3, List.getElem?_take_of_lt (by omega), List.getElem?_drop, List.getElem?_map, hx]; rfl
      · have l3 : (List.take dp (List.map Value.int ds) ++ List.take nn (List.drop sp (List.map Value.int xs))).length = dp + nn := by simp; omega
        rw [if_neg (by omega), List.getElem?_append_right (by rw [l3]; omega), l3, List.getElem?_drop, show dp + nn + (j - (dp + nn)) = j by omega, ed]; simp
  have isA : Z.isArrayOf (copied cs cd sp.toInt32 dp.toInt32 nn.toInt32) ty := by
    have := Ad.2.1; unfold State.isArrayOf at this ⊢; rw [cf.1, cf.2.1]; exact this
  have fall : ∀ x ∈ ds.take dp ++ (xs.drop sp).take nn ++ ds.drop (dp + nn), fits ty (.int x) = true := fun x hx => by
    rcases List.mem_append.mp hx with q | q
    · rcases List.mem_append.mp q with q | q
      · exact fd x (List.mem_of_mem_take q)
      · exact fs x (List.mem_of_mem_drop (List.mem_of_mem_take q))
    · exact fd x (List.mem_of_mem_drop q)
  refine ⟨_, _, X', by rw [eh]; exact Kept.keep kp (fun w q => by cases List.mem_singleton.mp q; exact ha), fun y hy => ?_, fun q => ⟨(hcl q).1, fun y hy => ?_⟩, fun x q => Or.inl q, eh ▸ ⟨kp, copied cs cd sp.toInt32 dp.toInt32 nn.toInt32, ⟨by rw [Array.getElem?_setIfInBounds_self_of_lt hbl], isA, by rw [cf.2.1]; exact Ad.2.2⟩, esl, fall⟩, st⟩
  · rw [copyLocs_base hy]; exact hw
  · rw [copyLocs_base hy]; exact (hcl q).2
end Calls
end Jvm.Pilot.@@N@@.Wk
namespace Jvm.Pilot.@@N@@.Wk
open Jvm Jvm.ClassFile Sem Op Lib Jvm.Free Jvm.Stand Jvm.LawKit Jvm.RoadKit Bundle
/-! ### a StringBuilder: its text (all below 256, coder 0), the bytes behind it -/
abbrev SBC : String := "java/lang/StringBuilder"
abbrev ASB : String := "java/lang/AbstractStringBuilder"
def SBd (Z : State) (h : Heap) (a t : Addr) (cs bs : List Int32) : Prop :=
  Exa Z h a SBC ∧ Fld Z h a ASB "value" "[B" (.ref t) ∧ Fld Z h a ASB "coder" "B" (.int 0) ∧ Fld Z h a ASB "count" "I" (.int cs.length.toInt32) ∧ ArI Z h t .byte (cs.map b8 ++ bs) ∧ ∀ c ∈ cs, 0 ≤ c.toInt ∧ c.toInt ≤ 255
theorem SBd.ext {Z : State} {h h' : Heap} {a t : Addr} {cs bs : List Int32} (F : SBd Z h a t cs bs) (E : Ext h h') : SBd Z h' a t cs bs := by
  obtain ⟨q1, q2, q3, q4, q5, q6⟩ := F
  exact ⟨q1.ext E, q2.ext E, q3.ext E, q4.ext E, q5.ext E, q6⟩
theorem SBd.cast {Z : State} {h : Heap} {a t : Addr} {cs bs cs' bs' : List Int32} (F : SBd Z h a t cs bs) (e : cs = cs') (e' : bs = bs') : SBd Z h a t cs' bs' := e ▸ e' ▸ F
theorem SBd.exa {Z : State} {h : Heap} {a t : Addr} {cs bs : List Int32} (F : SBd Z h a t cs bs) : Exa Z h a SBC := F.1
theorem SBd.ga {Z : State} {h : Heap} {a t : Addr} {cs bs : List Int32} (F : SBd Z h a t cs bs) : h.size > a := gtE F.1
theorem SBd.gt {Z : State} {h : Heap} {a t : Addr} {cs bs : List Int32} (F : SBd Z h a t cs bs) : h.size > t := F.2.2.2.2.1.gt
theorem Str.rng {Z : State} {h : Heap} {a : Addr} {cs : List Int32} (F : Str Z h a cs) : ∀ c ∈ cs, 0 ≤ c.toInt ∧ c.toInt ≤ 65535 := by obtain ⟨t, cd, bs, -, -, -, -, q⟩ := F; exact q.rng
theorem lay_sb (cs bs ds : List Int32) (h : ds.length ≤ bs.length) : (cs.map b8 ++ bs).take cs.length ++ ds.map b8 ++ (cs.map b8 ++ bs).drop (cs.length + ds.length) = (cs ++ ds).map b8 ++ bs.drop ds.length := by
  have e1 : (cs.map b8).length = cs.length := by simp
  rw [← e1, List.take_left, List.drop_append, List.drop_of_length_le (by omega), Nat.add_sub_cancel_left, List.map_append]; simp
theorem i32_add {a b : Nat} : a.toInt32 + b.toInt32 = (a + b).toInt32 := by
  simp [Nat.toInt32]
theorem i32_sub {a b : Nat} (h : b ≤ a) (ha : a < 2147483648) : a.toInt32 - b.toInt32 = (a - b).toInt32 := by
  apply Int32.toInt_inj.mp
  have h1 := c_isub a.toInt32 b.toInt32
  have h2 := i32_len (n := a) ha
  have h3 := i32_len (n := b) (by omega)
  have h4 := i32_len (n := a - b) (by omega)
  have := rng32 (a.toInt32 - b.toInt32)
  omega
theorem i32_le {a b : Nat} (ha : a < 2147483648) (hb : b < 2147483648) (h : a ≤ b) : ¬ 0 < a.toInt32 - b.toInt32 := by
  rw [Int32.lt_iff_toInt_lt]
  have h1 := c_isub a.toInt32 b.toInt32
  have h2 := i32_len (n := a) ha
  have h3 := i32_len (n := b) hb
  have h4 := rng32 (a.toInt32 - b.toInt32)
  have : (0 : Int32).toInt = 0 := rfl
  omega
theorem narV {t : FieldType} {v : Value} (ht : t.isReference = true) (hv : v.isRef = true) : narrow t v = v := by
  cases v <;> simp [Value.isRef] at hv <;> cases t <;> simp [FieldType.isReference] at ht <;> rfl
theorem fitV {t : FieldType} {v : Value} (ht : t.isReference = true) (hv : v.isRef = true) : fits t v = true := by
  cases v <;> simp [Value.isRef] at hv <;> cases t <;> simp [FieldType.isReference] at ht <;> rfl
theorem i32_add2 (a : Nat) : a.toInt32 + 2 = (a + 2).toInt32 := i32_add (a := a) (b := 2)
theorem i32_add3 (a : Nat) : a.toInt32 + 3 = (a + 3).toInt32 := i32_add (a := a) (b := 3)
theorem at_mid {A B D L : List Int32} {i : Nat} (e : L = A ++ (B ++ D)) (hi : i = A.length) : ∀ (j : Nat) (c : Int32), B[j]? = some c → L[i + j]? = some c := by
  subst e; subst hi
  intro j c hc
  rw [List.getElem?_append_right (by omega), Nat.add_sub_cancel_left, List.getElem?_append_left (lt_of_at hc)]; exact hc
theorem shl0 (x : Int32) : x <<< ((0 : Int32) &&& 31) = x := Int32.toInt_inj.mp (by have := c_ishl x 0 0 (by decide); have := rng32 (x <<< ((0 : Int32) &&& 31)); have := rng32 x; omega)
end Jvm.Pilot.@@N@@.Wk
namespace Jvm.Pilot.@@N@@.Wk
open Jvm Jvm.ClassFile Sem Op Lib Jvm.Free Jvm.Stand Jvm.LawKit Jvm.RoadKit Bundle
/-! ### lookupswitch; a StringBuilder of any text -/
section Sw
variable {B : Cx} {l : Launch} {Z : State} {nar : Bool} {own nm : String} {code : ByteArray} {ml : Nat} {ret : Option FieldType} {R : Room} {h0 : Heap} {ws : List Addr} {fr : Bool} {Q : List Addr → Option Value → Heap → Prop} {Me : List Addr}
variable {h : Heap} {k n : Nat} {M : List Addr} {cl : Cl} {pc pc' : Nat} {L : Array Slot} {S : List Value}
theorem W.lsHit (ok : Ok B l Z nar own nm code ml ret R h0 ws fr Q Me) {x : Int32} {default a off : Int} {pairs : Array (Int × Int)} {len : Nat} (hd : decode code pc = .ok (.lookupswitch default pairs, len)) (hs : (pairs.toList.zip (pairs.toList.drop 1)).all (fun (a, next) => a.1 < next.1) = true)
    (hf : pairs.find? (·.1 == x.toInt) = some (a, off)) (ho : 0 ≤ (pc : Int) + off) (hj : ((pc : Int) + off).toNat = pc') (K : W B h k n M cl pc' L S) : W B h k n M cl pc L (.int x :: S) := by
  subst hj
  refine W.still ok (fun T vm0 locs X hz ho' eT hE => ⟨T, X, eT, fun t q => ?_⟩) K
  exact X.lookupswitchHit ok.x (g := mkF B.m pc L (.int x :: S)) rfl rfl (hb ok.by_ hd) hs hf ho t q
theorem W.lsMiss (ok : Ok B l Z nar own nm code ml ret R h0 ws fr Q Me) {x : Int32} {default : Int} {pairs : Array (Int × Int)} {len : Nat} (hd : decode code pc = .ok (.lookupswitch default pairs, len)) (hs : (pairs.toList.zip (pairs.toList.drop 1)).all (fun (a, next) => a.1 < next.1) = true)
    (hf : pairs.find? (·.1 == x.toInt) = none) (ho : 0 ≤ (pc : Int) + default) (hj : ((pc : Int) + default).toNat = pc') (K : W B h k n M cl pc' L S) : W B h k n M cl pc L (.int x :: S) := by
  subst hj
  refine W.still ok (fun T vm0 locs X hz ho' eT hE => ⟨T, X, eT, fun t q => ?_⟩) K
  exact X.lookupswitchMiss ok.x (g := mkF B.m pc L (.int x :: S)) rfl rfl (hb ok.by_ hd) hs hf ho t q
theorem FitC.ofI {Z : State} {h : Heap} {a : Addr} {c : Cell} {ty : FieldType} {xs : List Int32} (A : Arr Z h a c ty) (e : c.slots = (xs.map Value.int).toArray) (f : ∀ x ∈ xs, fits ty (.int x) = true) : FitC Z c := fun i v hv => by
  obtain ⟨hs, kc, hk, comp, hkind⟩ := A.2.1
  rw [e] at hv
  simp at hv
  obtain ⟨x, hx, rfl⟩ := hv
  have := f x (List.mem_of_getElem? hx)
  simpa [State.fitsSlot, State.slotType?, hk, hkind] using this
theorem W.newBE {a0 : Array Value} (ok : Ok B l Z nar own nm code ml ret R h0 ws fr Q Me) (w : (Jvm.Cond.arrayClass .byte).before a0 Z = true) {z : Int32} {cap : Nat} (hz0 : ¬ z < 0) (hcap : z.toNatClampNeg ≤ cap) (hb8 : cap * 8 ≤ 536870912)
    (hd : decode code pc = .ok (.newarray .byte, 2)) (hp : pc + 2 = pc') (hc : k + 1 ≤ R.cells) (hn : n + cap ≤ R.slots)
    (K : ∀ (a : Addr) (h' : Heap), h0.size ≤ a → h.size = a → Ext h h' → ArI Z h' a .byte (List.replicate z.toNatClampNeg 0) → Exa Z h' a "[B" → W B h' (k + 1) (n + cap) (a :: M) cl pc' L (.ref a :: S)) : W B h k n M cl pc L (.int z :: S) := by
  subst hp
  refine W.heap (Φ := fun h' => h0.size ≤ h.size ∧ Ext h h' ∧ (∃ cA, Arr Z h' h.size (newA cA .byte z) .byte) ∧ Exa Z h' h.size "[B") (k' := k + 1) (n' := n + cap) (M' := h.size :: M) (cl' := cl) (L' := L) (S' := .ref h.size :: S) ok (fun T vm0 locs X hz ho eT hE hsz => ?_) rfl (fun h' ⟨p0, p1, ⟨cA, p2⟩, p3⟩ => K _ h' p0 rfl p1 (ArI.new p2 rfl rfl) p3)
  have eR := ok.R_
  subst eR
  obtain ⟨T', h', cA, X', e', E', A', Ex, st⟩ := newPE X ok.x hz (aty := .byte) w eT (g := mkF B.m pc L (.int z :: S)) rfl (hb ok.by_ hd) rfl hz0 hcap hb8 hc hn (ad := "[B") rfl
  subst e'
  exact ⟨T', [], by rw [List.append_nil]; exact X', Kept.ext E', fun _ q => (nomatch q), fun q => ⟨q, fun _ q => (nomatch q)⟩, fun x q => (List.mem_cons.mp q).elim (fun q => Or.inr ⟨Nat.le_of_eq q.symm, q ▸ A'.lt⟩) Or.inl, ⟨hsz, E', ⟨cA, A'⟩, Ex⟩, st⟩
theorem W.cloneI {a0 : Array Value} (ok : Ok B l Z nar own nm code ml ret R h0 ws fr Q Me) {idx cap : Nat} {ad : String} {a : Addr} {ty : FieldType} {xs : List Int32} (w1 : (Jvm.Cond.methodLink own idx ⟨ad, "clone", "()Ljava/lang/Object;"⟩).before a0 Z = true) (w2 : (Jvm.Cond.sameMethod ad "java/lang/Object" "clone" "()Ljava/lang/Object;").before a0 Z = true) (w3 : (Jvm.Cond.native ⟨"java/lang/Object", "clone", "()Ljava/lang/Object;"⟩).before a0 Z = true)
    (w4 : (Jvm.Cond.instanceMethod ⟨"java/lang/Object", "clone", "()Ljava/lang/Object;"⟩).before a0 Z = true) (w5 : (Jvm.Cond.selects ad ⟨ad, "clone", "()Ljava/lang/Object;"⟩ ⟨"java/lang/Object", "clone", "()Ljava/lang/Object;"⟩).before a0 Z = true) (w6 : (Jvm.Cond.castable ad "java/lang/Cloneable").before a0 Z = true)
    (A : ArI Z h a ty xs) (E : Exa Z h a ad) (hL : L.size = ml) (hfr : 1 ≤ R.frames) (hlo : (S.map fun v => v.category).sum + 14 ≤ R.locals) (hcap : xs.length ≤ cap) (hc : k + 1 ≤ R.cells) (hn : n + cap ≤ R.slots)
    (hd : decode code pc = .ok (.invokevirtual idx, 3)) (hp : pc + 3 = pc') (K : ∀ (d : Addr) (h' : Heap), h0.size ≤ d → h.size = d → Ext h h' → ArI Z h' d ty xs → Exa Z h' d ad → W B h' (k + 1) (n + cap) (d :: M) cl pc' L (.ref d :: S)) : W B h k n M cl pc L (.ref a :: S) := by
  obtain ⟨c, A1, e, f⟩ := A
  refine W.clone ok w1 w2 w3 w4 w5 w6 (vs := xs.map Value.int) A1 e E (FitC.ofI A1 e f) hL hfr hlo (by simpa using hcap) hc hn hd hp (fun d h' p0 p1 p2 p3 p4 => K d h' p0 p1 p2 ?_ p4)
  obtain ⟨c', q1, q2⟩ := p3
  exact ⟨c', q1, q2, f⟩
end Sw
/-- a builder, raw: its array's bytes -/
def SBr (Z : State) (h : Heap) (a t : Addr) (cd : Int32) (n : Nat) (xs : List Int32) : Prop :=
  Exa Z h a SBC ∧ Fld Z h a ASB "value" "[B" (.ref t) ∧ Fld Z h a ASB "coder" "B" (.int cd) ∧ Fld Z h a ASB "maybeLatin1" "Z" (.int 0) ∧ Fld Z h a ASB "count" "I" (.int n.toInt32) ∧ ArI Z h t .byte xs ∧ Exa Z h t "[B"
/-- the array's length is the capacity's, by the coder -/
def CapOf (cd : Int32) (len cap : Nat) : Prop := (cd = 0 ∧ len = cap) ∨ (cd = 1 ∧ len = 2 * cap)
def SBG (Z : State) (h : Heap) (a t : Addr) (cs : List Int32) (cap : Nat) : Prop := ∃ (cd : Int32) (es bs : List Int32), SBr Z h a t cd cs.length (es ++ bs) ∧ Cod cd cs es ∧ CapOf cd (es ++ bs).length cap
theorem SBr.ext {Z : State} {h h' : Heap} {a t : Addr} {cd : Int32} {n : Nat} {xs : List Int32} (F : SBr Z h a t cd n xs) (E : Ext h h') : SBr Z h' a t cd n xs := by
  obtain ⟨q1, q2, q3, q4, q5, q6, q7⟩ := F
  exact ⟨q1.ext E, q2.ext E, q3.ext E, q4.ext E, q5.ext E, q6.ext E, q7.ext E⟩
theorem SBG.ext {Z : State} {h h' : Heap} {a t : Addr} {cs : List Int32} {cap : Nat} (F : SBG Z h a t cs cap) (E : Ext h h') : SBG Z h' a t cs cap := by
  obtain ⟨cd, es, bs, q1, q2⟩ := F
  exact ⟨cd, es, bs, q1.ext E, q2⟩
theorem SBG.exa {Z : State} {h : Heap} {a t : Addr} {cs : List Int32} {cap : Nat} (F : SBG Z h a t cs cap) : Exa Z h a SBC := by obtain ⟨cd, es, bs, q1, q2⟩ := F; exact q1.1
theorem SBG.ga {Z : State} {h : Heap} {a t : Addr} {cs : List Int32} {cap : Nat} (F : SBG Z h a t cs cap) : h.size > a := gtE F.exa
theorem SBG.gt {Z : State} {h : Heap} {a t : Addr} {cs : List Int32} {cap : Nat} (F : SBG Z h a t cs cap) : h.size > t := by obtain ⟨cd, es, bs, q1, q2⟩ := F; exact q1.2.2.2.2.2.1.gt
theorem Cod.ln {cd : Int32} {cs es : List Int32} (h : Cod cd cs es) : CapOf cd es.length cs.length := by
  rcases h with ⟨rfl, rfl, -⟩ | ⟨rfl, rfl, -⟩
  · exact Or.inl ⟨rfl, by simp⟩
  · exact Or.inr ⟨rfl, wide_length _⟩
theorem set2 (P rs : List Int32) (x y u v : Int32) : ((P ++ x :: y :: rs).set P.length u).set (P.length + 1) v = (P ++ [u, v]) ++ rs := by
  rw [List.set_append_right _ _ (Nat.le_refl _), Nat.sub_self, List.set_cons_zero, List.set_append_right _ _ (by omega), Nat.add_sub_cancel_left]; simp
theorem set1 (P rs : List Int32) (x u : Int32) : (P ++ x :: rs).set P.length u = (P ++ [u]) ++ rs := by
  rw [List.set_append_right _ _ (Nat.le_refl _), Nat.sub_self, List.set_cons_zero]; simp
theorem wide_one (cs : List Int32) (c : Int32) : wide (cs ++ [c]) = wide cs ++ [b8 c, b8 (c >>> ((8 : Int32) &&& 31))] := by rw [wide_app]; rfl
theorem ex1 {xs : List Int32} (h : 1 ≤ xs.length) : ∃ z zs, xs = z :: zs := by
  match xs, h with
  | z :: zs, _ => exact ⟨z, zs, rfl⟩
theorem ex2 {xs : List Int32} (h : 2 ≤ xs.length) : ∃ z y zs, xs = z :: y :: zs := by
  match xs, h with
  | [], q => exact absurd q (by simp)
  | [_], q => exact absurd q (by simp)
  | z :: y :: zs, _ => exact ⟨z, y, zs, rfl⟩
theorem wide_snoc {cs : List Int32} {i : Nat} {c : Int32} (h : cs[i]? = some c) : wide (cs.take (i + 1)) = wide (cs.take i) ++ [b8 c, b8 (c >>> ((8 : Int32) &&& 31))] := by
  rw [List.take_add_one, h, wide_app]; rfl
theorem or_nn {x y : Int32} (hx : 0 ≤ x.toInt) (hy : 0 ≤ y.toInt) : 0 ≤ (x ||| y).toInt := by
  have e : ∀ z : Int32, 0 ≤ z.toInt ↔ z.toBitVec.msb = false := fun z => by
    have := BitVec.toInt_neg_iff (x := z.toBitVec)
    have h2 := BitVec.msb_eq_toInt (x := z.toBitVec)
    rw [h2]; simp
  rw [e] at *
  show (x.toBitVec ||| y.toBitVec).msb = false
  rw [BitVec.msb_or, hx, hy]; rfl
theorem shl1_nat {n : Nat} (h : n < 1000000) : n.toInt32 <<< ((1 : Int32) &&& 31) = (2 * n).toInt32 := Int32.toInt_inj.mp (by have := shl1 n.toInt32; have := i32_len (n := n) (by omega); have := i32_len (n := 2 * n) (by omega); have := rng32 (n.toInt32 <<< ((1 : Int32) &&& 31)); omega)
theorem shr1_nat {n : Nat} (h : n < 1000000) : (2 * n).toInt32 >>> ((1 : Int32) &&& 31) = n.toInt32 := Int32.toInt_inj.mp (by have := shr1 (2 * n).toInt32; have := i32_len (n := n) (by omega); have := i32_len (n := 2 * n) (by omega); omega)
theorem i32_add4 (a : Nat) : a.toInt32 + 4 = (a + 4).toInt32 := i32_add (a := a) (b := 4)
theorem CapOf.grow0 {m c : Nat} (h : c < m) : c + max (m - c) (c + 2) = max m (2 * c + 2) := by omega
theorem CapOf.grow1 {m c : Nat} (h : c < m) : 2 * c + max (2 * m - 2 * c) (2 * c + 4) = 2 * max m (2 * c + 2) := by omega
theorem Str.keepA {Z : State} {h h' : Heap} {s a : Addr} {cs : List Int32} {C : String} {a0 : Array Value} {k : Nat} (F : Str Z h s cs) (E : Exa Z h a C) (hC : ST ≠ C) (wi : (Cond.instantiable C k).before a0 Z = true) (K : Keep h h' [a]) : Str Z h' s cs := by
  obtain ⟨u, cd, bs, q1, q2, q3, q4, q5⟩ := F
  have n1 : s ∉ [a] := by simp; exact Exa.ne q1 E hC
  exact ⟨u, cd, bs, q1.keep K, q2.keep K n1, q3.keep K n1, q4.keep K (by simp; exact Ne.symm (Exa.neArI E wi q4)), q5⟩
theorem Str.neT {Z : State} {h h' : Heap} {s a t t1 : Addr} {cs : List Int32} {C : String} (F : Str Z h s cs) (E : Exa Z h a C) (hC : ST ≠ C) (K : Keep h h' [a]) (hut : ∀ u, Fld Z h s ST "value" "[B" (.ref u) → u ≠ t) (ht : t1 = t ∨ h.size ≤ t1) : ∀ u, Fld Z h' s ST "value" "[B" (.ref u) → u ≠ t1 := by
  obtain ⟨u0, cd, bs, q1, q2, q3, q4, q5⟩ := F
  have n1 : s ∉ [a] := by simp; exact Exa.ne q1 E hC
  intro u f e
  have := Fld.uniq (q2.keep K n1) f
  injection this with this
  subst this; subst e
  rcases ht with e | e
  · exact hut _ q2 e
  · have := q4.gt; omega
theorem StrM.ne {Z : State} {h : Heap} {M : List Addr} {s t : Addr} {cs : List Int32} (F : StrM Z h M s cs) (ht : t ∈ M) : ∀ u, Fld Z h s ST "value" "[B" (.ref u) → u ≠ t := by
  obtain ⟨u, cd, bs, q1, q2, q3, q4, -⟩ := F
  intro u' f e
  have := Fld.uniq q4 f
  injection this with this
  subst e; subst this
  exact q2 ht
end Jvm.Pilot.@@N@@.Wk
namespace Jvm.Pilot.@@N@@.Wk
open Jvm Jvm.ClassFile Sem Op Lib Jvm.Free Jvm.Stand Jvm.LawKit Jvm.RoadKit Bundle Jvm.Free.SB Jvm.Free.SBG
/-! ### a String constant of which nothing is told -/
section LdcU
variable {B : Cx} {l : Launch} {Z : State} {nar : Bool} {own nm : String} {code : ByteArray} {ml : Nat} {ret : Option FieldType} {R : Room} {h0 : Heap} {ws : List Addr} {fr : Bool} {Q : List Addr → Option Value → Heap → Prop} {Me : List Addr}
variable {h : Heap} {k n : Nat} {M : List Addr} {cl : Cl} {pc pc' : Nat} {L : Array Slot} {S : List Value} {a0 : Array Value}
theorem W.ldcU (ok : Ok B l Z nar own nm code ml ret R h0 ws fr Q Me) (hnar : nar = false) {idx : Nat} {text : String} (w : (Jvm.Cond.stringLink own idx text).before a0 Z = true) (wS : ∀ a ∈ Bundle.stringAtoms, a.before a0 Z = true)
    (ht : ∀ c ∈ text.toList, c.toNat < 256) (hcl : cl.1 = true ∨ (own, idx) ∈ cl.2) {sz : Nat} (hsz : 4 * text.toList.length ≤ sz) (hbig : sz ≤ 536870912) (hd : decode code pc = .ok (.ldc idx, 2)) (hp : pc + 2 = pc') (hc : k + 2 ≤ R.cells) (hn : n + (sz + 4) ≤ R.slots)
    (K : ∀ (a : Addr) (h' : Heap), Ext h h' → W B h' (k + 2) (n + (sz + 4)) M (cl.1, (own, idx) :: cl.2) pc' L (.ref a :: S)) : W B h k n M cl pc L S := by
  subst hp
  intro T P
  obtain ⟨vm0, k0, locs, X, hS, hk0, hnr, hL, hcl', hlt, eT, bg⟩ := P
  have eZ := ok.Z_
  have eR := ok.R_
  rw [eZ] at bg
  have hz : Z.Warmed39 T.vm := bg.1
  have hal : Z.vm.Alike T.vm := hz.alike
  have X1 : Stand B.p B.l B.e B.R (B.s.setVm T.vm) B.m B.args B.below B.meth B.c T locs k n := X.retabled X.warmed.wide
  have hS1 : B.s.Since T.vm T.heap.size := hS.trans (X.warmed.since _) hk0
  have hown : (B.s.setVm T.vm).vm.findClass own = some B.m.cls := (hS1.1.alike.findClass _ _).trans ok.own_
  have wl : (Jvm.Cond.stringLink own idx text).before B.args (B.s.setVm T.vm) = true := mvS hz w
  obtain ⟨k1, cf, i, units, hk1, hcf, hcp, hu, hnm, htext, hres⟩ := Cond.stringLink_spec hown wl
  have hlat := Jvm.ClassFile.lat_of_text htext ht
  have q2 : k1.cf.bind (namesOf? ·.constantPool idx) = some (.string text) := by rw [hcf]; exact hnm
  have q3 : k1.cf.bind (·.constantPool[idx]?) = some (.string i) := by rw [hcf]; exact hcp
  have q4 : k1.cf.bind (·.constantPool.utf8? i) = some units := by rw [hcf]; simp [ConstantPool.utf8?, hu]
  have wi : (Jvm.Cond.instantiable "java/lang/String" 4).before a0 Z = true := wS _ (by simp [Bundle.stringAtoms, Bundle.sN])
  have wa : (Jvm.Cond.arrayClass .byte).before a0 Z = true := wS _ (by simp [Bundle.stringAtoms])
  -- the class's record at the case's start
  have hownZ : Z.vm.findClass own = some B.m.cls := by rw [← hal.findClass]; exact hown
  obtain ⟨kz, cfz, iz, uz, hkz, hcfz, hcpz, huz, hnmz, htextz, hresz⟩ := Cond.stringLink_spec hownZ w
  obtain ⟨kT, hkT, ekT, -, hent, -⟩ := hz.2.2.2 _ _ hkz
  have e1 : kT = k1 := Option.some.inj (hkT.symm.trans hk1)
  subst e1
  have ecf : cfz = cf := by have : kT.cf = kz.cf := by rw [ekT]
                            rw [this, hcfz] at hcf; exact Option.some.inj hcf
  subst ecf
  have ei : iz = i := by have := hcpz.symm.trans hcp; simpa using this
  subst ei
  have eu : uz = units := by have := huz.symm.trans hu; simpa using this
  subst eu
  have hownT : T.vm.findClass own = some B.m.cls := hown
  have hkT1 : T.vm.classes[B.m.cls]? = some kT := hk1
  have hltT : ∀ e ∈ cl.2, ∃ a, Lit (B.s.setVm T.vm) e.1 e.2 a := fun e he => by
    obtain ⟨a, ha⟩ := hlt e he
    exact ⟨a, Lit.stays ha X.warmed.wide⟩
  rcases hres with hopen | ⟨a, hres⟩
  · have hcl : cl.1 = true := hcl.elim id fun q => by
      obtain ⟨a, ha⟩ := hltT _ q
      simp [Lit, State.resolvedAt?, hownT, hkT1, hopen] at ha
    cases hf : T.vm.interned.find? (fun p => p.1 == uz) with
    | some pr =>
      obtain ⟨u', a⟩ := pr
      have hu' : u' = uz := by
        have := Array.find?_some hf
        simpa using this
      subst hu'
      have hW : (B.s.setVm T.vm).Warmed39 (T.vm.noted B.m.cls idx (.string a)) := X1.warmed.wide.notedString hk1 (Or.inl hopen) q2 q3 q4 hf
      have X2 := (X1.mono (Nat.le_add_right k 2) (Nat.le_add_right n (sz + 4))).retabled hW
      have bg2 : Bg Z M (T.setVm (T.vm.noted B.m.cls idx (.string a))) := bg.move (State.Warmed39.trans (t := B.s.setVm T.vm) hz hW) rfl (Kept.refl _ _)
      refine Gd.step (U' := (T.setVm (T.vm.noted B.m.cls idx (.string a))).setTop (mkF B.m (pc + 2) L (.ref a :: S))) (fun t q => ?_) (K a h ⟨Nat.le_refl _, fun _ _ q => q⟩ _ ⟨T.vm.noted B.m.cls idx (.string a), T.heap.size, locs, X2, hS1.trans ⟨hW, State.Booked.step (T₂ := T.setVm (T.vm.noted B.m.cls idx (.string a))) (X1.warmed.no_new_pair _) X1.same.2.1 ⟨Nat.le_refl _, Or.inl rfl⟩⟩ (Nat.le_refl _), Nat.le_refl _, fun q => ?_, hL, hcl', fun e he => ?_, eT, by rw [eZ]; exact bg2⟩)
      · have hdd := hb ok.by_ hd
        jvm_step X1.here [ok.x, hdd, ldc.wp_string_found (e := B.e) (s := T) (f := mkF B.m pc L S) X1.here.top hk1 hcf hcp hu hopen hf]
        exact q
      · rw [ok.nar_, hnar] at q; cases q
      · rcases List.mem_cons.mp he with rfl | he
        · refine ⟨a, ?_⟩
          have hf2 : (T.vm.noted B.m.cls idx (.string a)).findClass own = some B.m.cls := (hW.alike.findClass _ _).trans hown
          obtain ⟨kk, hq1, hq2⟩ : ∃ k2 : Class, (T.vm.noted B.m.cls idx (.string a)).classes[B.m.cls]? = some k2 ∧ k2.resolved[idx]? = some (some (.string a)) := ⟨_, Vm.classes_note_self idx (.string a) hkT1, Class.resolved_note_self (.string a) hopen⟩
          simp [Lit, State.resolvedAt?, hf2, hq1, hq2]
        · obtain ⟨b, hb'⟩ := hltT e he
          exact ⟨b, Lit.stays hb' hW⟩
    | none =>
      have hheld : ConstHeldL (B.s.setVm T.vm) own idx := by
        intro c k2 cf2 i2 units2 a hc2 hk2 hcf2 hp2 hu2 hor
        cases hc2.symm.trans hown
        cases hk2.symm.trans hk1
        cases hcf2.symm.trans hcf
        cases hp2.symm.trans hcp
        cases hu2.symm.trans hu
        rcases hor with q | ⟨-, q⟩
        · rw [hopen] at q; simp at q
        · rw [show (B.s.setVm T.vm).vm.interned = T.vm.interned from rfl, hf] at q; cases q
      have hold : ∀ (b : Addr) (c : Cell), (B.s.setVm T.vm).heap[b]? = some c → T.heap[b]? = some c := oldF X1 (fun y hy => hcl' hcl y hy)
      obtain ⟨a, T2, X2, hS2, ⟨k2, hk2, hr2⟩, hkp, hi1, hint, ⟨units2, htext2, hin⟩, st⟩ := X1.ldcColdF hold ok.x (own := own) hown wl (fun d hd => by
        have q := wS d hd
        simp only [Bundle.stringAtoms, List.mem_cons, List.not_mem_nil, or_false] at hd
        rcases hd with rfl | rfl | rfl | rfl | rfl | rfl | rfl
        · exact mv (s := B.s.setVm T.vm) hz q
        · exact mv (s := B.s.setVm T.vm) hz q
        · exact mvA (s := B.s.setVm T.vm) hz q
        · exact mv (s := B.s.setVm T.vm) hz q
        · exact mv (s := B.s.setVm T.vm) hz q
        · exact mv (s := B.s.setVm T.vm) hz q
        · exact mv (s := B.s.setVm T.vm) hz q) hheld (fun us hus => Jvm.ClassFile.lat_of_text hus ht) (g := mkF B.m pc L S) rfl (hb ok.by_ hd) hsz hbig (by rw [eR]; exact hc) (by rw [eR]; exact hn)
      have same : ∀ us : Array UInt16, utf16ToString? us = some text → us = uz := fun us hus => Array.toList_inj.mp (by rw [Jvm.ClassFile.units_of_text hus ht, Jvm.ClassFile.units_of_text htext ht])
      have eu2 := same units2 htext2
      subst eu2
      have hz2 : Z.Warmed39 T2.vm := State.Warmed39.trans (t := B.s.setVm T.vm) hz hS2.1
      -- where the entry points now
      have hfa : T2.vm.interned.find? (fun p => p.1 == units2) = some (units2, a) := by
        obtain ⟨k2', hk2', -, -, ee, -⟩ := hS2.1.2.2.2 _ _ hk1
        cases hk2.symm.trans hk2'
        rcases ee idx with e0 | ⟨-, r, e1, hr | ⟨a3, t3, si, us, rfl, -, z3, z4, z5⟩⟩
        · rw [hr2, hopen] at e0; simp at e0
        · exfalso
          rw [hr2] at e1
          simp only [Option.some.injEq] at e1
          subst e1
          simp [State.rightAt, hk1, hcf, hnm] at hr
        · rw [hr2] at e1
          have ea : a = a3 := by simpa using e1
          subst ea
          rw [q3] at z3
          have : si = iz := by simpa using z3.symm
          subst this
          rw [q4] at z4
          have : us = units2 := by simpa using z4.symm
          subst this
          exact z5
      have hpush : T2.vm.interned = T.vm.interned.push (units2, a) ∧ T.heap.size ≤ a := by
        rcases hint with e0 | ⟨us, a', hus, e0⟩
        · rw [e0, hf] at hfa; cases hfa
        · have := same us hus
          subst this
          rw [e0] at hfa
          rcases find_push hfa with q | ⟨-, -, q⟩
          · rw [hf] at q; cases q
          · subst q
            refine ⟨e0, ?_⟩
            rcases hi1.2 with e2 | ⟨u3, a3, e2, e3, -⟩
            · rw [e0] at e2
              have := congrArg Array.size e2
              simp at this
            · have e4 := e0.symm.trans e2
              have e5 := congrArg Array.back? e4
              simp at e5
              rw [e5.2]; exact e3
      have Kp : Kept M T.heap T2.heap := ⟨hi1.1, fun b c q _ => by rw [hkp b (Array.getElem?_eq_some_iff.mp q).1]; exact q⟩
      have sl : SlM M T2 a units2 := by
        obtain ⟨q, cS, g1, g2, g3, g4, g5, g6⟩ := hin
        rcases g6 with ⟨g6, -⟩ | ⟨g6, g7⟩
        · exfalso
          have := X1.same.2.1
          rw [g1] at g6
          have h3 : (B.s.setVm T.vm).heap.size ≤ T.heap.size := this
          exact absurd g6 (Nat.not_lt.mpr (Nat.le_trans h3 hpush.2))
        · exact ⟨q, cS, g1, g2, g3, g4, g5, fun r => absurd (bg.2.2.2.2 _ r) (Nat.not_lt.mpr g6), fun r => absurd (bg.2.2.2.2 _ r) (Nat.not_lt.mpr g7)⟩
      have hal2 : T.vm.Alike T2.vm := hal.symm.trans hz2.alike
      have bg2 : Bg Z M T2 := by
        refine ⟨hz2, fun us b hl2 hf2 => ?_, ⟨Nat.le_trans bg.2.2.1.1 Kp.1, fun x c q => Kp.2 x c (bg.2.2.1.2 x c q) fun z => absurd (Array.getElem?_eq_some_iff.mp q).1 (Nat.not_lt.mpr (bg.2.2.2.1 x z))⟩, bg.2.2.2.1, fun x z => Nat.lt_of_lt_of_le (bg.2.2.2.2 x z) Kp.1⟩
        rw [hpush.1] at hf2
        rcases find_push hf2 with q | ⟨-, q, q'⟩
        · exact (bg.2.1 us b hl2 q).imp id fun s => s.move hal2 Kp.2
        · subst q q'; exact Or.inr sl
      have E : Ext h T2.heap := by
        rw [← eT]
        exact ⟨hi1.1, fun b c q => by rw [hkp b (Array.getElem?_eq_some_iff.mp q).1]; exact q⟩
      refine Gd.step st (K a T2.heap E T2 ⟨T2.vm, T2.heap.size, locs, X2, hS1.trans hS2 hi1.1, Nat.le_refl _, fun q => ?_, hL, hcl', fun e he => ?_, rfl, by rw [eZ]; exact bg2⟩)
      · rw [ok.nar_, hnar] at q; cases q
      · rcases List.mem_cons.mp he with rfl | he
        · refine ⟨a, ?_⟩
          have hf2 : T2.vm.findClass own = some B.m.cls := (hS2.1.alike.findClass _ _).trans hown
          simp [Lit, State.resolvedAt?, hf2, hk2, hr2]
        · obtain ⟨b, hb'⟩ := hltT e he
          exact ⟨b, Lit.stays hb' hS2.1⟩
  · have Li : Lit (B.s.setVm T.vm) own idx a := by simp [Lit, State.resolvedAt?, hownT, hkT1, hres]
    refine Gd.step (ldcAgain X1 ok.x hz hown w Li (g := mkF B.m pc L S) rfl (hb ok.by_ hd)) (K a h ⟨Nat.le_refl _, fun _ _ q => q⟩ T ⟨T.vm, T.heap.size, locs, X1.mono (Nat.le_add_right k 2) (Nat.le_add_right n (sz + 4)), hS1, Nat.le_refl _, fun q => ?_, hL, hcl', fun e he => ?_, eT, by rw [eZ]; exact bg⟩)
    · rw [ok.nar_, hnar] at q; cases q
    · rcases List.mem_cons.mp he with rfl | he
      · exact ⟨a, Li⟩
      · exact hltT e he
end LdcU
end Jvm.Pilot.@@N@@.Wk
namespace Jvm.Pilot.@@N@@.Wk
open Jvm Jvm.ClassFile Sem Op Lib Jvm.Free Jvm.Stand Jvm.LawKit Jvm.RoadKit Bundle
/-! ### a method with handlers, none of which is reached: it writes nothing and answers w -/
abbrev Hs : Type := List (Nat × Nat × Nat × Nat)
def ConH (l : Launch) (Z : State) (y : MethodName) (bytes : ByteArray) (maxL : Nat) (ret : Option FieldType) (hs : Hs) (rm : Room) (as' : List Value) (h : Heap) (w : Value) : Prop :=
  ∀ (M : List Addr), MetFree l y (head1 [Jvm.Cond.codeWith y bytes maxL ret hs] rm) (fun a U => a = as'.toArray ∧ U.heap = h ∧ Bg Z M U) (fun _ _ _ _ _ => True)
    (fun _ U o U' => ∃ Lc, o = .returned (some w) ∧ U'.heap = h ∧ Bg Z M U' ∧ (∀ y ∈ Lc, h.size ≤ y.base) ∧ FrameEnd U o U' Lc rm.cells rm.slots)
theorem hisH {y : MethodName} {bytes : ByteArray} {maxL : Nat} {ret : Option FieldType} {hs : Hs} {rm : Room} : ∀ args (s : State) m, (head1 [Jvm.Cond.codeWith y bytes maxL ret hs] rm).pre.before args s = true → s.methodNamed? y = some m →
    ∃ meth c, s.vm.method? m = some meth ∧ meth.code = some c ∧ c.code = bytes ∧ c.maxLocals = maxL ∧ meth.sig.returnType = ret ∧ meth.locks = false := fun args s m hh hn => by
  obtain ⟨m', meth, c, h0, h1, h2, h3, h4, -, h5, h6, -⟩ := Cond.codeWith_spec (atoms_spec (ws := [Jvm.Cond.codeWith y bytes maxL ret hs]) hh _ (List.mem_cons_self ..))
  cases hn.symm.trans h0
  exact ⟨meth, c, h1, h2, h3, h4, h5, h6⟩
theorem ConH.intro {l : Launch} {Z : State} {y : MethodName} {bytes : ByteArray} {maxL : Nat} {ret : Option FieldType} {hs : Hs} {rm : Room} {as' : List Value} {h : Heap} {w : Value} {L0 : Array Slot}
    (hpl : plainFor y = true) (hef : ∀ m, entryFrame m as'.toArray maxL = mkF m 0 L0 []) (body : ∀ (B : Cx) (M : List Addr), (∀ w ∈ ([] : List Addr), w ∈ M) → Ok B l Z true y.cls y.name bytes maxL ret rm h [] false (OldQ false (fun v h' => v = some w ∧ h' = h)) M → W B h 0 0 M (true, []) 0 L0 []) : ConH l Z y bytes maxL ret hs rm as' h w := by
  intro M
  refine MetFree.of_bodySF hpl hisH ?_
  intro p e s m args below meth c s₁ Bd hml hP hK
  obtain ⟨rfl, hh, bg⟩ := hP
  have X : Stand p l e rm s m as'.toArray below meth c s₁ [] 0 0 := Stand.of_body Bd
  obtain ⟨t, o, g1, g2, g3, v, Lc, N, g4, g5, g6, g7, g8, g9, g10⟩ := body (p, l, e, rm, s, m, as'.toArray, below, meth, c, Z, true, [], M, false, OldQ false (fun v h' => v = some w ∧ h' = h)) M (fun _ q => (nomatch q))
    ⟨Bd.exec, Bd.bytes, hml, findClass_of_methodNamed Bd.named, (name_of_methodNamed Bd.named Bd.method).1, Bd.returns, Bd.notSynchronized, bg.1, rfl, rfl, rfl, rfl, rfl, rfl, rfl, rfl, hh⟩ s₁
    ⟨s.vm, s.heap.size, [], by rw [State.setVm_self]; exact X, (State.WarmedH.refl s).since _, by rw [Bd.state]; exact Nat.le_refl _, fun _ => State.WarmedH.refl s, fun _ q => (nomatch q), fun _ _ q => (nomatch q), fun _ q => (nomatch q), by rw [Bd.state]; exact hh, by rw [Bd.state]; exact bg.move bg.1 rfl (Kept.refl _ _)⟩
  obtain ⟨rfl, rfl, e5⟩ := g5
  exact ⟨t, o, by rw [hef]; exact g1, g2, g3, Lc, g4, e5, g7, fun y hy => (g8 y hy).elim (fun q => (nomatch q)) (fun q => by rw [← hh]; exact q), g9.1, g10 rfl, g9.2.2.2⟩
theorem ConH.back {l : Launch} {Z : State} {y : MethodName} {bytes : ByteArray} {maxL : Nat} {ret : Option FieldType} {hs : Hs} {rm : Room} {as' : List Value} {h : Heap} {w : Value} {M : List Addr} {a0 : Array Value}
    (C : ConH l Z y bytes maxL ret hs rm as' h w) {p : Program} {e : Env} {below : List Frame} {s : State} {args : Array Value} {R : Room} {len Wd : Nat} (hZ : Z.Warmed39 s.vm)
    (wc : (Jvm.Cond.codeWith y bytes maxL ret hs).before a0 Z = true) (wz : (Jvm.Cond.initialized y.cls).before a0 Z = true) (hf : rm.frames + 1 ≤ R.frames) (hl : Wd + (maxL + 11) + rm.locals ≤ R.locals) :
    BackS l R p e below s args y len Wd (fun A a => a = as'.toArray ∧ A.U.heap = h ∧ Bg Z M A.U ∧ A.cells + rm.cells ≤ R.cells ∧ A.slots + rm.slots ≤ R.slots)
      (fun A _ v B => ∃ Lc, v = some w ∧ A.U.heap = h ∧ B.U.heap = h ∧ Bg Z M B.U ∧ (∀ y ∈ Lc, h.size ≤ y.base) ∧ B.locs = A.locs ++ Lc ∧ B.cells = A.cells + rm.cells ∧ B.slots = A.slots + rm.slots ∧ A.U.WarmedH B.U.vm) :=
  BackS.of_back (Back.of_freeWith (bytes := bytes) (maxL := maxL) (ret := ret) (handlers := hs) (E := fun _ U o t Lc k n => k = rm.cells ∧ n = rm.slots ∧ o = .returned (some w) ∧ t.heap = h ∧ Bg Z M t ∧ (∀ y ∈ Lc, h.size ≤ y.base) ∧ U.WarmedH t.vm) (C M) hf hl
    (fun m meth c A a Y hp => have hU : Z.Warmed39 A.U.vm := wtrans hZ Y.warmed
      ⟨by show (Jvm.Cond.and _ .tt).before a A.U = true; rw [Cond.before_and, mv hU wc]; rfl, mv hU wc, mv hU wz, hp.2.2.2.1, hp.2.2.2.2⟩)
    (fun m meth c A a g mk Y hp => ⟨hp.1, hp.2.1, hp.2.2.1.move (U' := A.U.calling g mk a) hp.2.2.1.1 rfl (Kept.refl _ _)⟩) (fun _ _ _ _ _ _ _ _ _ => trivial)
    (fun _ _ _ _ ⟨Lc, h1, h2, h3, h4, h5⟩ => ⟨Lc, _, _, h5, rfl, rfl, h1, h2, h3, h4, h5.2.1⟩)
    (fun m meth c A a g mk v t Lc k n Y hp _ _ ⟨e1, e2, e3, e4, e5, e6, e7⟩ => by
      cases e3; subst e1 e2
      exact ⟨Lc, rfl, hp.2.1, e4, e5.move (U' := ({ A.U with heap := t.heap, slotsUsed := t.slotsUsed } : State).setVm t.vm) e5.1 rfl (Kept.refl _ _), e6, rfl, rfl, rfl, e7⟩))
    (fun A a v B ⟨Lc, _, e1, e2, _⟩ => by rw [e1, e2]; exact Nat.le_refl _)
theorem decl_ofH {a0 : Array Value} {Z : State} {y : MethodName} {bytes : ByteArray} {maxL : Nat} {ret : Option FieldType} {hs : Hs} (w : (Jvm.Cond.instanceMethod y).before a0 Z = true) (wc : (Jvm.Cond.codeWith y bytes maxL ret hs).before a0 Z = true) : (Jvm.Cond.declares y).before a0 Z = true := by
  obtain ⟨mk, meth, hn, hm, hs, -⟩ := Cond.instanceMethod_spec w
  obtain ⟨m', m2, cM, q0, q1, -, -, -, -, -, -, hsig⟩ := Cond.codeWith_spec wc
  cases hn.symm.trans q0
  cases hm.symm.trans q1
  simp [Cond.before, Cond.holds, Cond.value, hn, hm, hs, hsig]
/-- a Latin-1 builder, its array's exact class told -/
def SBx (Z : State) (h : Heap) (a t : Addr) (cs bs : List Int32) : Prop := SBd Z h a t cs bs ∧ Exa Z h t "[B"
theorem SBx.ext {Z : State} {h h' : Heap} {a t : Addr} {cs bs : List Int32} (F : SBx Z h a t cs bs) (E : Ext h h') : SBx Z h' a t cs bs := ⟨F.1.ext E, F.2.ext E⟩
section CallsH
variable {B : Cx} {l : Launch} {Z : State} {nar : Bool} {own nm : String} {code : ByteArray} {ml : Nat} {ret : Option FieldType} {R : Room} {h0 : Heap} {ws : List Addr} {fr : Bool} {Q : List Addr → Option Value → Heap → Prop} {Me : List Addr}
variable {h : Heap} {k n : Nat} {M : List Addr} {cl : Cl} {pc pc' : Nat} {L : Array Slot} {S : List Value} {a0 : Array Value}
variable {idx : Nat} {y : MethodName} {bytes : ByteArray} {maxL : Nat} {ret' : Option FieldType} {rm' : Room} {as' rest : List Value} {ps : List FieldType} {r : Option FieldType} {hs : Hs} {w : Value}
theorem W.callH0 {len : Nat} (ok : Ok B l Z nar own nm code ml ret R h0 ws fr Q Me) (wc : (Jvm.Cond.codeWith y bytes maxL ret' hs).before a0 Z = true) (wz : (Jvm.Cond.initialized y.cls).before a0 Z = true) (C : ConH l Z y bytes maxL ret' hs rm' as' h w)
    (hf : rm'.frames + 1 ≤ R.frames) (hlo : (rest.map fun v => v.category).sum + (maxL + 11) + rm'.locals ≤ R.locals) (hcc : k + rm'.cells ≤ R.cells) (hnn : n + rm'.slots ≤ R.slots)
    (core : ∀ (T : State) (vm0 : Vm) (locs : List Loc), Stand B.p B.l B.e B.R (B.s.setVm vm0) B.m B.args B.below B.meth B.c T locs k n → Z.Warmed39 (B.s.setVm vm0).vm → (B.s.setVm vm0).vm.findClass own = some B.m.cls → T.heap = h →
      ∀ {Pre : Pt → Array Value → Prop} {Post : Pt → Array Value → Option Value → Pt → Prop}, BackS B.l B.R B.p B.e B.below (B.s.setVm vm0) B.args y len (rest.map fun v => v.category).sum Pre Post → (∀ vm₁, (B.s.setVm vm0).WarmedH vm₁ → Pre ⟨T.setVm vm₁, locs, k, n⟩ as'.toArray) →
      ∃ (v : Option Value) (vm₁ : Vm) (A : Pt), (B.s.setVm vm0).WarmedH vm₁ ∧ Stand B.p B.l B.e B.R ((B.s.setVm vm0).setVm A.U.vm) B.m B.args B.below B.meth B.c A.U A.locs A.cells A.slots ∧ (B.s.setVm vm0).Since A.U.vm A.U.heap.size ∧ T.heap.size ≤ A.U.heap.size ∧ Post ⟨T.setVm vm₁, locs, k, n⟩ as'.toArray v A ∧
        Steps B.p.tables B.e B.below (T.setTop (mkF B.m pc L S)) (A.U.setTop (mkF B.m pc' L (v.toList ++ rest))))
    (K : W B h (k + rm'.cells) (n + rm'.slots) M cl pc' L (w :: rest)) : W B h k n M cl pc L S := by
  intro T P
  obtain ⟨vm0, k0, locs, X, hS, hk0, hnar, hL, hc, hlt, eT, bg⟩ := P
  have eZ := ok.Z_
  subst eZ
  have eR := ok.R_
  subst eR
  have el := ok.l_
  subst el
  have hsz : h0.size ≤ h.size := by rw [← ok.h_, ← eT]; exact X.same.2.1
  have hz := ok.zv hS
  have hK := C.back (M := M) (p := B.p) (e := B.e) (below := B.below) (s := B.s.setVm vm0) (args := B.args) (len := len) hz wc wz hf hlo
  obtain ⟨v, vm1, ⟨T', L', k', n'⟩, hw1, X', hS', hgr, ⟨Lc, rfl, q0, q1, q3, q4, q5, q6, q7, q8⟩, st⟩ := core T vm0 locs X hz (ok.ownv hS) eT
    hK (fun vm1 hw => ⟨rfl, eT, bg.move (U' := T.setVm vm1) (wtrans hz hw) (hw.interned_eq.trans X.warmed.interned_eq.symm) (Kept.refl _ _), hcc, hnn⟩)
  dsimp only [Pt.U, Pt.locs, Pt.cells, Pt.slots] at X' hS' hgr q0 q1 q3 q4 q5 q6 q7 q8 st
  subst q5 q6 q7
  have hS2 : B.s.Since T'.vm T'.heap.size := hS.trans hS' (Nat.le_trans hk0 hgr)
  refine Gd.step (fun t q => st.trans q) (K T' ⟨T'.vm, T'.heap.size, locs ++ Lc, X', hS2, Nat.le_refl _, fun q => ?_, fun x hx => ?_, fun q x hx => ?_, fun e he => ?_, q1, q3⟩)
  · exact State.WarmedH.trans (t := T.setVm vm1) (State.WarmedH.trans (t := B.s.setVm vm0) (hnar q) hw1) q8
  · rcases List.mem_append.mp hx with z | z
    · exact hL x z
    · rw [ok.h_]; exact Or.inr (Nat.le_trans hsz (q4 x z))
  · rcases List.mem_append.mp hx with z | z
    · exact hc q x z
    · rw [ok.h_]; exact Nat.le_trans hsz (q4 x z)
  · obtain ⟨a, ha⟩ := hlt e he
    exact ⟨a, Lit.stays ha hS'.1⟩
/-- invokevirtual of a private method with handlers -/
theorem W.callH (ok : Ok B l Z nar own nm code ml ret R h0 ws fr Q Me) {a : Addr} {C0 : String} (w1 : (Jvm.Cond.methodLink own idx y).before a0 Z = true) (nf : NoFace Z y.cls) (w3 : (Jvm.Cond.selects C0 y y).before a0 Z = true) (w4 : (Jvm.Cond.instanceMethod y).before a0 Z = true) (wz : (Jvm.Cond.initialized y.cls).before a0 Z = true) (wc : (Jvm.Cond.codeWith y bytes maxL ret' hs).before a0 Z = true) (hy : notMH y.cls)
    (E : Exa Z h a C0) (hds : parseMethodDescriptor y.desc = some ⟨ps, r⟩) (hlen : as'.length = ps.length) (C : ConH l Z y bytes maxL ret' hs rm' (.ref a :: as') h w) (hL : L.size = ml)
    (hf : rm'.frames + 1 ≤ R.frames) (hlo : (rest.map fun v => v.category).sum + (maxL + 11) + rm'.locals ≤ R.locals) (hcc : k + rm'.cells ≤ R.cells) (hnn : n + rm'.slots ≤ R.slots) (hd : decode code pc = .ok (.invokevirtual idx, 3)) (hp : pc + 3 = pc') (hst : S = as'.reverse ++ .ref a :: rest)
    (K : W B h (k + rm'.cells) (n + rm'.slots) M cl pc' L (w :: rest)) : W B h k n M cl pc L S := by
  subst hp
  refine W.callH0 (len := 3) ok wc wz C hf hlo hcc hnn (fun T vm0 locs X hz ho eT Pre Post hK hpre => ?_) K
  obtain ⟨cB, kB, q1, q2, q3⟩ := isOf hz eT E
  refine X.virtualBackS ok.x ho (mv hz w1) (mv hz (decl_ofH w4 wc)) ?_ (mv hz w3) (mv hz w4) hy hK q1 q3 (g := mkF B.m pc L S) rfl (by rw [ok.ml_]; exact hL) (Steps.refl _) (argsL := as') (rest := rest) (lenOf hds hlen) hst (by show 2 * 0 + _ ≤ _; omega) (hb ok.by_ hd) hpre
  obtain ⟨cc, kk, e1, e2, e3⟩ := nf
  intro r0 h0
  have f1 := findClass_of_methodNamed h0
  have f2 := (hz.alike.findClass _ _).trans e1
  obtain ⟨k', f3, f4⟩ := hz.alike.2.2 _ _ e2
  cases f1.symm.trans f2
  exact ⟨k', f3, by rw [f4]; exact e3⟩
theorem W.lcmp (ok : Ok B l Z nar own nm code ml ret R h0 ws fr Q Me) {x y : Int64} (hd : decode code pc = .ok (.lcmp, 1)) (hp : pc + 1 = pc') (K : W B h k n M cl pc' L (.int (XT.cmpL x y) :: S)) : W B h k n M cl pc L (.long y :: .long x :: S) := by
  subst hp; exact W.pure (fun T t hA q => XT.lcmp hA ok.x rfl (hb ok.by_ hd) rfl q) K
end CallsH
end Jvm.Pilot.@@N@@.Wk
namespace Jvm.Pilot.@@N@@.Wk
open Jvm Jvm.ClassFile Sem Op Lib Jvm.Free Jvm.Stand Jvm.LawKit Jvm.RoadKit Bundle
/-! ### arrays over a class, written; switches, floats -/
def ArO (Z : State) (h : Heap) (a : Addr) (C : String) (vs : List Value) : Prop := ∃ c : Cell, Arr Z h a c (.object C) ∧ c.slots = vs.toArray ∧ Ovr Z c.cls C
section Facts
variable {Z : State} {h h' : Heap} {a b : Addr} {C : String} {vs vs' : List Value} {sl : Nat} {v : Value} {ws : List Addr}
theorem ArO.ext (F : ArO Z h a C vs) (E : Ext h h') : ArO Z h' a C vs := by obtain ⟨c, A, r⟩ := F; exact ⟨c, A.ext E, r⟩
theorem ArO.keep (F : ArO Z h a C vs) (K : Keep h h' ws) (q : a ∉ ws) : ArO Z h' a C vs := by obtain ⟨c, A, r⟩ := F; exact ⟨c, ⟨K.2.1 a c A.1 q, A.2⟩, r⟩
theorem ArO.other (F : ArO Z h b C vs) (W : Wr h h' a sl v) (q : b ≠ a) : ArO Z h' b C vs := by obtain ⟨c, A, r⟩ := F; exact ⟨c, A.other W q, r⟩
theorem ArO.gt (F : ArO Z h a C vs) : h.size > a := by obtain ⟨c, A, -⟩ := F; exact A.lt
theorem ArO.cast (F : ArO Z h a C vs) (e : vs = vs') : ArO Z h a C vs' := e ▸ F
theorem ArO.r (F : ArO Z h a C vs) : ArR Z h a (.object C) vs := by obtain ⟨c, A, e, -⟩ := F; exact ⟨c, A, e⟩
theorem ArO.set {j : Nat} (F : ArO Z h a C vs) (W : Wr h h' a j v) : ArO Z h' a C (vs.set j v) := by
  obtain ⟨c, A, e, o⟩ := F
  refine ⟨_, A.same W, ?_, o⟩
  simp only [Cell.setSlot, e]
  apply Array.ext_getElem?
  intro i
  simp
theorem Exa.neArO {a0 : Array Value} {k : Nat} {D : String} (E : Exa Z h a D) (w : (Cond.instantiable D k).before a0 Z = true) (A : ArO Z h b C vs) : a ≠ b := by
  obtain ⟨c, A, -⟩ := A
  exact ne_arr E w A
theorem ArI.neO {cs : List Int32} {ty : FieldType} (F : ArI Z h a ty cs) (hty : ty ≠ .object C) (A : ArO Z h b C vs) : a ≠ b := by
  rintro rfl
  obtain ⟨c, A1, -⟩ := F
  obtain ⟨d, A2, -⟩ := A
  cases A1.1.symm.trans A2.1
  obtain ⟨-, k1, h1, c1, e1⟩ := A1.2.1
  obtain ⟨-, k2, h2, c2, e2⟩ := A2.2.1
  cases h1.symm.trans h2
  rw [e1] at e2
  injection e2 with _ e
  exact hty e
end Facts
section Heap
variable {B : Cx} {l : Launch} {Z : State} {nar : Bool} {own nm : String} {code : ByteArray} {ml : Nat} {ret : Option FieldType} {R : Room} {h0 : Heap} {ws : List Addr} {fr : Bool} {Q : List Addr → Option Value → Heap → Prop} {Me : List Addr}
variable {h : Heap} {k n : Nat} {M : List Addr} {cl : Cl} {pc pc' : Nat} {L L' : Array Slot} {S S' : List Value} {a0 : Array Value}
theorem W.anew (ok : Ok B l Z nar own nm code ml ret R h0 ws fr Q Me) {idx : Nat} {C : String} (w1 : (Jvm.Cond.classLink own idx C).before a0 Z = true) (w2 : (Jvm.Cond.arrayOver (.object C)).before a0 Z = true) {z : Int32} {cap : Nat} (hz0 : ¬ z < 0) (hcap : z.toNatClampNeg ≤ cap) (hb8 : cap * 8 ≤ 536870912)
    (hd : decode code pc = .ok (.anewarray idx, 3)) (hp : pc + 3 = pc') (hc : k + 1 ≤ R.cells) (hn : n + cap ≤ R.slots)
    (K : ∀ (a : Addr) (h' : Heap), h0.size ≤ a → h.size = a → Ext h h' → ArO Z h' a C (List.replicate z.toNatClampNeg .null) → W B h' (k + 1) (n + cap) (a :: M) cl pc' L (.ref a :: S)) : W B h k n M cl pc L (.int z :: S) := by
  subst hp
  refine W.heap (Φ := fun h' => h0.size ≤ h.size ∧ Ext h h' ∧ ArO Z h' h.size C (List.replicate z.toNatClampNeg .null)) (k' := k + 1) (n' := n + cap) (M' := h.size :: M) (cl' := cl) (L' := L) (S' := .ref h.size :: S) ok (fun T vm0 locs X hz ho eT hE hsz => ?_) rfl (fun h' ⟨p0, p1, p2⟩ => K _ h' p0 rfl p1 p2)
  have eR := ok.R_
  subst eR
  obtain ⟨T', h', cA, X', e', E', A', O', st⟩ := newR X ok.x hz ho w1 w2 eT (g := mkF B.m pc L (.int z :: S)) rfl (hb ok.by_ hd) rfl hz0 hcap hb8 hc hn
  subst e'
  exact ⟨T', [], by rw [List.append_nil]; exact X', Kept.ext E', fun _ q => (nomatch q), fun q => ⟨q, fun _ q => (nomatch q)⟩, fun x q => (List.mem_cons.mp q).elim (fun q => Or.inr ⟨Nat.le_of_eq q.symm, q ▸ A'.lt⟩) Or.inl, ⟨hsz, E', _, A', by simp [newA, defaultValue], O'⟩, st⟩
theorem W.aast (ok : Ok B l Z nar own nm code ml ret R h0 ws fr Q Me) {a : Addr} {C : String} {vs : List Value} {j : Int32} {v : Value} {cl' : Cl} (A : ArO Z h a C vs) (F : v = .null ∨ ∃ y, v = .ref y ∧ Ins Z h y C true) (hj : ¬ j < 0) (hl : j.toNatClampNeg < vs.length)
    (ha : a ∈ M) (hw : a ∈ ws ∨ h0.size ≤ a) (hcl : cl'.1 = true → cl.1 = true ∧ h0.size ≤ a) (hcs : cl'.2 = cl.2) (hd : decode code pc = .ok (.aastore, 1)) (hp : pc + 1 = pc')
    (K : ∀ h' : Heap, Wr h h' a j.toNatClampNeg v → ArO Z h' a C (vs.set j.toNatClampNeg v) → W B h' k n M cl' pc' L S) : W B h k n M cl pc L (v :: .int j :: .ref a :: S) := by
  subst hp
  refine W.heap (Φ := fun h' => Wr h h' a j.toNatClampNeg v) (k' := k) (n' := n) (M' := M) (cl' := cl') (L' := L) (S' := S) ok (fun T vm0 locs X hz ho eT hE hsz => ?_) hcs (fun h' q => K h' q (A.set q))
  obtain ⟨c, A1, e, o⟩ := A
  have F' : Sto Z h a v := by
    rcases F with q | ⟨y, q, I⟩
    · exact Or.inl q
    · subst q; exact Sto.of A1 o I
  obtain ⟨T', h', X', e', Wn, st⟩ := stR X ok.x hz eT A1 (j := j) (v := v) (by rintro (q | q); exact hj q; rw [e] at q; simp at q; omega) rfl F' (g := mkF B.m pc L (v :: .int j :: .ref a :: S)) rfl rfl (hb ok.by_ hd)
  subst e'
  refine ⟨T', _, X', Kept.wr Wn ha, fun y hy => ?_, fun q => ⟨(hcl q).1, fun y hy => ?_⟩, fun x q => Or.inl q, Wn, st⟩
  · rw [List.mem_singleton.mp hy]; exact hw
  · rw [List.mem_singleton.mp hy]; exact (hcl q).2
theorem W.tsIn (ok : Ok B l Z nar own nm code ml ret R h0 ws fr Q Me) {x : Int32} {default low high off : Int} {offsets : Array Int} {len : Nat} (hd : decode code pc = .ok (.tableswitch default low high offsets, len)) (hin : ¬ (x.toInt < low ∨ x.toInt > high)) (hoffs : offsets[(x.toInt - low).toNat]? = some off) (hoff : 0 ≤ (pc : Int) + off) (hp : ((pc : Int) + off).toNat = pc')
    (K : W B h k n M cl pc' L S) : W B h k n M cl pc L (.int x :: S) := by
  subst hp
  refine W.still ok (fun T vm0 locs X hz ho eT hE => ⟨T, X, eT, fun t q => ?_⟩) K
  exact X.tableswitchIn ok.x (g := mkF B.m pc L (.int x :: S)) rfl rfl (hb ok.by_ hd) hin hoffs hoff t q
theorem W.ldcF (ok : Ok B l Z nar own nm code ml ret R h0 ws fr Q Me) {idx : Nat} {b : UInt32} (w : (Jvm.Cond.constantFloat own idx b).before a0 Z = true) (hd : decode code pc = .ok (.ldc idx, 2)) (hp : pc + 2 = pc') (K : W B h k n M cl pc' L (.float b :: S)) : W B h k n M cl pc L S := by
  subst hp
  refine W.still ok (fun T vm0 locs X hz ho eT hE => ⟨T, X, eT, fun t q => ?_⟩) K
  exact X.ldcFloatC ok.x ho (mv hz w) (g := mkF B.m pc L S) rfl (hb ok.by_ hd) t q
theorem W.castN (ok : Ok B l Z nar own nm code ml ret R h0 ws fr Q Me) {idx : Nat} (hd : decode code pc = .ok (.checkcast idx, 3)) (hp : pc + 3 = pc') (K : W B h k n M cl pc' L (.null :: S)) : W B h k n M cl pc L (.null :: S) := by
  subst hp
  refine W.still ok (fun T vm0 locs X hz ho eT hE => ⟨T, X, eT, fun t q => ?_⟩) K
  exact X.checkcastNull ok.x (g := mkF B.m pc L (.null :: S)) rfl rfl (hb ok.by_ hd) t q
theorem W.getFN (ok : Ok B l Z nar own nm code ml ret R h0 ws fr Q Me) {idx : Nat} {R0 O f d host : String} {a : Addr} {v : Value} (w : (Cond.fieldLinkNest own idx R0 f d host).before a0 Z = true) (via : Via Z R0 O f d) (F : Fld Z h a O f d v)
    (hd : decode code pc = .ok (.getfield idx, 3)) (hp : pc + 3 = pc') (K : W B h k n M cl pc' L (v :: S)) : W B h k n M cl pc L (.ref a :: S) := by
  subst hp
  refine W.still ok (fun T vm0 locs X hz ho eT _ => ?_) K
  exact RoadKit.getF X ok.x hz ho (host := host) (Or.inr w) via eT F (g := mkF B.m pc L (.ref a :: S)) rfl rfl (hb ok.by_ hd)
end Heap
end Jvm.Pilot.@@N@@.Wk
namespace Jvm.Pilot.@@N@@
open Jvm Jvm.ClassFile Sem Op Lib Jvm.Free Jvm.Stand Jvm.LawKit Jvm.RoadKit Bundle Jvm.Pilot.@@N@@.Jvm.D Jvm.Pilot.@@N@@.Wk
def Ev (Z : State) (a0 : Array Value) : Prop := (∀ d ∈ tables_1, d.before a0 Z = true) ∧ (∃ g : Int32, ¬ g = 0 ∧ Sta Z Z.heap "java/lang/String" "COMPACT_STRINGS" "Z" (.int g)) ∧ (∃ g : Value, g.isRef = true ∧ Sta Z Z.heap "jdk/internal/util/Preconditions" "SIOOBE_FORMATTER" "Ljava/util/function/BiFunction;" g) ∧ (Sta Z Z.heap "java/lang/StringUTF16" "$assertionsDisabled" "Z" (.int 1)) ∧ (Sta Z Z.heap "java/lang/StringUTF16" "HI_BYTE_SHIFT" "I" (.int 0)) ∧ (Sta Z Z.heap "java/lang/StringUTF16" "LO_BYTE_SHIFT" "I" (.int 8))
theorem Ev.compact {Z : State} {a0 : Array Value} (h : Ev Z a0) : (∃ g : Int32, ¬ g = 0 ∧ Sta Z Z.heap "java/lang/String" "COMPACT_STRINGS" "Z" (.int g)) := h.2.1
theorem Ev.fmt {Z : State} {a0 : Array Value} (h : Ev Z a0) : (∃ g : Value, g.isRef = true ∧ Sta Z Z.heap "jdk/internal/util/Preconditions" "SIOOBE_FORMATTER" "Ljava/util/function/BiFunction;" g) := h.2.2.1
theorem Ev.asd {Z : State} {a0 : Array Value} (h : Ev Z a0) : (Sta Z Z.heap "java/lang/StringUTF16" "$assertionsDisabled" "Z" (.int 1)) := h.2.2.2.1
theorem Ev.hi {Z : State} {a0 : Array Value} (h : Ev Z a0) : (Sta Z Z.heap "java/lang/StringUTF16" "HI_BYTE_SHIFT" "I" (.int 0)) := h.2.2.2.2.1
theorem Ev.lo {Z : State} {a0 : Array Value} (h : Ev Z a0) : (Sta Z Z.heap "java/lang/StringUTF16" "LO_BYTE_SHIFT" "I" (.int 8)) := h.2.2.2.2.2
theorem w0 {Z : State} {a0 : Array Value} (hw : ∀ d ∈ tables_1, d.before a0 Z = true) : ((Jvm.Cond.arrayClass Jvm.ClassFile.FieldType.char)).before a0 Z = true := hw _ (List.mem_of_getElem? (i := 0) rfl)
theorem w1 {Z : State} {a0 : Array Value} (hw : ∀ d ∈ tables_1, d.before a0 Z = true) : ((Jvm.Cond.methodLink "com/example/bounded_lock/boundedlock/LockNameOfPinLaw" (21 : Nat) ({ cls := "com/example/bounded_lock/boundedlock/LockNameOfPinLaw", name := "draw", desc := "(I)C" } : Jvm.MethodName))).before a0 Z = true := hw _ (List.mem_of_getElem? (i := 1) rfl)
theorem w2 {Z : State} {a0 : Array Value} (hw : ∀ d ∈ tables_1, d.before a0 Z = true) : ((Jvm.Cond.static ({ cls := "com/example/bounded_lock/boundedlock/LockNameOfPinLaw", name := "draw", desc := "(I)C" } : Jvm.MethodName))).before a0 Z = true := hw _ (List.mem_of_getElem? (i := 2) rfl)
theorem w3 {Z : State} {a0 : Array Value} (hw : ∀ d ∈ tables_1, d.before a0 Z = true) : ((Jvm.Cond.initialized "com/example/bounded_lock/boundedlock/LockNameOfPinLaw")).before a0 Z = true := hw _ (List.mem_of_getElem? (i := 3) rfl)
theorem w4 {Z : State} {a0 : Array Value} (hw : ∀ d ∈ tables_1, d.before a0 Z = true) : ((Jvm.Cond.code ({ cls := "com/example/bounded_lock/boundedlock/LockNameOfPinLaw", name := "draw", desc := "(I)C" } : Jvm.MethodName) method_2_code (3 : Nat) (Option.some Jvm.ClassFile.FieldType.char))).before a0 Z = true := hw _ (List.mem_of_getElem? (i := 4) rfl)
theorem w5 {Z : State} {a0 : Array Value} (hw : ∀ d ∈ tables_1, d.before a0 Z = true) : ((Jvm.Cond.methodLink "com/example/bounded_lock/boundedlock/LockNameOfPinLaw" (25 : Nat) ({ cls := "com/example/bounded_lock/boundedlock/LockNameOfPinLaw", name := "okAt", desc := "([CII)Z" } : Jvm.MethodName))).before a0 Z = true := hw _ (List.mem_of_getElem? (i := 5) rfl)
theorem w6 {Z : State} {a0 : Array Value} (hw : ∀ d ∈ tables_1, d.before a0 Z = true) : ((Jvm.Cond.static ({ cls := "com/example/bounded_lock/boundedlock/LockNameOfPinLaw", name := "okAt", desc := "([CII)Z" } : Jvm.MethodName))).before a0 Z = true := hw _ (List.mem_of_getElem? (i := 6) rfl)
theorem w7 {Z : State} {a0 : Array Value} (hw : ∀ d ∈ tables_1, d.before a0 Z = true) : ((Jvm.Cond.code ({ cls := "com/example/bounded_lock/boundedlock/LockNameOfPinLaw", name := "okAt", desc := "([CII)Z" } : Jvm.MethodName) method_5_code (3 : Nat) (Option.some Jvm.ClassFile.FieldType.boolean))).before a0 Z = true := hw _ (List.mem_of_getElem? (i := 7) rfl)
theorem w8 {Z : State} {a0 : Array Value} (hw : ∀ d ∈ tables_1, d.before a0 Z = true) : ((Jvm.Cond.methodLink "com/example/bounded_lock/boundedlock/LockNameOfPinLaw" (12 : Nat) ({ cls := "com/example/bounded_lock/boundedlock/LockNameOfPinLaw", name := "isHigh", desc := "(C)Z" } : Jvm.MethodName))).before a0 Z = true := hw _ (List.mem_of_getElem? (i := 8) rfl)
theorem w9 {Z : State} {a0 : Array Value} (hw : ∀ d ∈ tables_1, d.before a0 Z = true) : ((Jvm.Cond.static ({ cls := "com/example/bounded_lock/boundedlock/LockNameOfPinLaw", name := "isHigh", desc := "(C)Z" } : Jvm.MethodName))).before a0 Z = true := hw _ (List.mem_of_getElem? (i := 9) rfl)
theorem w10 {Z : State} {a0 : Array Value} (hw : ∀ d ∈ tables_1, d.before a0 Z = true) : ((Jvm.Cond.code ({ cls := "com/example/bounded_lock/boundedlock/LockNameOfPinLaw", name := "isHigh", desc := "(C)Z" } : Jvm.MethodName) method_3_code (1 : Nat) (Option.some Jvm.ClassFile.FieldType.boolean))).before a0 Z = true := hw _ (List.mem_of_getElem? (i := 10) rfl)
theorem w11 {Z : State} {a0 : Array Value} (hw : ∀ d ∈ tables_1, d.before a0 Z = true) : ((Jvm.Cond.constant "com/example/bounded_lock/boundedlock/LockNameOfPinLaw" (7 : Nat) (55296 : Int32))).before a0 Z = true := hw _ (List.mem_of_getElem? (i := 11) rfl)
theorem w12 {Z : State} {a0 : Array Value} (hw : ∀ d ∈ tables_1, d.before a0 Z = true) : ((Jvm.Cond.methodLink "com/example/bounded_lock/boundedlock/LockNameOfPinLaw" (18 : Nat) ({ cls := "com/example/bounded_lock/boundedlock/LockNameOfPinLaw", name := "isLow", desc := "(C)Z" } : Jvm.MethodName))).before a0 Z = true := hw _ (List.mem_of_getElem? (i := 12) rfl)
theorem w13 {Z : State} {a0 : Array Value} (hw : ∀ d ∈ tables_1, d.before a0 Z = true) : ((Jvm.Cond.static ({ cls := "com/example/bounded_lock/boundedlock/LockNameOfPinLaw", name := "isLow", desc := "(C)Z" } : Jvm.MethodName))).before a0 Z = true := hw _ (List.mem_of_getElem? (i := 13) rfl)
theorem w14 {Z : State} {a0 : Array Value} (hw : ∀ d ∈ tables_1, d.before a0 Z = true) : ((Jvm.Cond.code ({ cls := "com/example/bounded_lock/boundedlock/LockNameOfPinLaw", name := "isLow", desc := "(C)Z" } : Jvm.MethodName) method_4_code (1 : Nat) (Option.some Jvm.ClassFile.FieldType.boolean))).before a0 Z = true := hw _ (List.mem_of_getElem? (i := 14) rfl)
theorem w15 {Z : State} {a0 : Array Value} (hw : ∀ d ∈ tables_1, d.before a0 Z = true) : ((Jvm.Cond.constant "com/example/bounded_lock/boundedlock/LockNameOfPinLaw" (8 : Nat) (56320 : Int32))).before a0 Z = true := hw _ (List.mem_of_getElem? (i := 15) rfl)
theorem w16 {Z : State} {a0 : Array Value} (hw : ∀ d ∈ tables_1, d.before a0 Z = true) : ((Jvm.Cond.methodLink "com/example/bounded_lock/boundedlock/LockNameOfPinLaw" (29 : Nat) ({ cls := "com/example/bounded_lock/boundedlock/LockNameOfPinLaw", name := "highAt", desc := "([CII)I" } : Jvm.MethodName))).before a0 Z = true := hw _ (List.mem_of_getElem? (i := 16) rfl)
theorem w17 {Z : State} {a0 : Array Value} (hw : ∀ d ∈ tables_1, d.before a0 Z = true) : ((Jvm.Cond.static ({ cls := "com/example/bounded_lock/boundedlock/LockNameOfPinLaw", name := "highAt", desc := "([CII)I" } : Jvm.MethodName))).before a0 Z = true := hw _ (List.mem_of_getElem? (i := 17) rfl)
theorem w18 {Z : State} {a0 : Array Value} (hw : ∀ d ∈ tables_1, d.before a0 Z = true) : ((Jvm.Cond.code ({ cls := "com/example/bounded_lock/boundedlock/LockNameOfPinLaw", name := "highAt", desc := "([CII)I" } : Jvm.MethodName) method_6_code (3 : Nat) (Option.some Jvm.ClassFile.FieldType.int))).before a0 Z = true := hw _ (List.mem_of_getElem? (i := 18) rfl)
theorem w19 {Z : State} {a0 : Array Value} (hw : ∀ d ∈ tables_1, d.before a0 Z = true) : ((Jvm.Cond.classLink "com/example/bounded_lock/boundedlock/LockNameOfPinLaw" (33 : Nat) "java/lang/String")).before a0 Z = true := hw _ (List.mem_of_getElem? (i := 19) rfl)
theorem w20 {Z : State} {a0 : Array Value} (hw : ∀ d ∈ tables_1, d.before a0 Z = true) : ((Jvm.Cond.instantiable "java/lang/String" (4 : Nat))).before a0 Z = true := hw _ (List.mem_of_getElem? (i := 20) rfl)
theorem w21 {Z : State} {a0 : Array Value} (hw : ∀ d ∈ tables_1, d.before a0 Z = true) : ((Jvm.Cond.initialized "java/lang/String")).before a0 Z = true := hw _ (List.mem_of_getElem? (i := 21) rfl)
theorem w22 {Z : State} {a0 : Array Value} (hw : ∀ d ∈ tables_1, d.before a0 Z = true) : ((Jvm.Cond.methodLink "com/example/bounded_lock/boundedlock/LockNameOfPinLaw" (35 : Nat) ({ cls := "java/lang/String", name := "<init>", desc := "([C)V" } : Jvm.MethodName))).before a0 Z = true := hw _ (List.mem_of_getElem? (i := 22) rfl)
theorem w23 {Z : State} {a0 : Array Value} (hw : ∀ d ∈ tables_1, d.before a0 Z = true) : ((Jvm.Cond.instanceMethod ({ cls := "java/lang/String", name := "<init>", desc := "([C)V" } : Jvm.MethodName))).before a0 Z = true := hw _ (List.mem_of_getElem? (i := 23) rfl)
theorem w24 {Z : State} {a0 : Array Value} (hw : ∀ d ∈ tables_1, d.before a0 Z = true) : ((Jvm.Cond.code ({ cls := "java/lang/String", name := "<init>", desc := "([C)V" } : Jvm.MethodName) jdk_42_method_3_code (2 : Nat) (Option.none : Option Jvm.ClassFile.FieldType))).before a0 Z = true := hw _ (List.mem_of_getElem? (i := 24) rfl)
theorem w25 {Z : State} {a0 : Array Value} (hw : ∀ d ∈ tables_1, d.before a0 Z = true) : ((Jvm.Cond.methodLink "java/lang/String" (27 : Nat) ({ cls := "java/lang/String", name := "<init>", desc := "([CIILjava/lang/Void;)V" } : Jvm.MethodName))).before a0 Z = true := hw _ (List.mem_of_getElem? (i := 25) rfl)
theorem w26 {Z : State} {a0 : Array Value} (hw : ∀ d ∈ tables_1, d.before a0 Z = true) : ((Jvm.Cond.instanceMethod ({ cls := "java/lang/String", name := "<init>", desc := "([CIILjava/lang/Void;)V" } : Jvm.MethodName))).before a0 Z = true := hw _ (List.mem_of_getElem? (i := 26) rfl)
theorem w28 {Z : State} {a0 : Array Value} (hw : ∀ d ∈ tables_1, d.before a0 Z = true) : ((Jvm.Cond.code ({ cls := "java/lang/String", name := "<init>", desc := "([CIILjava/lang/Void;)V" } : Jvm.MethodName) jdk_42_method_149_code (6 : Nat) (Option.none : Option Jvm.ClassFile.FieldType))).before a0 Z = true := hw _ (List.mem_of_getElem? (i := 28) rfl)
theorem w29 {Z : State} {a0 : Array Value} (hw : ∀ d ∈ tables_1, d.before a0 Z = true) : ((Jvm.Cond.methodLink "java/lang/String" (1 : Nat) ({ cls := "java/lang/Object", name := "<init>", desc := "()V" } : Jvm.MethodName))).before a0 Z = true := hw _ (List.mem_of_getElem? (i := 29) rfl)
theorem w30 {Z : State} {a0 : Array Value} (hw : ∀ d ∈ tables_1, d.before a0 Z = true) : ((Jvm.Cond.instanceMethod ({ cls := "java/lang/Object", name := "<init>", desc := "()V" } : Jvm.MethodName))).before a0 Z = true := hw _ (List.mem_of_getElem? (i := 30) rfl)
theorem w31 {Z : State} {a0 : Array Value} (hw : ∀ d ∈ tables_1, d.before a0 Z = true) : ((Jvm.Cond.code ({ cls := "java/lang/Object", name := "<init>", desc := "()V" } : Jvm.MethodName) object_method_1_code (1 : Nat) (Option.none : Option Jvm.ClassFile.FieldType))).before a0 Z = true := hw _ (List.mem_of_getElem? (i := 31) rfl)
theorem w32 {Z : State} {a0 : Array Value} (hw : ∀ d ∈ tables_1, d.before a0 Z = true) : ((Jvm.Cond.fieldLink "java/lang/String" (38 : Nat) "java/lang/String" "COMPACT_STRINGS" "Z")).before a0 Z = true := hw _ (List.mem_of_getElem? (i := 32) rfl)
theorem w33 {Z : State} {a0 : Array Value} (hw : ∀ d ∈ tables_1, d.before a0 Z = true) : ((Jvm.Cond.methodLink "java/lang/String" (177 : Nat) ({ cls := "java/lang/StringUTF16", name := "compress", desc := "([CII)[B" } : Jvm.MethodName))).before a0 Z = true := hw _ (List.mem_of_getElem? (i := 33) rfl)
theorem w34 {Z : State} {a0 : Array Value} (hw : ∀ d ∈ tables_1, d.before a0 Z = true) : ((Jvm.Cond.static ({ cls := "java/lang/StringUTF16", name := "compress", desc := "([CII)[B" } : Jvm.MethodName))).before a0 Z = true := hw _ (List.mem_of_getElem? (i := 34) rfl)
theorem w35 {Z : State} {a0 : Array Value} (hw : ∀ d ∈ tables_1, d.before a0 Z = true) : ((Jvm.Cond.initialized "java/lang/StringUTF16")).before a0 Z = true := hw _ (List.mem_of_getElem? (i := 35) rfl)
theorem w36 {Z : State} {a0 : Array Value} (hw : ∀ d ∈ tables_1, d.before a0 Z = true) : ((Jvm.Cond.code ({ cls := "java/lang/StringUTF16", name := "compress", desc := "([CII)[B" } : Jvm.MethodName) jdk_52_method_16_code (6 : Nat) (Option.some (Jvm.ClassFile.FieldType.array Jvm.ClassFile.FieldType.byte)))).before a0 Z = true := hw _ (List.mem_of_getElem? (i := 36) rfl)
theorem w37 {Z : State} {a0 : Array Value} (hw : ∀ d ∈ tables_1, d.before a0 Z = true) : ((Jvm.Cond.arrayClass Jvm.ClassFile.FieldType.byte)).before a0 Z = true := hw _ (List.mem_of_getElem? (i := 37) rfl)
theorem w38 {Z : State} {a0 : Array Value} (hw : ∀ d ∈ tables_1, d.before a0 Z = true) : ((Jvm.Cond.methodLink "java/lang/StringUTF16" (115 : Nat) ({ cls := "java/lang/StringUTF16", name := "compress", desc := "([CI[BII)I" } : Jvm.MethodName))).before a0 Z = true := hw _ (List.mem_of_getElem? (i := 38) rfl)
theorem w39 {Z : State} {a0 : Array Value} (hw : ∀ d ∈ tables_1, d.before a0 Z = true) : ((Jvm.Cond.static ({ cls := "java/lang/StringUTF16", name := "compress", desc := "([CI[BII)I" } : Jvm.MethodName))).before a0 Z = true := hw _ (List.mem_of_getElem? (i := 39) rfl)
theorem w40 {Z : State} {a0 : Array Value} (hw : ∀ d ∈ tables_1, d.before a0 Z = true) : ((Jvm.Cond.code ({ cls := "java/lang/StringUTF16", name := "compress", desc := "([CI[BII)I" } : Jvm.MethodName) jdk_52_method_21_code (7 : Nat) (Option.some Jvm.ClassFile.FieldType.int))).before a0 Z = true := hw _ (List.mem_of_getElem? (i := 40) rfl)
theorem w41 {Z : State} {a0 : Array Value} (hw : ∀ d ∈ tables_1, d.before a0 Z = true) : ((Jvm.Cond.methodLink "java/lang/String" (47 : Nat) ({ cls := "java/lang/StringUTF16", name := "coderFromArrayLen", desc := "([BI)B" } : Jvm.MethodName))).before a0 Z = true := hw _ (List.mem_of_getElem? (i := 41) rfl)
theorem w42 {Z : State} {a0 : Array Value} (hw : ∀ d ∈ tables_1, d.before a0 Z = true) : ((Jvm.Cond.static ({ cls := "java/lang/StringUTF16", name := "coderFromArrayLen", desc := "([BI)B" } : Jvm.MethodName))).before a0 Z = true := hw _ (List.mem_of_getElem? (i := 42) rfl)
theorem w43 {Z : State} {a0 : Array Value} (hw : ∀ d ∈ tables_1, d.before a0 Z = true) : ((Jvm.Cond.code ({ cls := "java/lang/StringUTF16", name := "coderFromArrayLen", desc := "([BI)B" } : Jvm.MethodName) jdk_52_method_15_code (2 : Nat) (Option.some Jvm.ClassFile.FieldType.byte))).before a0 Z = true := hw _ (List.mem_of_getElem? (i := 43) rfl)
theorem w44 {Z : State} {a0 : Array Value} (hw : ∀ d ∈ tables_1, d.before a0 Z = true) : ((Jvm.Cond.fieldLink "java/lang/String" (15 : Nat) "java/lang/String" "coder" "B")).before a0 Z = true := hw _ (List.mem_of_getElem? (i := 44) rfl)
theorem w45 {Z : State} {a0 : Array Value} (hw : ∀ d ∈ tables_1, d.before a0 Z = true) : ((Jvm.Cond.laysFinal "java/lang/String" "java/lang/String" "coder" "B")).before a0 Z = true := hw _ (List.mem_of_getElem? (i := 45) rfl)
theorem w46 {Z : State} {a0 : Array Value} (hw : ∀ d ∈ tables_1, d.before a0 Z = true) : ((Jvm.Cond.fieldLink "java/lang/String" (9 : Nat) "java/lang/String" "value" "[B")).before a0 Z = true := hw _ (List.mem_of_getElem? (i := 46) rfl)
theorem w47 {Z : State} {a0 : Array Value} (hw : ∀ d ∈ tables_1, d.before a0 Z = true) : ((Jvm.Cond.laysFinal "java/lang/String" "java/lang/String" "value" "[B")).before a0 Z = true := hw _ (List.mem_of_getElem? (i := 47) rfl)
theorem w48 {Z : State} {a0 : Array Value} (hw : ∀ d ∈ tables_1, d.before a0 Z = true) : ((Jvm.Cond.methodLink "com/example/bounded_lock/boundedlock/LockNameOfPinLaw" (38 : Nat) ({ cls := "com/example/bounded_lock/boundedlock/LockName", name := "of", desc := "(Ljava/lang/String;)Lcom/example/bounded_lock/boundedlock/LockName;" } : Jvm.MethodName))).before a0 Z = true := hw _ (List.mem_of_getElem? (i := 48) rfl)
theorem w49 {Z : State} {a0 : Array Value} (hw : ∀ d ∈ tables_1, d.before a0 Z = true) : ((Jvm.Cond.static ({ cls := "com/example/bounded_lock/boundedlock/LockName", name := "of", desc := "(Ljava/lang/String;)Lcom/example/bounded_lock/boundedlock/LockName;" } : Jvm.MethodName))).before a0 Z = true := hw _ (List.mem_of_getElem? (i := 49) rfl)
theorem w50 {Z : State} {a0 : Array Value} (hw : ∀ d ∈ tables_1, d.before a0 Z = true) : ((Jvm.Cond.initialized "com/example/bounded_lock/boundedlock/LockName")).before a0 Z = true := hw _ (List.mem_of_getElem? (i := 50) rfl)
theorem w51 {Z : State} {a0 : Array Value} (hw : ∀ d ∈ tables_1, d.before a0 Z = true) : ((Jvm.Cond.code ({ cls := "com/example/bounded_lock/boundedlock/LockName", name := "of", desc := "(Ljava/lang/String;)Lcom/example/bounded_lock/boundedlock/LockName;" } : Jvm.MethodName) prog_1_method_2_code (3 : Nat) (Option.some (Jvm.ClassFile.FieldType.object "com/example/bounded_lock/boundedlock/LockName")))).before a0 Z = true := hw _ (List.mem_of_getElem? (i := 51) rfl)
theorem w52 {Z : State} {a0 : Array Value} (hw : ∀ d ∈ tables_1, d.before a0 Z = true) : ((Jvm.Cond.stringLink "com/example/bounded_lock/boundedlock/LockName" (13 : Nat) "name")).before a0 Z = true := hw _ (List.mem_of_getElem? (i := 52) rfl)
theorem w55 {Z : State} {a0 : Array Value} (hw : ∀ d ∈ tables_1, d.before a0 Z = true) : ((Jvm.Cond.methodLink "com/example/bounded_lock/boundedlock/LockName" (15 : Nat) ({ cls := "java/util/Objects", name := "requireNonNull", desc := "(Ljava/lang/Object;Ljava/lang/String;)Ljava/lang/Object;" } : Jvm.MethodName))).before a0 Z = true := hw _ (List.mem_of_getElem? (i := 55) rfl)
theorem w56 {Z : State} {a0 : Array Value} (hw : ∀ d ∈ tables_1, d.before a0 Z = true) : ((Jvm.Cond.static ({ cls := "java/util/Objects", name := "requireNonNull", desc := "(Ljava/lang/Object;Ljava/lang/String;)Ljava/lang/Object;" } : Jvm.MethodName))).before a0 Z = true := hw _ (List.mem_of_getElem? (i := 56) rfl)
theorem w57 {Z : State} {a0 : Array Value} (hw : ∀ d ∈ tables_1, d.before a0 Z = true) : ((Jvm.Cond.initialized "java/util/Objects")).before a0 Z = true := hw _ (List.mem_of_getElem? (i := 57) rfl)
theorem w58 {Z : State} {a0 : Array Value} (hw : ∀ d ∈ tables_1, d.before a0 Z = true) : ((Jvm.Cond.code ({ cls := "java/util/Objects", name := "requireNonNull", desc := "(Ljava/lang/Object;Ljava/lang/String;)Ljava/lang/Object;" } : Jvm.MethodName) jdk_31_method_11_code (2 : Nat) (Option.some (Jvm.ClassFile.FieldType.object "java/lang/Object")))).before a0 Z = true := hw _ (List.mem_of_getElem? (i := 58) rfl)
theorem w59 {Z : State} {a0 : Array Value} (hw : ∀ d ∈ tables_1, d.before a0 Z = true) : ((Jvm.Cond.methodLink "com/example/bounded_lock/boundedlock/LockName" (21 : Nat) ({ cls := "java/lang/String", name := "length", desc := "()I" } : Jvm.MethodName))).before a0 Z = true := hw _ (List.mem_of_getElem? (i := 59) rfl)
theorem w60 {Z : State} {a0 : Array Value} (hw : ∀ d ∈ tables_1, d.before a0 Z = true) : ((Jvm.Cond.declares ({ cls := "java/lang/String", name := "length", desc := "()I" } : Jvm.MethodName))).before a0 Z = true := hw _ (List.mem_of_getElem? (i := 60) rfl)
theorem w61 {Z : State} {a0 : Array Value} (hw : ∀ d ∈ tables_1, d.before a0 Z = true) : ((Jvm.Cond.instanceMethod ({ cls := "java/lang/String", name := "length", desc := "()I" } : Jvm.MethodName))).before a0 Z = true := hw _ (List.mem_of_getElem? (i := 61) rfl)
theorem w62 {Z : State} {a0 : Array Value} (hw : ∀ d ∈ tables_1, d.before a0 Z = true) : ((Jvm.Cond.selects "java/lang/String" ({ cls := "java/lang/String", name := "length", desc := "()I" } : Jvm.MethodName) ({ cls := "java/lang/String", name := "length", desc := "()I" } : Jvm.MethodName))).before a0 Z = true := hw _ (List.mem_of_getElem? (i := 62) rfl)
theorem w63 {Z : State} {a0 : Array Value} (hw : ∀ d ∈ tables_1, d.before a0 Z = true) : ((Jvm.Cond.code ({ cls := "java/lang/String", name := "length", desc := "()I" } : Jvm.MethodName) jdk_42_method_54_code (1 : Nat) (Option.some Jvm.ClassFile.FieldType.int))).before a0 Z = true := hw _ (List.mem_of_getElem? (i := 63) rfl)
theorem w64 {Z : State} {a0 : Array Value} (hw : ∀ d ∈ tables_1, d.before a0 Z = true) : ((Jvm.Cond.methodLink "java/lang/String" (335 : Nat) ({ cls := "java/lang/String", name := "coder", desc := "()B" } : Jvm.MethodName))).before a0 Z = true := hw _ (List.mem_of_getElem? (i := 64) rfl)
theorem w65 {Z : State} {a0 : Array Value} (hw : ∀ d ∈ tables_1, d.before a0 Z = true) : ((Jvm.Cond.declares ({ cls := "java/lang/String", name := "coder", desc := "()B" } : Jvm.MethodName))).before a0 Z = true := hw _ (List.mem_of_getElem? (i := 65) rfl)
theorem w66 {Z : State} {a0 : Array Value} (hw : ∀ d ∈ tables_1, d.before a0 Z = true) : ((Jvm.Cond.instanceMethod ({ cls := "java/lang/String", name := "coder", desc := "()B" } : Jvm.MethodName))).before a0 Z = true := hw _ (List.mem_of_getElem? (i := 66) rfl)
theorem w67 {Z : State} {a0 : Array Value} (hw : ∀ d ∈ tables_1, d.before a0 Z = true) : ((Jvm.Cond.selects "java/lang/String" ({ cls := "java/lang/String", name := "coder", desc := "()B" } : Jvm.MethodName) ({ cls := "java/lang/String", name := "coder", desc := "()B" } : Jvm.MethodName))).before a0 Z = true := hw _ (List.mem_of_getElem? (i := 67) rfl)
theorem w68 {Z : State} {a0 : Array Value} (hw : ∀ d ∈ tables_1, d.before a0 Z = true) : ((Jvm.Cond.code ({ cls := "java/lang/String", name := "coder", desc := "()B" } : Jvm.MethodName) jdk_42_method_152_code (1 : Nat) (Option.some Jvm.ClassFile.FieldType.byte))).before a0 Z = true := hw _ (List.mem_of_getElem? (i := 68) rfl)
theorem w69 {Z : State} {a0 : Array Value} (hw : ∀ d ∈ tables_1, d.before a0 Z = true) : ((Jvm.Cond.methodLink "com/example/bounded_lock/boundedlock/LockName" (27 : Nat) ({ cls := "java/lang/String", name := "codePointCount", desc := "(II)I" } : Jvm.MethodName))).before a0 Z = true := hw _ (List.mem_of_getElem? (i := 69) rfl)
theorem w70 {Z : State} {a0 : Array Value} (hw : ∀ d ∈ tables_1, d.before a0 Z = true) : ((Jvm.Cond.declares ({ cls := "java/lang/String", name := "codePointCount", desc := "(II)I" } : Jvm.MethodName))).before a0 Z = true := hw _ (List.mem_of_getElem? (i := 70) rfl)
theorem w71 {Z : State} {a0 : Array Value} (hw : ∀ d ∈ tables_1, d.before a0 Z = true) : ((Jvm.Cond.instanceMethod ({ cls := "java/lang/String", name := "codePointCount", desc := "(II)I" } : Jvm.MethodName))).before a0 Z = true := hw _ (List.mem_of_getElem? (i := 71) rfl)
theorem w72 {Z : State} {a0 : Array Value} (hw : ∀ d ∈ tables_1, d.before a0 Z = true) : ((Jvm.Cond.selects "java/lang/String" ({ cls := "java/lang/String", name := "codePointCount", desc := "(II)I" } : Jvm.MethodName) ({ cls := "java/lang/String", name := "codePointCount", desc := "(II)I" } : Jvm.MethodName))).before a0 Z = true := hw _ (List.mem_of_getElem? (i := 72) rfl)
theorem w73 {Z : State} {a0 : Array Value} (hw : ∀ d ∈ tables_1, d.before a0 Z = true) : ((Jvm.Cond.code ({ cls := "java/lang/String", name := "codePointCount", desc := "(II)I" } : Jvm.MethodName) jdk_42_method_59_code (3 : Nat) (Option.some Jvm.ClassFile.FieldType.int))).before a0 Z = true := hw _ (List.mem_of_getElem? (i := 73) rfl)
theorem w74 {Z : State} {a0 : Array Value} (hw : ∀ d ∈ tables_1, d.before a0 Z = true) : ((Jvm.Cond.methodLink "java/lang/String" (505 : Nat) ({ cls := "java/lang/String", name := "length", desc := "()I" } : Jvm.MethodName))).before a0 Z = true := hw _ (List.mem_of_getElem? (i := 74) rfl)
theorem w75 {Z : State} {a0 : Array Value} (hw : ∀ d ∈ tables_1, d.before a0 Z = true) : ((Jvm.Cond.methodLink "java/lang/String" (511 : Nat) ({ cls := "java/util/Objects", name := "checkFromToIndex", desc := "(III)I" } : Jvm.MethodName))).before a0 Z = true := hw _ (List.mem_of_getElem? (i := 75) rfl)
theorem w76 {Z : State} {a0 : Array Value} (hw : ∀ d ∈ tables_1, d.before a0 Z = true) : ((Jvm.Cond.static ({ cls := "java/util/Objects", name := "checkFromToIndex", desc := "(III)I" } : Jvm.MethodName))).before a0 Z = true := hw _ (List.mem_of_getElem? (i := 76) rfl)
theorem w77 {Z : State} {a0 : Array Value} (hw : ∀ d ∈ tables_1, d.before a0 Z = true) : ((Jvm.Cond.code ({ cls := "java/util/Objects", name := "checkFromToIndex", desc := "(III)I" } : Jvm.MethodName) jdk_31_method_18_code (3 : Nat) (Option.some Jvm.ClassFile.FieldType.int))).before a0 Z = true := hw _ (List.mem_of_getElem? (i := 77) rfl)
theorem w78 {Z : State} {a0 : Array Value} (hw : ∀ d ∈ tables_1, d.before a0 Z = true) : ((Jvm.Cond.methodLink "java/util/Objects" (111 : Nat) ({ cls := "jdk/internal/util/Preconditions", name := "checkFromToIndex", desc := "(IIILjava/util/function/BiFunction;)I" } : Jvm.MethodName))).before a0 Z = true := hw _ (List.mem_of_getElem? (i := 78) rfl)
theorem w79 {Z : State} {a0 : Array Value} (hw : ∀ d ∈ tables_1, d.before a0 Z = true) : ((Jvm.Cond.static ({ cls := "jdk/internal/util/Preconditions", name := "checkFromToIndex", desc := "(IIILjava/util/function/BiFunction;)I" } : Jvm.MethodName))).before a0 Z = true := hw _ (List.mem_of_getElem? (i := 79) rfl)
theorem w80 {Z : State} {a0 : Array Value} (hw : ∀ d ∈ tables_1, d.before a0 Z = true) : ((Jvm.Cond.initialized "jdk/internal/util/Preconditions")).before a0 Z = true := hw _ (List.mem_of_getElem? (i := 80) rfl)
theorem w81 {Z : State} {a0 : Array Value} (hw : ∀ d ∈ tables_1, d.before a0 Z = true) : ((Jvm.Cond.code ({ cls := "jdk/internal/util/Preconditions", name := "checkFromToIndex", desc := "(IIILjava/util/function/BiFunction;)I" } : Jvm.MethodName) jdk_41_method_12_code (4 : Nat) (Option.some Jvm.ClassFile.FieldType.int))).before a0 Z = true := hw _ (List.mem_of_getElem? (i := 81) rfl)
theorem w82 {Z : State} {a0 : Array Value} (hw : ∀ d ∈ tables_1, d.before a0 Z = true) : ((Jvm.Cond.methodLink "java/lang/String" (492 : Nat) ({ cls := "java/lang/String", name := "isLatin1", desc := "()Z" } : Jvm.MethodName))).before a0 Z = true := hw _ (List.mem_of_getElem? (i := 82) rfl)
theorem w83 {Z : State} {a0 : Array Value} (hw : ∀ d ∈ tables_1, d.before a0 Z = true) : ((Jvm.Cond.declares ({ cls := "java/lang/String", name := "isLatin1", desc := "()Z" } : Jvm.MethodName))).before a0 Z = true := hw _ (List.mem_of_getElem? (i := 83) rfl)
theorem w84 {Z : State} {a0 : Array Value} (hw : ∀ d ∈ tables_1, d.before a0 Z = true) : ((Jvm.Cond.instanceMethod ({ cls := "java/lang/String", name := "isLatin1", desc := "()Z" } : Jvm.MethodName))).before a0 Z = true := hw _ (List.mem_of_getElem? (i := 84) rfl)
theorem w85 {Z : State} {a0 : Array Value} (hw : ∀ d ∈ tables_1, d.before a0 Z = true) : ((Jvm.Cond.selects "java/lang/String" ({ cls := "java/lang/String", name := "isLatin1", desc := "()Z" } : Jvm.MethodName) ({ cls := "java/lang/String", name := "isLatin1", desc := "()Z" } : Jvm.MethodName))).before a0 Z = true := hw _ (List.mem_of_getElem? (i := 85) rfl)
theorem w86 {Z : State} {a0 : Array Value} (hw : ∀ d ∈ tables_1, d.before a0 Z = true) : ((Jvm.Cond.code ({ cls := "java/lang/String", name := "isLatin1", desc := "()Z" } : Jvm.MethodName) jdk_42_method_154_code (1 : Nat) (Option.some Jvm.ClassFile.FieldType.boolean))).before a0 Z = true := hw _ (List.mem_of_getElem? (i := 86) rfl)
theorem w87 {Z : State} {a0 : Array Value} (hw : ∀ d ∈ tables_1, d.before a0 Z = true) : ((Jvm.Cond.methodLink "com/example/bounded_lock/boundedlock/LockName" (40 : Nat) ({ cls := "com/example/bounded_lock/boundedlock/LockName", name := "indexOfUnpairedSurrogate", desc := "(Ljava/lang/String;)I" } : Jvm.MethodName))).before a0 Z = true := hw _ (List.mem_of_getElem? (i := 87) rfl)
theorem w88 {Z : State} {a0 : Array Value} (hw : ∀ d ∈ tables_1, d.before a0 Z = true) : ((Jvm.Cond.static ({ cls := "com/example/bounded_lock/boundedlock/LockName", name := "indexOfUnpairedSurrogate", desc := "(Ljava/lang/String;)I" } : Jvm.MethodName))).before a0 Z = true := hw _ (List.mem_of_getElem? (i := 88) rfl)
theorem w89 {Z : State} {a0 : Array Value} (hw : ∀ d ∈ tables_1, d.before a0 Z = true) : ((Jvm.Cond.code ({ cls := "com/example/bounded_lock/boundedlock/LockName", name := "indexOfUnpairedSurrogate", desc := "(Ljava/lang/String;)I" } : Jvm.MethodName) prog_1_method_3_code (3 : Nat) (Option.some Jvm.ClassFile.FieldType.int))).before a0 Z = true := hw _ (List.mem_of_getElem? (i := 89) rfl)
theorem w90 {Z : State} {a0 : Array Value} (hw : ∀ d ∈ tables_1, d.before a0 Z = true) : ((Jvm.Cond.methodLink "com/example/bounded_lock/boundedlock/LockName" (46 : Nat) ({ cls := "java/lang/String", name := "codePointAt", desc := "(I)I" } : Jvm.MethodName))).before a0 Z = true := hw _ (List.mem_of_getElem? (i := 90) rfl)
theorem w91 {Z : State} {a0 : Array Value} (hw : ∀ d ∈ tables_1, d.before a0 Z = true) : ((Jvm.Cond.declares ({ cls := "java/lang/String", name := "codePointAt", desc := "(I)I" } : Jvm.MethodName))).before a0 Z = true := hw _ (List.mem_of_getElem? (i := 91) rfl)
theorem w92 {Z : State} {a0 : Array Value} (hw : ∀ d ∈ tables_1, d.before a0 Z = true) : ((Jvm.Cond.instanceMethod ({ cls := "java/lang/String", name := "codePointAt", desc := "(I)I" } : Jvm.MethodName))).before a0 Z = true := hw _ (List.mem_of_getElem? (i := 92) rfl)
theorem w93 {Z : State} {a0 : Array Value} (hw : ∀ d ∈ tables_1, d.before a0 Z = true) : ((Jvm.Cond.selects "java/lang/String" ({ cls := "java/lang/String", name := "codePointAt", desc := "(I)I" } : Jvm.MethodName) ({ cls := "java/lang/String", name := "codePointAt", desc := "(I)I" } : Jvm.MethodName))).before a0 Z = true := hw _ (List.mem_of_getElem? (i := 93) rfl)
theorem w94 {Z : State} {a0 : Array Value} (hw : ∀ d ∈ tables_1, d.before a0 Z = true) : ((Jvm.Cond.code ({ cls := "java/lang/String", name := "codePointAt", desc := "(I)I" } : Jvm.MethodName) jdk_42_method_57_code (3 : Nat) (Option.some Jvm.ClassFile.FieldType.int))).before a0 Z = true := hw _ (List.mem_of_getElem? (i := 94) rfl)
theorem w95 {Z : State} {a0 : Array Value} (hw : ∀ d ∈ tables_1, d.before a0 Z = true) : ((Jvm.Cond.methodLink "java/lang/String" (499 : Nat) ({ cls := "java/lang/String", name := "checkIndex", desc := "(II)V" } : Jvm.MethodName))).before a0 Z = true := hw _ (List.mem_of_getElem? (i := 95) rfl)
theorem w96 {Z : State} {a0 : Array Value} (hw : ∀ d ∈ tables_1, d.before a0 Z = true) : ((Jvm.Cond.static ({ cls := "java/lang/String", name := "checkIndex", desc := "(II)V" } : Jvm.MethodName))).before a0 Z = true := hw _ (List.mem_of_getElem? (i := 96) rfl)
theorem w97 {Z : State} {a0 : Array Value} (hw : ∀ d ∈ tables_1, d.before a0 Z = true) : ((Jvm.Cond.code ({ cls := "java/lang/String", name := "checkIndex", desc := "(II)V" } : Jvm.MethodName) jdk_42_method_155_code (2 : Nat) (Option.none : Option Jvm.ClassFile.FieldType))).before a0 Z = true := hw _ (List.mem_of_getElem? (i := 97) rfl)
theorem w98 {Z : State} {a0 : Array Value} (hw : ∀ d ∈ tables_1, d.before a0 Z = true) : ((Jvm.Cond.fieldLink "java/lang/String" (1053 : Nat) "jdk/internal/util/Preconditions" "SIOOBE_FORMATTER" "Ljava/util/function/BiFunction;")).before a0 Z = true := hw _ (List.mem_of_getElem? (i := 98) rfl)
theorem w99 {Z : State} {a0 : Array Value} (hw : ∀ d ∈ tables_1, d.before a0 Z = true) : ((Jvm.Cond.methodLink "java/lang/String" (1059 : Nat) ({ cls := "jdk/internal/util/Preconditions", name := "checkIndex", desc := "(IILjava/util/function/BiFunction;)I" } : Jvm.MethodName))).before a0 Z = true := hw _ (List.mem_of_getElem? (i := 99) rfl)
theorem w100 {Z : State} {a0 : Array Value} (hw : ∀ d ∈ tables_1, d.before a0 Z = true) : ((Jvm.Cond.static ({ cls := "jdk/internal/util/Preconditions", name := "checkIndex", desc := "(IILjava/util/function/BiFunction;)I" } : Jvm.MethodName))).before a0 Z = true := hw _ (List.mem_of_getElem? (i := 100) rfl)
theorem w101 {Z : State} {a0 : Array Value} (hw : ∀ d ∈ tables_1, d.before a0 Z = true) : ((Jvm.Cond.code ({ cls := "jdk/internal/util/Preconditions", name := "checkIndex", desc := "(IILjava/util/function/BiFunction;)I" } : Jvm.MethodName) jdk_41_method_11_code (3 : Nat) (Option.some Jvm.ClassFile.FieldType.int))).before a0 Z = true := hw _ (List.mem_of_getElem? (i := 101) rfl)
theorem w102 {Z : State} {a0 : Array Value} (hw : ∀ d ∈ tables_1, d.before a0 Z = true) : ((Jvm.Cond.constant "com/example/bounded_lock/boundedlock/LockName" (52 : Nat) (55296 : Int32))).before a0 Z = true := hw _ (List.mem_of_getElem? (i := 102) rfl)
theorem w103 {Z : State} {a0 : Array Value} (hw : ∀ d ∈ tables_1, d.before a0 Z = true) : ((Jvm.Cond.methodLink "com/example/bounded_lock/boundedlock/LockName" (54 : Nat) ({ cls := "java/lang/Character", name := "charCount", desc := "(I)I" } : Jvm.MethodName))).before a0 Z = true := hw _ (List.mem_of_getElem? (i := 103) rfl)
theorem w104 {Z : State} {a0 : Array Value} (hw : ∀ d ∈ tables_1, d.before a0 Z = true) : ((Jvm.Cond.static ({ cls := "java/lang/Character", name := "charCount", desc := "(I)I" } : Jvm.MethodName))).before a0 Z = true := hw _ (List.mem_of_getElem? (i := 104) rfl)
theorem w105 {Z : State} {a0 : Array Value} (hw : ∀ d ∈ tables_1, d.before a0 Z = true) : ((Jvm.Cond.initialized "java/lang/Character")).before a0 Z = true := hw _ (List.mem_of_getElem? (i := 105) rfl)
theorem w106 {Z : State} {a0 : Array Value} (hw : ∀ d ∈ tables_1, d.before a0 Z = true) : ((Jvm.Cond.code ({ cls := "java/lang/Character", name := "charCount", desc := "(I)I" } : Jvm.MethodName) jdk_89_method_18_code (1 : Nat) (Option.some Jvm.ClassFile.FieldType.int))).before a0 Z = true := hw _ (List.mem_of_getElem? (i := 106) rfl)
theorem w107 {Z : State} {a0 : Array Value} (hw : ∀ d ∈ tables_1, d.before a0 Z = true) : ((Jvm.Cond.constant "java/lang/Character" (73 : Nat) (65536 : Int32))).before a0 Z = true := hw _ (List.mem_of_getElem? (i := 107) rfl)
theorem w108 {Z : State} {a0 : Array Value} (hw : ∀ d ∈ tables_1, d.before a0 Z = true) : ((Jvm.Cond.classLink "com/example/bounded_lock/boundedlock/LockName" (8 : Nat) "com/example/bounded_lock/boundedlock/LockName")).before a0 Z = true := hw _ (List.mem_of_getElem? (i := 108) rfl)
theorem w109 {Z : State} {a0 : Array Value} (hw : ∀ d ∈ tables_1, d.before a0 Z = true) : ((Jvm.Cond.instantiable "com/example/bounded_lock/boundedlock/LockName" (1 : Nat))).before a0 Z = true := hw _ (List.mem_of_getElem? (i := 109) rfl)
theorem w110 {Z : State} {a0 : Array Value} (hw : ∀ d ∈ tables_1, d.before a0 Z = true) : ((Jvm.Cond.methodLink "com/example/bounded_lock/boundedlock/LockName" (45 : Nat) ({ cls := "com/example/bounded_lock/boundedlock/LockName", name := "<init>", desc := "(Ljava/lang/String;)V" } : Jvm.MethodName))).before a0 Z = true := hw _ (List.mem_of_getElem? (i := 110) rfl)
theorem w111 {Z : State} {a0 : Array Value} (hw : ∀ d ∈ tables_1, d.before a0 Z = true) : ((Jvm.Cond.instanceMethod ({ cls := "com/example/bounded_lock/boundedlock/LockName", name := "<init>", desc := "(Ljava/lang/String;)V" } : Jvm.MethodName))).before a0 Z = true := hw _ (List.mem_of_getElem? (i := 111) rfl)
theorem w112 {Z : State} {a0 : Array Value} (hw : ∀ d ∈ tables_1, d.before a0 Z = true) : ((Jvm.Cond.code ({ cls := "com/example/bounded_lock/boundedlock/LockName", name := "<init>", desc := "(Ljava/lang/String;)V" } : Jvm.MethodName) prog_1_method_1_code (2 : Nat) (Option.none : Option Jvm.ClassFile.FieldType))).before a0 Z = true := hw _ (List.mem_of_getElem? (i := 112) rfl)
theorem w113 {Z : State} {a0 : Array Value} (hw : ∀ d ∈ tables_1, d.before a0 Z = true) : ((Jvm.Cond.methodLink "com/example/bounded_lock/boundedlock/LockName" (1 : Nat) ({ cls := "java/lang/Object", name := "<init>", desc := "()V" } : Jvm.MethodName))).before a0 Z = true := hw _ (List.mem_of_getElem? (i := 113) rfl)
theorem w114 {Z : State} {a0 : Array Value} (hw : ∀ d ∈ tables_1, d.before a0 Z = true) : ((Jvm.Cond.fieldLink "com/example/bounded_lock/boundedlock/LockName" (7 : Nat) "com/example/bounded_lock/boundedlock/LockName" "value" "Ljava/lang/String;")).before a0 Z = true := hw _ (List.mem_of_getElem? (i := 114) rfl)
theorem w115 {Z : State} {a0 : Array Value} (hw : ∀ d ∈ tables_1, d.before a0 Z = true) : ((Jvm.Cond.laysFinal "com/example/bounded_lock/boundedlock/LockName" "com/example/bounded_lock/boundedlock/LockName" "value" "Ljava/lang/String;")).before a0 Z = true := hw _ (List.mem_of_getElem? (i := 115) rfl)
theorem w116 {Z : State} {a0 : Array Value} (hw : ∀ d ∈ tables_1, d.before a0 Z = true) : ((Jvm.Cond.methodLink "com/example/bounded_lock/boundedlock/LockNameOfPinLaw" (44 : Nat) ({ cls := "com/example/bounded_lock/boundedlock/LockName", name := "value", desc := "()Ljava/lang/String;" } : Jvm.MethodName))).before a0 Z = true := hw _ (List.mem_of_getElem? (i := 116) rfl)
theorem w117 {Z : State} {a0 : Array Value} (hw : ∀ d ∈ tables_1, d.before a0 Z = true) : ((Jvm.Cond.declares ({ cls := "com/example/bounded_lock/boundedlock/LockName", name := "value", desc := "()Ljava/lang/String;" } : Jvm.MethodName))).before a0 Z = true := hw _ (List.mem_of_getElem? (i := 117) rfl)
theorem w118 {Z : State} {a0 : Array Value} (hw : ∀ d ∈ tables_1, d.before a0 Z = true) : ((Jvm.Cond.instanceMethod ({ cls := "com/example/bounded_lock/boundedlock/LockName", name := "value", desc := "()Ljava/lang/String;" } : Jvm.MethodName))).before a0 Z = true := hw _ (List.mem_of_getElem? (i := 118) rfl)
theorem w119 {Z : State} {a0 : Array Value} (hw : ∀ d ∈ tables_1, d.before a0 Z = true) : ((Jvm.Cond.selects "com/example/bounded_lock/boundedlock/LockName" ({ cls := "com/example/bounded_lock/boundedlock/LockName", name := "value", desc := "()Ljava/lang/String;" } : Jvm.MethodName) ({ cls := "com/example/bounded_lock/boundedlock/LockName", name := "value", desc := "()Ljava/lang/String;" } : Jvm.MethodName))).before a0 Z = true := hw _ (List.mem_of_getElem? (i := 119) rfl)
theorem w120 {Z : State} {a0 : Array Value} (hw : ∀ d ∈ tables_1, d.before a0 Z = true) : ((Jvm.Cond.code ({ cls := "com/example/bounded_lock/boundedlock/LockName", name := "value", desc := "()Ljava/lang/String;" } : Jvm.MethodName) prog_1_method_4_code (1 : Nat) (Option.some (Jvm.ClassFile.FieldType.object "java/lang/String")))).before a0 Z = true := hw _ (List.mem_of_getElem? (i := 120) rfl)
theorem w121 {Z : State} {a0 : Array Value} (hw : ∀ d ∈ tables_1, d.before a0 Z = true) : ((Jvm.Cond.methodLink "com/example/bounded_lock/boundedlock/LockNameOfPinLaw" (48 : Nat) ({ cls := "java/lang/String", name := "equals", desc := "(Ljava/lang/Object;)Z" } : Jvm.MethodName))).before a0 Z = true := hw _ (List.mem_of_getElem? (i := 121) rfl)
theorem w122 {Z : State} {a0 : Array Value} (hw : ∀ d ∈ tables_1, d.before a0 Z = true) : ((Jvm.Cond.declares ({ cls := "java/lang/String", name := "equals", desc := "(Ljava/lang/Object;)Z" } : Jvm.MethodName))).before a0 Z = true := hw _ (List.mem_of_getElem? (i := 122) rfl)
theorem w123 {Z : State} {a0 : Array Value} (hw : ∀ d ∈ tables_1, d.before a0 Z = true) : ((Jvm.Cond.instanceMethod ({ cls := "java/lang/String", name := "equals", desc := "(Ljava/lang/Object;)Z" } : Jvm.MethodName))).before a0 Z = true := hw _ (List.mem_of_getElem? (i := 123) rfl)
theorem w124 {Z : State} {a0 : Array Value} (hw : ∀ d ∈ tables_1, d.before a0 Z = true) : ((Jvm.Cond.selects "java/lang/String" ({ cls := "java/lang/String", name := "equals", desc := "(Ljava/lang/Object;)Z" } : Jvm.MethodName) ({ cls := "java/lang/String", name := "equals", desc := "(Ljava/lang/Object;)Z" } : Jvm.MethodName))).before a0 Z = true := hw _ (List.mem_of_getElem? (i := 124) rfl)
theorem w125 {Z : State} {a0 : Array Value} (hw : ∀ d ∈ tables_1, d.before a0 Z = true) : ((Jvm.Cond.code ({ cls := "java/lang/String", name := "equals", desc := "(Ljava/lang/Object;)Z" } : Jvm.MethodName) jdk_42_method_66_code (3 : Nat) (Option.some Jvm.ClassFile.FieldType.boolean))).before a0 Z = true := hw _ (List.mem_of_getElem? (i := 125) rfl)
theorem w126 {Z : State} {a0 : Array Value} (hw : ∀ d ∈ tables_1, d.before a0 Z = true) : ((Jvm.Cond.classLink "java/lang/String" (10 : Nat) "java/lang/String")).before a0 Z = true := hw _ (List.mem_of_getElem? (i := 126) rfl)
theorem w127 {Z : State} {a0 : Array Value} (hw : ∀ d ∈ tables_1, d.before a0 Z = true) : ((Jvm.Cond.methodLink "java/lang/String" (541 : Nat) ({ cls := "java/lang/StringLatin1", name := "equals", desc := "([B[B)Z" } : Jvm.MethodName))).before a0 Z = true := hw _ (List.mem_of_getElem? (i := 127) rfl)
theorem w128 {Z : State} {a0 : Array Value} (hw : ∀ d ∈ tables_1, d.before a0 Z = true) : ((Jvm.Cond.static ({ cls := "java/lang/StringLatin1", name := "equals", desc := "([B[B)Z" } : Jvm.MethodName))).before a0 Z = true := hw _ (List.mem_of_getElem? (i := 128) rfl)
theorem w129 {Z : State} {a0 : Array Value} (hw : ∀ d ∈ tables_1, d.before a0 Z = true) : ((Jvm.Cond.initialized "java/lang/StringLatin1")).before a0 Z = true := hw _ (List.mem_of_getElem? (i := 129) rfl)
theorem w130 {Z : State} {a0 : Array Value} (hw : ∀ d ∈ tables_1, d.before a0 Z = true) : ((Jvm.Cond.code ({ cls := "java/lang/StringLatin1", name := "equals", desc := "([B[B)Z" } : Jvm.MethodName) jdk_43_method_13_code (3 : Nat) (Option.some Jvm.ClassFile.FieldType.boolean))).before a0 Z = true := hw _ (List.mem_of_getElem? (i := 130) rfl)
theorem w131 {Z : State} {a0 : Array Value} (hw : ∀ d ∈ tables_1, d.before a0 Z = true) : ((Jvm.Cond.methodLink "com/example/bounded_lock/boundedlock/LockNameOfPinLaw" (52 : Nat) ({ cls := "java/lang/String", name := "length", desc := "()I" } : Jvm.MethodName))).before a0 Z = true := hw _ (List.mem_of_getElem? (i := 131) rfl)
theorem w132 {Z : State} {a0 : Array Value} (hw : ∀ d ∈ tables_1, d.before a0 Z = true) : ((Jvm.Cond.methodLink "com/example/bounded_lock/boundedlock/LockNameOfPinLaw" (56 : Nat) ({ cls := "com/example/bounded_lock/boundedlock/LockName", name := "equals", desc := "(Ljava/lang/Object;)Z" } : Jvm.MethodName))).before a0 Z = true := hw _ (List.mem_of_getElem? (i := 132) rfl)
theorem w133 {Z : State} {a0 : Array Value} (hw : ∀ d ∈ tables_1, d.before a0 Z = true) : ((Jvm.Cond.declares ({ cls := "com/example/bounded_lock/boundedlock/LockName", name := "equals", desc := "(Ljava/lang/Object;)Z" } : Jvm.MethodName))).before a0 Z = true := hw _ (List.mem_of_getElem? (i := 133) rfl)
theorem w134 {Z : State} {a0 : Array Value} (hw : ∀ d ∈ tables_1, d.before a0 Z = true) : ((Jvm.Cond.instanceMethod ({ cls := "com/example/bounded_lock/boundedlock/LockName", name := "equals", desc := "(Ljava/lang/Object;)Z" } : Jvm.MethodName))).before a0 Z = true := hw _ (List.mem_of_getElem? (i := 134) rfl)
theorem w135 {Z : State} {a0 : Array Value} (hw : ∀ d ∈ tables_1, d.before a0 Z = true) : ((Jvm.Cond.selects "com/example/bounded_lock/boundedlock/LockName" ({ cls := "com/example/bounded_lock/boundedlock/LockName", name := "equals", desc := "(Ljava/lang/Object;)Z" } : Jvm.MethodName) ({ cls := "com/example/bounded_lock/boundedlock/LockName", name := "equals", desc := "(Ljava/lang/Object;)Z" } : Jvm.MethodName))).before a0 Z = true := hw _ (List.mem_of_getElem? (i := 135) rfl)
theorem w136 {Z : State} {a0 : Array Value} (hw : ∀ d ∈ tables_1, d.before a0 Z = true) : ((Jvm.Cond.code ({ cls := "com/example/bounded_lock/boundedlock/LockName", name := "equals", desc := "(Ljava/lang/Object;)Z" } : Jvm.MethodName) prog_1_method_5_code (3 : Nat) (Option.some Jvm.ClassFile.FieldType.boolean))).before a0 Z = true := hw _ (List.mem_of_getElem? (i := 136) rfl)
theorem w138 {Z : State} {a0 : Array Value} (hw : ∀ d ∈ tables_1, d.before a0 Z = true) : ((Jvm.Cond.methodLink "com/example/bounded_lock/boundedlock/LockName" (57 : Nat) ({ cls := "java/lang/String", name := "equals", desc := "(Ljava/lang/Object;)Z" } : Jvm.MethodName))).before a0 Z = true := hw _ (List.mem_of_getElem? (i := 138) rfl)
theorem w139 {Z : State} {a0 : Array Value} (hw : ∀ d ∈ tables_1, d.before a0 Z = true) : ((Jvm.Cond.constant "com/example/bounded_lock/boundedlock/LockNameOfPinLaw" (9 : Nat) (65535 : Int32))).before a0 Z = true := hw _ (List.mem_of_getElem? (i := 139) rfl)
theorem w140 {Z : State} {a0 : Array Value} (hw : ∀ d ∈ tables_1, d.before a0 Z = true) : ((Jvm.Cond.constant "com/example/bounded_lock/boundedlock/LockNameOfPinLaw" (10 : Nat) (56319 : Int32))).before a0 Z = true := hw _ (List.mem_of_getElem? (i := 140) rfl)
theorem w141 {Z : State} {a0 : Array Value} (hw : ∀ d ∈ tables_1, d.before a0 Z = true) : ((Jvm.Cond.constant "com/example/bounded_lock/boundedlock/LockNameOfPinLaw" (11 : Nat) (57343 : Int32))).before a0 Z = true := hw _ (List.mem_of_getElem? (i := 141) rfl)
theorem w142 {Z : State} {a0 : Array Value} (hw : ∀ d ∈ tables_1, d.before a0 Z = true) : ((Jvm.Cond.methodLink "java/lang/StringUTF16" (119 : Nat) ({ cls := "java/lang/StringUTF16", name := "toBytes", desc := "([CII)[B" } : Jvm.MethodName))).before a0 Z = true := hw _ (List.mem_of_getElem? (i := 142) rfl)
theorem w143 {Z : State} {a0 : Array Value} (hw : ∀ d ∈ tables_1, d.before a0 Z = true) : ((Jvm.Cond.static ({ cls := "java/lang/StringUTF16", name := "toBytes", desc := "([CII)[B" } : Jvm.MethodName))).before a0 Z = true := hw _ (List.mem_of_getElem? (i := 143) rfl)
theorem w144 {Z : State} {a0 : Array Value} (hw : ∀ d ∈ tables_1, d.before a0 Z = true) : ((Jvm.Cond.code ({ cls := "java/lang/StringUTF16", name := "toBytes", desc := "([CII)[B" } : Jvm.MethodName) jdk_52_method_14_code (5 : Nat) (Option.some (Jvm.ClassFile.FieldType.array Jvm.ClassFile.FieldType.byte)))).before a0 Z = true := hw _ (List.mem_of_getElem? (i := 144) rfl)
theorem w145 {Z : State} {a0 : Array Value} (hw : ∀ d ∈ tables_1, d.before a0 Z = true) : ((Jvm.Cond.methodLink "java/lang/StringUTF16" (107 : Nat) ({ cls := "java/lang/StringUTF16", name := "newBytesFor", desc := "(I)[B" } : Jvm.MethodName))).before a0 Z = true := hw _ (List.mem_of_getElem? (i := 145) rfl)
theorem w146 {Z : State} {a0 : Array Value} (hw : ∀ d ∈ tables_1, d.before a0 Z = true) : ((Jvm.Cond.static ({ cls := "java/lang/StringUTF16", name := "newBytesFor", desc := "(I)[B" } : Jvm.MethodName))).before a0 Z = true := hw _ (List.mem_of_getElem? (i := 146) rfl)
theorem w147 {Z : State} {a0 : Array Value} (hw : ∀ d ∈ tables_1, d.before a0 Z = true) : ((Jvm.Cond.code ({ cls := "java/lang/StringUTF16", name := "newBytesFor", desc := "(I)[B" } : Jvm.MethodName) jdk_52_method_2_code (1 : Nat) (Option.some (Jvm.ClassFile.FieldType.array Jvm.ClassFile.FieldType.byte)))).before a0 Z = true := hw _ (List.mem_of_getElem? (i := 147) rfl)
theorem w148 {Z : State} {a0 : Array Value} (hw : ∀ d ∈ tables_1, d.before a0 Z = true) : ((Jvm.Cond.methodLink "java/lang/StringUTF16" (11 : Nat) ({ cls := "java/lang/StringUTF16", name := "newBytesLength", desc := "(I)I" } : Jvm.MethodName))).before a0 Z = true := hw _ (List.mem_of_getElem? (i := 148) rfl)
theorem w149 {Z : State} {a0 : Array Value} (hw : ∀ d ∈ tables_1, d.before a0 Z = true) : ((Jvm.Cond.static ({ cls := "java/lang/StringUTF16", name := "newBytesLength", desc := "(I)I" } : Jvm.MethodName))).before a0 Z = true := hw _ (List.mem_of_getElem? (i := 149) rfl)
theorem w150 {Z : State} {a0 : Array Value} (hw : ∀ d ∈ tables_1, d.before a0 Z = true) : ((Jvm.Cond.code ({ cls := "java/lang/StringUTF16", name := "newBytesLength", desc := "(I)I" } : Jvm.MethodName) jdk_52_method_3_code (1 : Nat) (Option.some Jvm.ClassFile.FieldType.int))).before a0 Z = true := hw _ (List.mem_of_getElem? (i := 150) rfl)
theorem w151 {Z : State} {a0 : Array Value} (hw : ∀ d ∈ tables_1, d.before a0 Z = true) : ((Jvm.Cond.constant "java/lang/StringUTF16" (20 : Nat) (1073741823 : Int32))).before a0 Z = true := hw _ (List.mem_of_getElem? (i := 151) rfl)
theorem w152 {Z : State} {a0 : Array Value} (hw : ∀ d ∈ tables_1, d.before a0 Z = true) : ((Jvm.Cond.methodLink "java/lang/StringUTF16" (111 : Nat) ({ cls := "java/lang/StringUTF16", name := "putChar", desc := "([BII)V" } : Jvm.MethodName))).before a0 Z = true := hw _ (List.mem_of_getElem? (i := 152) rfl)
theorem w153 {Z : State} {a0 : Array Value} (hw : ∀ d ∈ tables_1, d.before a0 Z = true) : ((Jvm.Cond.static ({ cls := "java/lang/StringUTF16", name := "putChar", desc := "([BII)V" } : Jvm.MethodName))).before a0 Z = true := hw _ (List.mem_of_getElem? (i := 153) rfl)
theorem w154 {Z : State} {a0 : Array Value} (hw : ∀ d ∈ tables_1, d.before a0 Z = true) : ((Jvm.Cond.code ({ cls := "java/lang/StringUTF16", name := "putChar", desc := "([BII)V" } : Jvm.MethodName) jdk_52_method_4_code (3 : Nat) (Option.none : Option Jvm.ClassFile.FieldType))).before a0 Z = true := hw _ (List.mem_of_getElem? (i := 154) rfl)
theorem w155 {Z : State} {a0 : Array Value} (hw : ∀ d ∈ tables_1, d.before a0 Z = true) : ((Jvm.Cond.fieldLink "java/lang/StringUTF16" (44 : Nat) "java/lang/StringUTF16" "$assertionsDisabled" "Z")).before a0 Z = true := hw _ (List.mem_of_getElem? (i := 155) rfl)
theorem w156 {Z : State} {a0 : Array Value} (hw : ∀ d ∈ tables_1, d.before a0 Z = true) : ((Jvm.Cond.fieldLink "java/lang/StringUTF16" (59 : Nat) "java/lang/StringUTF16" "HI_BYTE_SHIFT" "I")).before a0 Z = true := hw _ (List.mem_of_getElem? (i := 156) rfl)
theorem w157 {Z : State} {a0 : Array Value} (hw : ∀ d ∈ tables_1, d.before a0 Z = true) : ((Jvm.Cond.fieldLink "java/lang/StringUTF16" (63 : Nat) "java/lang/StringUTF16" "LO_BYTE_SHIFT" "I")).before a0 Z = true := hw _ (List.mem_of_getElem? (i := 157) rfl)
theorem w158 {Z : State} {a0 : Array Value} (hw : ∀ d ∈ tables_1, d.before a0 Z = true) : ((Jvm.Cond.methodLink "java/lang/StringUTF16" (71 : Nat) ({ cls := "java/lang/StringUTF16", name := "getChar", desc := "([BI)C" } : Jvm.MethodName))).before a0 Z = true := hw _ (List.mem_of_getElem? (i := 158) rfl)
theorem w159 {Z : State} {a0 : Array Value} (hw : ∀ d ∈ tables_1, d.before a0 Z = true) : ((Jvm.Cond.static ({ cls := "java/lang/StringUTF16", name := "getChar", desc := "([BI)C" } : Jvm.MethodName))).before a0 Z = true := hw _ (List.mem_of_getElem? (i := 159) rfl)
theorem w160 {Z : State} {a0 : Array Value} (hw : ∀ d ∈ tables_1, d.before a0 Z = true) : ((Jvm.Cond.code ({ cls := "java/lang/StringUTF16", name := "getChar", desc := "([BI)C" } : Jvm.MethodName) jdk_52_method_5_code (2 : Nat) (Option.some Jvm.ClassFile.FieldType.char))).before a0 Z = true := hw _ (List.mem_of_getElem? (i := 160) rfl)
theorem w161 {Z : State} {a0 : Array Value} (hw : ∀ d ∈ tables_1, d.before a0 Z = true) : ((Jvm.Cond.methodLink "java/lang/String" (514 : Nat) ({ cls := "java/lang/StringUTF16", name := "codePointCount", desc := "([BII)I" } : Jvm.MethodName))).before a0 Z = true := hw _ (List.mem_of_getElem? (i := 161) rfl)
theorem w162 {Z : State} {a0 : Array Value} (hw : ∀ d ∈ tables_1, d.before a0 Z = true) : ((Jvm.Cond.static ({ cls := "java/lang/StringUTF16", name := "codePointCount", desc := "([BII)I" } : Jvm.MethodName))).before a0 Z = true := hw _ (List.mem_of_getElem? (i := 162) rfl)
theorem w163 {Z : State} {a0 : Array Value} (hw : ∀ d ∈ tables_1, d.before a0 Z = true) : ((Jvm.Cond.code ({ cls := "java/lang/StringUTF16", name := "codePointCount", desc := "([BII)I" } : Jvm.MethodName) jdk_52_method_12_code (3 : Nat) (Option.some Jvm.ClassFile.FieldType.int))).before a0 Z = true := hw _ (List.mem_of_getElem? (i := 163) rfl)
theorem w164 {Z : State} {a0 : Array Value} (hw : ∀ d ∈ tables_1, d.before a0 Z = true) : ((Jvm.Cond.methodLink "java/lang/StringUTF16" (100 : Nat) ({ cls := "java/lang/StringUTF16", name := "codePointCount", desc := "([BIIZ)I" } : Jvm.MethodName))).before a0 Z = true := hw _ (List.mem_of_getElem? (i := 164) rfl)
theorem w165 {Z : State} {a0 : Array Value} (hw : ∀ d ∈ tables_1, d.before a0 Z = true) : ((Jvm.Cond.static ({ cls := "java/lang/StringUTF16", name := "codePointCount", desc := "([BIIZ)I" } : Jvm.MethodName))).before a0 Z = true := hw _ (List.mem_of_getElem? (i := 165) rfl)
theorem w166 {Z : State} {a0 : Array Value} (hw : ∀ d ∈ tables_1, d.before a0 Z = true) : ((Jvm.Cond.code ({ cls := "java/lang/StringUTF16", name := "codePointCount", desc := "([BIIZ)I" } : Jvm.MethodName) jdk_52_method_11_code (6 : Nat) (Option.some Jvm.ClassFile.FieldType.int))).before a0 Z = true := hw _ (List.mem_of_getElem? (i := 166) rfl)
theorem w167 {Z : State} {a0 : Array Value} (hw : ∀ d ∈ tables_1, d.before a0 Z = true) : ((Jvm.Cond.methodLink "java/lang/StringUTF16" (75 : Nat) ({ cls := "java/lang/Character", name := "isHighSurrogate", desc := "(C)Z" } : Jvm.MethodName))).before a0 Z = true := hw _ (List.mem_of_getElem? (i := 167) rfl)
theorem w168 {Z : State} {a0 : Array Value} (hw : ∀ d ∈ tables_1, d.before a0 Z = true) : ((Jvm.Cond.static ({ cls := "java/lang/Character", name := "isHighSurrogate", desc := "(C)Z" } : Jvm.MethodName))).before a0 Z = true := hw _ (List.mem_of_getElem? (i := 168) rfl)
theorem w169 {Z : State} {a0 : Array Value} (hw : ∀ d ∈ tables_1, d.before a0 Z = true) : ((Jvm.Cond.code ({ cls := "java/lang/Character", name := "isHighSurrogate", desc := "(C)Z" } : Jvm.MethodName) jdk_89_method_14_code (1 : Nat) (Option.some Jvm.ClassFile.FieldType.boolean))).before a0 Z = true := hw _ (List.mem_of_getElem? (i := 169) rfl)
theorem w170 {Z : State} {a0 : Array Value} (hw : ∀ d ∈ tables_1, d.before a0 Z = true) : ((Jvm.Cond.constant "java/lang/Character" (75 : Nat) (55296 : Int32))).before a0 Z = true := hw _ (List.mem_of_getElem? (i := 170) rfl)
theorem w171 {Z : State} {a0 : Array Value} (hw : ∀ d ∈ tables_1, d.before a0 Z = true) : ((Jvm.Cond.constant "java/lang/Character" (76 : Nat) (56320 : Int32))).before a0 Z = true := hw _ (List.mem_of_getElem? (i := 171) rfl)
theorem w172 {Z : State} {a0 : Array Value} (hw : ∀ d ∈ tables_1, d.before a0 Z = true) : ((Jvm.Cond.methodLink "java/lang/String" (502 : Nat) ({ cls := "java/lang/StringUTF16", name := "codePointAt", desc := "([BII)I" } : Jvm.MethodName))).before a0 Z = true := hw _ (List.mem_of_getElem? (i := 172) rfl)
theorem w173 {Z : State} {a0 : Array Value} (hw : ∀ d ∈ tables_1, d.before a0 Z = true) : ((Jvm.Cond.static ({ cls := "java/lang/StringUTF16", name := "codePointAt", desc := "([BII)I" } : Jvm.MethodName))).before a0 Z = true := hw _ (List.mem_of_getElem? (i := 173) rfl)
theorem w174 {Z : State} {a0 : Array Value} (hw : ∀ d ∈ tables_1, d.before a0 Z = true) : ((Jvm.Cond.code ({ cls := "java/lang/StringUTF16", name := "codePointAt", desc := "([BII)I" } : Jvm.MethodName) jdk_52_method_8_code (3 : Nat) (Option.some Jvm.ClassFile.FieldType.int))).before a0 Z = true := hw _ (List.mem_of_getElem? (i := 174) rfl)
theorem w175 {Z : State} {a0 : Array Value} (hw : ∀ d ∈ tables_1, d.before a0 Z = true) : ((Jvm.Cond.methodLink "java/lang/StringUTF16" (88 : Nat) ({ cls := "java/lang/StringUTF16", name := "codePointAt", desc := "([BIIZ)I" } : Jvm.MethodName))).before a0 Z = true := hw _ (List.mem_of_getElem? (i := 175) rfl)
theorem w176 {Z : State} {a0 : Array Value} (hw : ∀ d ∈ tables_1, d.before a0 Z = true) : ((Jvm.Cond.static ({ cls := "java/lang/StringUTF16", name := "codePointAt", desc := "([BIIZ)I" } : Jvm.MethodName))).before a0 Z = true := hw _ (List.mem_of_getElem? (i := 176) rfl)
theorem w177 {Z : State} {a0 : Array Value} (hw : ∀ d ∈ tables_1, d.before a0 Z = true) : ((Jvm.Cond.code ({ cls := "java/lang/StringUTF16", name := "codePointAt", desc := "([BIIZ)I" } : Jvm.MethodName) jdk_52_method_7_code (6 : Nat) (Option.some Jvm.ClassFile.FieldType.int))).before a0 Z = true := hw _ (List.mem_of_getElem? (i := 177) rfl)
theorem w178 {Z : State} {a0 : Array Value} (hw : ∀ d ∈ tables_1, d.before a0 Z = true) : ((Jvm.Cond.constant "com/example/bounded_lock/boundedlock/LockName" (53 : Nat) (57343 : Int32))).before a0 Z = true := hw _ (List.mem_of_getElem? (i := 178) rfl)
theorem w179 {Z : State} {a0 : Array Value} (hw : ∀ d ∈ tables_1, d.before a0 Z = true) : ((Jvm.Cond.methodLink "java/lang/StringUTF16" (81 : Nat) ({ cls := "java/lang/Character", name := "isLowSurrogate", desc := "(C)Z" } : Jvm.MethodName))).before a0 Z = true := hw _ (List.mem_of_getElem? (i := 179) rfl)
theorem w180 {Z : State} {a0 : Array Value} (hw : ∀ d ∈ tables_1, d.before a0 Z = true) : ((Jvm.Cond.static ({ cls := "java/lang/Character", name := "isLowSurrogate", desc := "(C)Z" } : Jvm.MethodName))).before a0 Z = true := hw _ (List.mem_of_getElem? (i := 180) rfl)
theorem w181 {Z : State} {a0 : Array Value} (hw : ∀ d ∈ tables_1, d.before a0 Z = true) : ((Jvm.Cond.code ({ cls := "java/lang/Character", name := "isLowSurrogate", desc := "(C)Z" } : Jvm.MethodName) jdk_89_method_15_code (1 : Nat) (Option.some Jvm.ClassFile.FieldType.boolean))).before a0 Z = true := hw _ (List.mem_of_getElem? (i := 181) rfl)
theorem w182 {Z : State} {a0 : Array Value} (hw : ∀ d ∈ tables_1, d.before a0 Z = true) : ((Jvm.Cond.constant "java/lang/Character" (77 : Nat) (57344 : Int32))).before a0 Z = true := hw _ (List.mem_of_getElem? (i := 182) rfl)
theorem w183 {Z : State} {a0 : Array Value} (hw : ∀ d ∈ tables_1, d.before a0 Z = true) : ((Jvm.Cond.methodLink "java/lang/StringUTF16" (84 : Nat) ({ cls := "java/lang/Character", name := "toCodePoint", desc := "(CC)I" } : Jvm.MethodName))).before a0 Z = true := hw _ (List.mem_of_getElem? (i := 183) rfl)
theorem w184 {Z : State} {a0 : Array Value} (hw : ∀ d ∈ tables_1, d.before a0 Z = true) : ((Jvm.Cond.static ({ cls := "java/lang/Character", name := "toCodePoint", desc := "(CC)I" } : Jvm.MethodName))).before a0 Z = true := hw _ (List.mem_of_getElem? (i := 184) rfl)
theorem w185 {Z : State} {a0 : Array Value} (hw : ∀ d ∈ tables_1, d.before a0 Z = true) : ((Jvm.Cond.code ({ cls := "java/lang/Character", name := "toCodePoint", desc := "(CC)I" } : Jvm.MethodName) jdk_89_method_19_code (2 : Nat) (Option.some Jvm.ClassFile.FieldType.int))).before a0 Z = true := hw _ (List.mem_of_getElem? (i := 185) rfl)
theorem w186 {Z : State} {a0 : Array Value} (hw : ∀ d ∈ tables_1, d.before a0 Z = true) : ((Jvm.Cond.constant "java/lang/Character" (85 : Nat) (-56613888 : Int32))).before a0 Z = true := hw _ (List.mem_of_getElem? (i := 186) rfl)
theorem d_method_3_0 : decode method_3_code 0 = .ok (.iload_n 0, 1) := by decide +kernel
theorem d_method_3_1 : decode method_3_code 1 = .ok (.ldc 7, 2) := by decide +kernel
theorem d_method_3_3 : decode method_3_code 3 = .ok (.if_icmp .lt 13, 3) := by decide +kernel
theorem d_method_3_6 : decode method_3_code 6 = .ok (.iload_n 0, 1) := by decide +kernel
theorem d_method_3_7 : decode method_3_code 7 = .ok (.ldc 10, 2) := by decide +kernel
theorem d_method_3_9 : decode method_3_code 9 = .ok (.if_icmp .gt 7, 3) := by decide +kernel
theorem d_method_3_12 : decode method_3_code 12 = .ok (.iconst 1, 1) := by decide +kernel
theorem d_method_3_13 : decode method_3_code 13 = .ok (.goto 4, 3) := by decide +kernel
theorem d_method_3_17 : decode method_3_code 17 = .ok (.ireturn, 1) := by decide +kernel
theorem d_method_3_16 : decode method_3_code 16 = .ok (.iconst 0, 1) := by decide +kernel
theorem d_method_4_0 : decode method_4_code 0 = .ok (.iload_n 0, 1) := by decide +kernel
theorem d_method_4_1 : decode method_4_code 1 = .ok (.ldc 8, 2) := by decide +kernel
theorem d_method_4_3 : decode method_4_code 3 = .ok (.if_icmp .lt 13, 3) := by decide +kernel
theorem d_method_4_6 : decode method_4_code 6 = .ok (.iload_n 0, 1) := by decide +kernel
theorem d_method_4_7 : decode method_4_code 7 = .ok (.ldc 11, 2) := by decide +kernel
theorem d_method_4_9 : decode method_4_code 9 = .ok (.if_icmp .gt 7, 3) := by decide +kernel
theorem d_method_4_12 : decode method_4_code 12 = .ok (.iconst 1, 1) := by decide +kernel
theorem d_method_4_13 : decode method_4_code 13 = .ok (.goto 4, 3) := by decide +kernel
theorem d_method_4_17 : decode method_4_code 17 = .ok (.ireturn, 1) := by decide +kernel
theorem d_method_4_16 : decode method_4_code 16 = .ok (.iconst 0, 1) := by decide +kernel
theorem d_jdk_89_method_14_0 : decode jdk_89_method_14_code 0 = .ok (.iload_n 0, 1) := by decide +kernel
theorem d_jdk_89_method_14_1 : decode jdk_89_method_14_code 1 = .ok (.ldc 75, 2) := by decide +kernel
theorem d_jdk_89_method_14_3 : decode jdk_89_method_14_code 3 = .ok (.if_icmp .lt 13, 3) := by decide +kernel
theorem d_jdk_89_method_14_6 : decode jdk_89_method_14_code 6 = .ok (.iload_n 0, 1) := by decide +kernel
theorem d_jdk_89_method_14_7 : decode jdk_89_method_14_code 7 = .ok (.ldc 76, 2) := by decide +kernel
theorem d_jdk_89_method_14_9 : decode jdk_89_method_14_code 9 = .ok (.if_icmp .ge 7, 3) := by decide +kernel
theorem d_jdk_89_method_14_12 : decode jdk_89_method_14_code 12 = .ok (.iconst 1, 1) := by decide +kernel
theorem d_jdk_89_method_14_13 : decode jdk_89_method_14_code 13 = .ok (.goto 4, 3) := by decide +kernel
theorem d_jdk_89_method_14_17 : decode jdk_89_method_14_code 17 = .ok (.ireturn, 1) := by decide +kernel
theorem d_jdk_89_method_14_16 : decode jdk_89_method_14_code 16 = .ok (.iconst 0, 1) := by decide +kernel
theorem d_jdk_89_method_15_0 : decode jdk_89_method_15_code 0 = .ok (.iload_n 0, 1) := by decide +kernel
theorem d_jdk_89_method_15_1 : decode jdk_89_method_15_code 1 = .ok (.ldc 76, 2) := by decide +kernel
theorem d_jdk_89_method_15_3 : decode jdk_89_method_15_code 3 = .ok (.if_icmp .lt 13, 3) := by decide +kernel
theorem d_jdk_89_method_15_6 : decode jdk_89_method_15_code 6 = .ok (.iload_n 0, 1) := by decide +kernel
theorem d_jdk_89_method_15_7 : decode jdk_89_method_15_code 7 = .ok (.ldc 77, 2) := by decide +kernel
theorem d_jdk_89_method_15_9 : decode jdk_89_method_15_code 9 = .ok (.if_icmp .ge 7, 3) := by decide +kernel
theorem d_jdk_89_method_15_12 : decode jdk_89_method_15_code 12 = .ok (.iconst 1, 1) := by decide +kernel
theorem d_jdk_89_method_15_13 : decode jdk_89_method_15_code 13 = .ok (.goto 4, 3) := by decide +kernel
theorem d_jdk_89_method_15_17 : decode jdk_89_method_15_code 17 = .ok (.ireturn, 1) := by decide +kernel
theorem d_jdk_89_method_15_16 : decode jdk_89_method_15_code 16 = .ok (.iconst 0, 1) := by decide +kernel
theorem d_jdk_89_method_19_0 : decode jdk_89_method_19_code 0 = .ok (.iload_n 0, 1) := by decide +kernel
theorem d_jdk_89_method_19_1 : decode jdk_89_method_19_code 1 = .ok (.bipush 10, 2) := by decide +kernel
theorem d_jdk_89_method_19_3 : decode jdk_89_method_19_code 3 = .ok (.ishl, 1) := by decide +kernel
theorem d_jdk_89_method_19_4 : decode jdk_89_method_19_code 4 = .ok (.iload_n 1, 1) := by decide +kernel
theorem d_jdk_89_method_19_5 : decode jdk_89_method_19_code 5 = .ok (.iadd, 1) := by decide +kernel
theorem d_jdk_89_method_19_6 : decode jdk_89_method_19_code 6 = .ok (.ldc 85, 2) := by decide +kernel
theorem d_jdk_89_method_19_8 : decode jdk_89_method_19_code 8 = .ok (.iadd, 1) := by decide +kernel
theorem d_jdk_89_method_19_9 : decode jdk_89_method_19_code 9 = .ok (.ireturn, 1) := by decide +kernel
theorem d_jdk_89_method_18_0 : decode jdk_89_method_18_code 0 = .ok (.iload_n 0, 1) := by decide +kernel
theorem d_jdk_89_method_18_1 : decode jdk_89_method_18_code 1 = .ok (.ldc 73, 2) := by decide +kernel
theorem d_jdk_89_method_18_3 : decode jdk_89_method_18_code 3 = .ok (.if_icmp .lt 7, 3) := by decide +kernel
theorem d_jdk_89_method_18_10 : decode jdk_89_method_18_code 10 = .ok (.iconst 1, 1) := by decide +kernel
theorem d_jdk_89_method_18_11 : decode jdk_89_method_18_code 11 = .ok (.ireturn, 1) := by decide +kernel
theorem d_jdk_89_method_18_6 : decode jdk_89_method_18_code 6 = .ok (.iconst 2, 1) := by decide +kernel
theorem d_jdk_89_method_18_7 : decode jdk_89_method_18_code 7 = .ok (.goto 4, 3) := by decide +kernel
theorem d_jdk_42_method_152_0 : decode jdk_42_method_152_code 0 = .ok (.getstatic 38, 3) := by decide +kernel
theorem d_jdk_42_method_152_3 : decode jdk_42_method_152_code 3 = .ok (.ifCond .eq 10, 3) := by decide +kernel
theorem d_jdk_42_method_152_6 : decode jdk_42_method_152_code 6 = .ok (.aload_n 0, 1) := by decide +kernel
theorem d_jdk_42_method_152_7 : decode jdk_42_method_152_code 7 = .ok (.getfield 15, 3) := by decide +kernel
theorem d_jdk_42_method_152_10 : decode jdk_42_method_152_code 10 = .ok (.goto 4, 3) := by decide +kernel
theorem d_jdk_42_method_152_14 : decode jdk_42_method_152_code 14 = .ok (.ireturn, 1) := by decide +kernel
theorem d_jdk_42_method_54_0 : decode jdk_42_method_54_code 0 = .ok (.aload_n 0, 1) := by decide +kernel
theorem d_jdk_42_method_54_1 : decode jdk_42_method_54_code 1 = .ok (.getfield 9, 3) := by decide +kernel
theorem d_jdk_42_method_54_4 : decode jdk_42_method_54_code 4 = .ok (.arraylength, 1) := by decide +kernel
theorem d_jdk_42_method_54_5 : decode jdk_42_method_54_code 5 = .ok (.aload_n 0, 1) := by decide +kernel
theorem d_jdk_42_method_54_6 : decode jdk_42_method_54_code 6 = .ok (.invokevirtual 335, 3) := by decide +kernel
theorem d_jdk_42_method_54_9 : decode jdk_42_method_54_code 9 = .ok (.ishr, 1) := by decide +kernel
theorem d_jdk_42_method_54_10 : decode jdk_42_method_54_code 10 = .ok (.ireturn, 1) := by decide +kernel
theorem d_jdk_42_method_154_0 : decode jdk_42_method_154_code 0 = .ok (.getstatic 38, 3) := by decide +kernel
theorem d_jdk_42_method_154_3 : decode jdk_42_method_154_code 3 = .ok (.ifCond .eq 14, 3) := by decide +kernel
theorem d_jdk_42_method_154_6 : decode jdk_42_method_154_code 6 = .ok (.aload_n 0, 1) := by decide +kernel
theorem d_jdk_42_method_154_7 : decode jdk_42_method_154_code 7 = .ok (.getfield 15, 3) := by decide +kernel
theorem d_jdk_42_method_154_10 : decode jdk_42_method_154_code 10 = .ok (.ifCond .ne 7, 3) := by decide +kernel
theorem d_jdk_42_method_154_13 : decode jdk_42_method_154_code 13 = .ok (.iconst 1, 1) := by decide +kernel
theorem d_jdk_42_method_154_14 : decode jdk_42_method_154_code 14 = .ok (.goto 4, 3) := by decide +kernel
theorem d_jdk_42_method_154_18 : decode jdk_42_method_154_code 18 = .ok (.ireturn, 1) := by decide +kernel
theorem d_jdk_42_method_154_17 : decode jdk_42_method_154_code 17 = .ok (.iconst 0, 1) := by decide +kernel
theorem d_jdk_41_method_11_0 : decode jdk_41_method_11_code 0 = .ok (.iload_n 0, 1) := by decide +kernel
theorem d_jdk_41_method_11_1 : decode jdk_41_method_11_code 1 = .ok (.ifCond .lt 8, 3) := by decide +kernel
theorem d_jdk_41_method_11_4 : decode jdk_41_method_11_code 4 = .ok (.iload_n 0, 1) := by decide +kernel
theorem d_jdk_41_method_11_5 : decode jdk_41_method_11_code 5 = .ok (.iload_n 1, 1) := by decide +kernel
theorem d_jdk_41_method_11_6 : decode jdk_41_method_11_code 6 = .ok (.if_icmp .lt 10, 3) := by decide +kernel
theorem d_jdk_41_method_11_16 : decode jdk_41_method_11_code 16 = .ok (.iload_n 0, 1) := by decide +kernel
theorem d_jdk_41_method_11_17 : decode jdk_41_method_11_code 17 = .ok (.ireturn, 1) := by decide +kernel
theorem d_jdk_42_method_155_0 : decode jdk_42_method_155_code 0 = .ok (.iload_n 0, 1) := by decide +kernel
theorem d_jdk_42_method_155_1 : decode jdk_42_method_155_code 1 = .ok (.iload_n 1, 1) := by decide +kernel
theorem d_jdk_42_method_155_2 : decode jdk_42_method_155_code 2 = .ok (.getstatic 1053, 3) := by decide +kernel
theorem d_jdk_42_method_155_5 : decode jdk_42_method_155_code 5 = .ok (.invokestatic 1059, 3) := by decide +kernel
theorem d_jdk_42_method_155_8 : decode jdk_42_method_155_code 8 = .ok (.pop, 1) := by decide +kernel
theorem d_jdk_42_method_155_9 : decode jdk_42_method_155_code 9 = .ok (.return_, 1) := by decide +kernel
theorem d_jdk_52_method_5_0 : decode jdk_52_method_5_code 0 = .ok (.getstatic 44, 3) := by decide +kernel
theorem d_jdk_52_method_5_3 : decode jdk_52_method_5_code 3 = .ok (.ifCond .ne 25, 3) := by decide +kernel
theorem d_jdk_52_method_5_28 : decode jdk_52_method_5_code 28 = .ok (.iload_n 1, 1) := by decide +kernel
theorem d_jdk_52_method_5_29 : decode jdk_52_method_5_code 29 = .ok (.iconst 1, 1) := by decide +kernel
theorem d_jdk_52_method_5_30 : decode jdk_52_method_5_code 30 = .ok (.ishl, 1) := by decide +kernel
theorem d_jdk_52_method_5_31 : decode jdk_52_method_5_code 31 = .ok (.istore_n 1, 1) := by decide +kernel
theorem d_jdk_52_method_5_32 : decode jdk_52_method_5_code 32 = .ok (.aload_n 0, 1) := by decide +kernel
theorem d_jdk_52_method_5_33 : decode jdk_52_method_5_code 33 = .ok (.iload_n 1, 1) := by decide +kernel
theorem d_jdk_52_method_5_34 : decode jdk_52_method_5_code 34 = .ok (.iinc 1 1, 3) := by decide +kernel
theorem d_jdk_52_method_5_37 : decode jdk_52_method_5_code 37 = .ok (.baload, 1) := by decide +kernel
theorem d_jdk_52_method_5_38 : decode jdk_52_method_5_code 38 = .ok (.sipush 255, 3) := by decide +kernel
theorem d_jdk_52_method_5_41 : decode jdk_52_method_5_code 41 = .ok (.iand, 1) := by decide +kernel
theorem d_jdk_52_method_5_42 : decode jdk_52_method_5_code 42 = .ok (.getstatic 59, 3) := by decide +kernel
theorem d_jdk_52_method_5_45 : decode jdk_52_method_5_code 45 = .ok (.ishl, 1) := by decide +kernel
theorem d_jdk_52_method_5_46 : decode jdk_52_method_5_code 46 = .ok (.aload_n 0, 1) := by decide +kernel
theorem d_jdk_52_method_5_47 : decode jdk_52_method_5_code 47 = .ok (.iload_n 1, 1) := by decide +kernel
theorem d_jdk_52_method_5_48 : decode jdk_52_method_5_code 48 = .ok (.baload, 1) := by decide +kernel
theorem d_jdk_52_method_5_49 : decode jdk_52_method_5_code 49 = .ok (.sipush 255, 3) := by decide +kernel
theorem d_jdk_52_method_5_52 : decode jdk_52_method_5_code 52 = .ok (.iand, 1) := by decide +kernel
theorem d_jdk_52_method_5_53 : decode jdk_52_method_5_code 53 = .ok (.getstatic 63, 3) := by decide +kernel
theorem d_jdk_52_method_5_56 : decode jdk_52_method_5_code 56 = .ok (.ishl, 1) := by decide +kernel
theorem d_jdk_52_method_5_57 : decode jdk_52_method_5_code 57 = .ok (.ior, 1) := by decide +kernel
theorem d_jdk_52_method_5_58 : decode jdk_52_method_5_code 58 = .ok (.i2c, 1) := by decide +kernel
theorem d_jdk_52_method_5_59 : decode jdk_52_method_5_code 59 = .ok (.ireturn, 1) := by decide +kernel
theorem d_jdk_52_method_4_0 : decode jdk_52_method_4_code 0 = .ok (.getstatic 44, 3) := by decide +kernel
theorem d_jdk_52_method_4_3 : decode jdk_52_method_4_code 3 = .ok (.ifCond .ne 25, 3) := by decide +kernel
theorem d_jdk_52_method_4_28 : decode jdk_52_method_4_code 28 = .ok (.iload_n 1, 1) := by decide +kernel
theorem d_jdk_52_method_4_29 : decode jdk_52_method_4_code 29 = .ok (.iconst 1, 1) := by decide +kernel
theorem d_jdk_52_method_4_30 : decode jdk_52_method_4_code 30 = .ok (.ishl, 1) := by decide +kernel
theorem d_jdk_52_method_4_31 : decode jdk_52_method_4_code 31 = .ok (.istore_n 1, 1) := by decide +kernel
theorem d_jdk_52_method_4_32 : decode jdk_52_method_4_code 32 = .ok (.aload_n 0, 1) := by decide +kernel
theorem d_jdk_52_method_4_33 : decode jdk_52_method_4_code 33 = .ok (.iload_n 1, 1) := by decide +kernel
theorem d_jdk_52_method_4_34 : decode jdk_52_method_4_code 34 = .ok (.iinc 1 1, 3) := by decide +kernel
theorem d_jdk_52_method_4_37 : decode jdk_52_method_4_code 37 = .ok (.iload_n 2, 1) := by decide +kernel
theorem d_jdk_52_method_4_38 : decode jdk_52_method_4_code 38 = .ok (.getstatic 59, 3) := by decide +kernel
theorem d_jdk_52_method_4_41 : decode jdk_52_method_4_code 41 = .ok (.ishr, 1) := by decide +kernel
theorem d_jdk_52_method_4_42 : decode jdk_52_method_4_code 42 = .ok (.i2b, 1) := by decide +kernel
theorem d_jdk_52_method_4_43 : decode jdk_52_method_4_code 43 = .ok (.bastore, 1) := by decide +kernel
theorem d_jdk_52_method_4_44 : decode jdk_52_method_4_code 44 = .ok (.aload_n 0, 1) := by decide +kernel
theorem d_jdk_52_method_4_45 : decode jdk_52_method_4_code 45 = .ok (.iload_n 1, 1) := by decide +kernel
theorem d_jdk_52_method_4_46 : decode jdk_52_method_4_code 46 = .ok (.iload_n 2, 1) := by decide +kernel
theorem d_jdk_52_method_4_47 : decode jdk_52_method_4_code 47 = .ok (.getstatic 63, 3) := by decide +kernel
theorem d_jdk_52_method_4_50 : decode jdk_52_method_4_code 50 = .ok (.ishr, 1) := by decide +kernel
theorem d_jdk_52_method_4_51 : decode jdk_52_method_4_code 51 = .ok (.i2b, 1) := by decide +kernel
theorem d_jdk_52_method_4_52 : decode jdk_52_method_4_code 52 = .ok (.bastore, 1) := by decide +kernel
theorem d_jdk_52_method_4_53 : decode jdk_52_method_4_code 53 = .ok (.return_, 1) := by decide +kernel
theorem d_jdk_43_method_13_0 : decode jdk_43_method_13_code 0 = .ok (.aload_n 0, 1) := by decide +kernel
theorem d_jdk_43_method_13_1 : decode jdk_43_method_13_code 1 = .ok (.arraylength, 1) := by decide +kernel
theorem d_jdk_43_method_13_2 : decode jdk_43_method_13_code 2 = .ok (.aload_n 1, 1) := by decide +kernel
theorem d_jdk_43_method_13_3 : decode jdk_43_method_13_code 3 = .ok (.arraylength, 1) := by decide +kernel
theorem d_jdk_43_method_13_4 : decode jdk_43_method_13_code 4 = .ok (.if_icmp .ne 30, 3) := by decide +kernel
theorem d_jdk_43_method_13_7 : decode jdk_43_method_13_code 7 = .ok (.iconst 0, 1) := by decide +kernel
theorem d_jdk_43_method_13_8 : decode jdk_43_method_13_code 8 = .ok (.istore_n 2, 1) := by decide +kernel
theorem d_jdk_43_method_13_9 : decode jdk_43_method_13_code 9 = .ok (.iload_n 2, 1) := by decide +kernel
theorem d_jdk_43_method_13_10 : decode jdk_43_method_13_code 10 = .ok (.aload_n 0, 1) := by decide +kernel
theorem d_jdk_43_method_13_11 : decode jdk_43_method_13_code 11 = .ok (.arraylength, 1) := by decide +kernel
theorem d_jdk_43_method_13_12 : decode jdk_43_method_13_code 12 = .ok (.if_icmp .ge 20, 3) := by decide +kernel
theorem d_jdk_43_method_13_32 : decode jdk_43_method_13_code 32 = .ok (.iconst 1, 1) := by decide +kernel
theorem d_jdk_43_method_13_33 : decode jdk_43_method_13_code 33 = .ok (.ireturn, 1) := by decide +kernel
theorem d_jdk_43_method_13_15 : decode jdk_43_method_13_code 15 = .ok (.aload_n 0, 1) := by decide +kernel
theorem d_jdk_43_method_13_16 : decode jdk_43_method_13_code 16 = .ok (.iload_n 2, 1) := by decide +kernel
theorem d_jdk_43_method_13_17 : decode jdk_43_method_13_code 17 = .ok (.baload, 1) := by decide +kernel
theorem d_jdk_43_method_13_18 : decode jdk_43_method_13_code 18 = .ok (.aload_n 1, 1) := by decide +kernel
theorem d_jdk_43_method_13_19 : decode jdk_43_method_13_code 19 = .ok (.iload_n 2, 1) := by decide +kernel
theorem d_jdk_43_method_13_20 : decode jdk_43_method_13_code 20 = .ok (.baload, 1) := by decide +kernel
theorem d_jdk_43_method_13_21 : decode jdk_43_method_13_code 21 = .ok (.if_icmp .eq 5, 3) := by decide +kernel
theorem d_jdk_43_method_13_26 : decode jdk_43_method_13_code 26 = .ok (.iinc 2 1, 3) := by decide +kernel
theorem d_jdk_43_method_13_29 : decode jdk_43_method_13_code 29 = .ok (.goto (-20), 3) := by decide +kernel
theorem d_jdk_43_method_13_24 : decode jdk_43_method_13_code 24 = .ok (.iconst 0, 1) := by decide +kernel
theorem d_jdk_43_method_13_25 : decode jdk_43_method_13_code 25 = .ok (.ireturn, 1) := by decide +kernel
theorem d_jdk_43_method_13_34 : decode jdk_43_method_13_code 34 = .ok (.iconst 0, 1) := by decide +kernel
theorem d_jdk_43_method_13_35 : decode jdk_43_method_13_code 35 = .ok (.ireturn, 1) := by decide +kernel
theorem d_jdk_42_method_66_0 : decode jdk_42_method_66_code 0 = .ok (.aload_n 0, 1) := by decide +kernel
theorem d_jdk_42_method_66_1 : decode jdk_42_method_66_code 1 = .ok (.aload_n 1, 1) := by decide +kernel
theorem d_jdk_42_method_66_2 : decode jdk_42_method_66_code 2 = .ok (.if_acmp .ne 5, 3) := by decide +kernel
theorem d_jdk_42_method_66_5 : decode jdk_42_method_66_code 5 = .ok (.iconst 1, 1) := by decide +kernel
theorem d_jdk_42_method_66_6 : decode jdk_42_method_66_code 6 = .ok (.ireturn, 1) := by decide +kernel
theorem d_jdk_42_method_66_7 : decode jdk_42_method_66_code 7 = .ok (.aload_n 1, 1) := by decide +kernel
theorem d_jdk_42_method_66_8 : decode jdk_42_method_66_code 8 = .ok (.instanceof 10, 3) := by decide +kernel
theorem d_jdk_42_method_66_11 : decode jdk_42_method_66_code 11 = .ok (.ifCond .eq 43, 3) := by decide +kernel
theorem d_jdk_42_method_66_14 : decode jdk_42_method_66_code 14 = .ok (.aload_n 1, 1) := by decide +kernel
theorem d_jdk_42_method_66_15 : decode jdk_42_method_66_code 15 = .ok (.checkcast 10, 3) := by decide +kernel
theorem d_jdk_42_method_66_18 : decode jdk_42_method_66_code 18 = .ok (.astore_n 2, 1) := by decide +kernel
theorem d_jdk_42_method_66_19 : decode jdk_42_method_66_code 19 = .ok (.getstatic 38, 3) := by decide +kernel
theorem d_jdk_42_method_66_22 : decode jdk_42_method_66_code 22 = .ok (.ifCond .eq 14, 3) := by decide +kernel
theorem d_jdk_42_method_66_25 : decode jdk_42_method_66_code 25 = .ok (.aload_n 0, 1) := by decide +kernel
theorem d_jdk_42_method_66_26 : decode jdk_42_method_66_code 26 = .ok (.getfield 15, 3) := by decide +kernel
theorem d_jdk_42_method_66_29 : decode jdk_42_method_66_code 29 = .ok (.aload_n 2, 1) := by decide +kernel
theorem d_jdk_42_method_66_30 : decode jdk_42_method_66_code 30 = .ok (.getfield 15, 3) := by decide +kernel
theorem d_jdk_42_method_66_33 : decode jdk_42_method_66_code 33 = .ok (.if_icmp .ne 21, 3) := by decide +kernel
theorem d_jdk_42_method_66_36 : decode jdk_42_method_66_code 36 = .ok (.aload_n 0, 1) := by decide +kernel
theorem d_jdk_42_method_66_37 : decode jdk_42_method_66_code 37 = .ok (.getfield 9, 3) := by decide +kernel
theorem d_jdk_42_method_66_40 : decode jdk_42_method_66_code 40 = .ok (.aload_n 2, 1) := by decide +kernel
theorem d_jdk_42_method_66_41 : decode jdk_42_method_66_code 41 = .ok (.getfield 9, 3) := by decide +kernel
theorem d_jdk_42_method_66_44 : decode jdk_42_method_66_code 44 = .ok (.invokestatic 541, 3) := by decide +kernel
theorem d_jdk_42_method_66_47 : decode jdk_42_method_66_code 47 = .ok (.ifCond .eq 7, 3) := by decide +kernel
theorem d_jdk_42_method_66_50 : decode jdk_42_method_66_code 50 = .ok (.iconst 1, 1) := by decide +kernel
theorem d_jdk_42_method_66_51 : decode jdk_42_method_66_code 51 = .ok (.goto 4, 3) := by decide +kernel
theorem d_jdk_42_method_66_55 : decode jdk_42_method_66_code 55 = .ok (.ireturn, 1) := by decide +kernel
theorem d_jdk_42_method_66_54 : decode jdk_42_method_66_code 54 = .ok (.iconst 0, 1) := by decide +kernel
theorem d_jdk_52_method_3_0 : decode jdk_52_method_3_code 0 = .ok (.iload_n 0, 1) := by decide +kernel
theorem d_jdk_52_method_3_1 : decode jdk_52_method_3_code 1 = .ok (.ifCond .ge 11, 3) := by decide +kernel
theorem d_jdk_52_method_3_12 : decode jdk_52_method_3_code 12 = .ok (.iload_n 0, 1) := by decide +kernel
theorem d_jdk_52_method_3_13 : decode jdk_52_method_3_code 13 = .ok (.ldc 20, 2) := by decide +kernel
theorem d_jdk_52_method_3_15 : decode jdk_52_method_3_code 15 = .ok (.if_icmp .lt 40, 3) := by decide +kernel
theorem d_jdk_52_method_3_55 : decode jdk_52_method_3_code 55 = .ok (.iload_n 0, 1) := by decide +kernel
theorem d_jdk_52_method_3_56 : decode jdk_52_method_3_code 56 = .ok (.iconst 1, 1) := by decide +kernel
theorem d_jdk_52_method_3_57 : decode jdk_52_method_3_code 57 = .ok (.ishl, 1) := by decide +kernel
theorem d_jdk_52_method_3_58 : decode jdk_52_method_3_code 58 = .ok (.ireturn, 1) := by decide +kernel
theorem d_jdk_52_method_2_0 : decode jdk_52_method_2_code 0 = .ok (.iload_n 0, 1) := by decide +kernel
theorem d_jdk_52_method_2_1 : decode jdk_52_method_2_code 1 = .ok (.invokestatic 11, 3) := by decide +kernel
theorem d_jdk_52_method_2_4 : decode jdk_52_method_2_code 4 = .ok (.newarray .byte, 2) := by decide +kernel
theorem d_jdk_52_method_2_6 : decode jdk_52_method_2_code 6 = .ok (.areturn, 1) := by decide +kernel
theorem d_jdk_52_method_21_0 : decode jdk_52_method_21_code 0 = .ok (.iconst 0, 1) := by decide +kernel
theorem d_jdk_52_method_21_1 : decode jdk_52_method_21_code 1 = .ok (.istore 5, 2) := by decide +kernel
theorem d_jdk_52_method_21_3 : decode jdk_52_method_21_code 3 = .ok (.iload 5, 2) := by decide +kernel
theorem d_jdk_52_method_21_5 : decode jdk_52_method_21_code 5 = .ok (.iload 4, 2) := by decide +kernel
theorem d_jdk_52_method_21_7 : decode jdk_52_method_21_code 7 = .ok (.if_icmp .ge 37, 3) := by decide +kernel
theorem d_jdk_52_method_21_44 : decode jdk_52_method_21_code 44 = .ok (.iload 4, 2) := by decide +kernel
theorem d_jdk_52_method_21_46 : decode jdk_52_method_21_code 46 = .ok (.ireturn, 1) := by decide +kernel
theorem d_jdk_52_method_21_10 : decode jdk_52_method_21_code 10 = .ok (.aload_n 0, 1) := by decide +kernel
theorem d_jdk_52_method_21_11 : decode jdk_52_method_21_code 11 = .ok (.iload_n 1, 1) := by decide +kernel
theorem d_jdk_52_method_21_12 : decode jdk_52_method_21_code 12 = .ok (.caload, 1) := by decide +kernel
theorem d_jdk_52_method_21_13 : decode jdk_52_method_21_code 13 = .ok (.istore 6, 2) := by decide +kernel
theorem d_jdk_52_method_21_15 : decode jdk_52_method_21_code 15 = .ok (.iload 6, 2) := by decide +kernel
theorem d_jdk_52_method_21_17 : decode jdk_52_method_21_code 17 = .ok (.sipush 255, 3) := by decide +kernel
theorem d_jdk_52_method_21_20 : decode jdk_52_method_21_code 20 = .ok (.if_icmp .le 6, 3) := by decide +kernel
theorem d_jdk_52_method_21_26 : decode jdk_52_method_21_code 26 = .ok (.aload_n 2, 1) := by decide +kernel
theorem d_jdk_52_method_21_27 : decode jdk_52_method_21_code 27 = .ok (.iload_n 3, 1) := by decide +kernel
theorem d_jdk_52_method_21_28 : decode jdk_52_method_21_code 28 = .ok (.iload 6, 2) := by decide +kernel
theorem d_jdk_52_method_21_30 : decode jdk_52_method_21_code 30 = .ok (.i2b, 1) := by decide +kernel
theorem d_jdk_52_method_21_31 : decode jdk_52_method_21_code 31 = .ok (.bastore, 1) := by decide +kernel
theorem d_jdk_52_method_21_32 : decode jdk_52_method_21_code 32 = .ok (.iinc 1 1, 3) := by decide +kernel
theorem d_jdk_52_method_21_35 : decode jdk_52_method_21_code 35 = .ok (.iinc 3 1, 3) := by decide +kernel
theorem d_jdk_52_method_21_38 : decode jdk_52_method_21_code 38 = .ok (.iinc 5 1, 3) := by decide +kernel
theorem d_jdk_52_method_21_41 : decode jdk_52_method_21_code 41 = .ok (.goto (-38), 3) := by decide +kernel
theorem d_jdk_52_method_21_23 : decode jdk_52_method_21_code 23 = .ok (.iload 5, 2) := by decide +kernel
theorem d_jdk_52_method_21_25 : decode jdk_52_method_21_code 25 = .ok (.ireturn, 1) := by decide +kernel
theorem d_jdk_52_method_14_0 : decode jdk_52_method_14_code 0 = .ok (.iload_n 2, 1) := by decide +kernel
theorem d_jdk_52_method_14_1 : decode jdk_52_method_14_code 1 = .ok (.invokestatic 107, 3) := by decide +kernel
theorem d_jdk_52_method_14_4 : decode jdk_52_method_14_code 4 = .ok (.astore_n 3, 1) := by decide +kernel
theorem d_jdk_52_method_14_5 : decode jdk_52_method_14_code 5 = .ok (.iconst 0, 1) := by decide +kernel
theorem d_jdk_52_method_14_6 : decode jdk_52_method_14_code 6 = .ok (.istore 4, 2) := by decide +kernel
theorem d_jdk_52_method_14_8 : decode jdk_52_method_14_code 8 = .ok (.iload 4, 2) := by decide +kernel
theorem d_jdk_52_method_14_10 : decode jdk_52_method_14_code 10 = .ok (.iload_n 2, 1) := by decide +kernel
theorem d_jdk_52_method_14_11 : decode jdk_52_method_14_code 11 = .ok (.if_icmp .ge 21, 3) := by decide +kernel
theorem d_jdk_52_method_14_32 : decode jdk_52_method_14_code 32 = .ok (.aload_n 3, 1) := by decide +kernel
theorem d_jdk_52_method_14_33 : decode jdk_52_method_14_code 33 = .ok (.areturn, 1) := by decide +kernel
theorem d_jdk_52_method_14_14 : decode jdk_52_method_14_code 14 = .ok (.aload_n 3, 1) := by decide +kernel
theorem d_jdk_52_method_14_15 : decode jdk_52_method_14_code 15 = .ok (.iload 4, 2) := by decide +kernel
theorem d_jdk_52_method_14_17 : decode jdk_52_method_14_code 17 = .ok (.aload_n 0, 1) := by decide +kernel
theorem d_jdk_52_method_14_18 : decode jdk_52_method_14_code 18 = .ok (.iload_n 1, 1) := by decide +kernel
theorem d_jdk_52_method_14_19 : decode jdk_52_method_14_code 19 = .ok (.caload, 1) := by decide +kernel
theorem d_jdk_52_method_14_20 : decode jdk_52_method_14_code 20 = .ok (.invokestatic 111, 3) := by decide +kernel
theorem d_jdk_52_method_14_23 : decode jdk_52_method_14_code 23 = .ok (.iinc 1 1, 3) := by decide +kernel
theorem d_jdk_52_method_14_26 : decode jdk_52_method_14_code 26 = .ok (.iinc 4 1, 3) := by decide +kernel
theorem d_jdk_52_method_14_29 : decode jdk_52_method_14_code 29 = .ok (.goto (-21), 3) := by decide +kernel
theorem d_jdk_52_method_16_0 : decode jdk_52_method_16_code 0 = .ok (.iload_n 2, 1) := by decide +kernel
theorem d_jdk_52_method_16_1 : decode jdk_52_method_16_code 1 = .ok (.newarray .byte, 2) := by decide +kernel
theorem d_jdk_52_method_16_3 : decode jdk_52_method_16_code 3 = .ok (.astore_n 3, 1) := by decide +kernel
theorem d_jdk_52_method_16_4 : decode jdk_52_method_16_code 4 = .ok (.aload_n 0, 1) := by decide +kernel
theorem d_jdk_52_method_16_5 : decode jdk_52_method_16_code 5 = .ok (.iload_n 1, 1) := by decide +kernel
theorem d_jdk_52_method_16_6 : decode jdk_52_method_16_code 6 = .ok (.aload_n 3, 1) := by decide +kernel
theorem d_jdk_52_method_16_7 : decode jdk_52_method_16_code 7 = .ok (.iconst 0, 1) := by decide +kernel
theorem d_jdk_52_method_16_8 : decode jdk_52_method_16_code 8 = .ok (.iload_n 2, 1) := by decide +kernel
theorem d_jdk_52_method_16_9 : decode jdk_52_method_16_code 9 = .ok (.invokestatic 115, 3) := by decide +kernel
theorem d_jdk_52_method_16_12 : decode jdk_52_method_16_code 12 = .ok (.istore 4, 2) := by decide +kernel
theorem d_jdk_52_method_16_14 : decode jdk_52_method_16_code 14 = .ok (.iload 4, 2) := by decide +kernel
theorem d_jdk_52_method_16_16 : decode jdk_52_method_16_code 16 = .ok (.iload_n 2, 1) := by decide +kernel
theorem d_jdk_52_method_16_17 : decode jdk_52_method_16_code 17 = .ok (.if_icmp .eq 40, 3) := by decide +kernel
theorem d_jdk_52_method_16_57 : decode jdk_52_method_16_code 57 = .ok (.aload_n 3, 1) := by decide +kernel
theorem d_jdk_52_method_16_58 : decode jdk_52_method_16_code 58 = .ok (.areturn, 1) := by decide +kernel
theorem d_jdk_52_method_16_20 : decode jdk_52_method_16_code 20 = .ok (.aload_n 0, 1) := by decide +kernel
theorem d_jdk_52_method_16_21 : decode jdk_52_method_16_code 21 = .ok (.iload_n 1, 1) := by decide +kernel
theorem d_jdk_52_method_16_22 : decode jdk_52_method_16_code 22 = .ok (.iload_n 2, 1) := by decide +kernel
theorem d_jdk_52_method_16_23 : decode jdk_52_method_16_code 23 = .ok (.invokestatic 119, 3) := by decide +kernel
theorem d_jdk_52_method_16_26 : decode jdk_52_method_16_code 26 = .ok (.astore 5, 2) := by decide +kernel
theorem d_jdk_52_method_16_28 : decode jdk_52_method_16_code 28 = .ok (.aload 5, 2) := by decide +kernel
theorem d_jdk_52_method_16_30 : decode jdk_52_method_16_code 30 = .ok (.iload 4, 2) := by decide +kernel
theorem d_jdk_52_method_16_32 : decode jdk_52_method_16_code 32 = .ok (.invokestatic 71, 3) := by decide +kernel
theorem d_jdk_52_method_16_35 : decode jdk_52_method_16_code 35 = .ok (.sipush 255, 3) := by decide +kernel
theorem d_jdk_52_method_16_38 : decode jdk_52_method_16_code 38 = .ok (.if_icmp .gt 16, 3) := by decide +kernel
theorem d_jdk_52_method_16_54 : decode jdk_52_method_16_code 54 = .ok (.aload 5, 2) := by decide +kernel
theorem d_jdk_52_method_16_56 : decode jdk_52_method_16_code 56 = .ok (.areturn, 1) := by decide +kernel
theorem d_jdk_52_method_15_0 : decode jdk_52_method_15_code 0 = .ok (.iload_n 1, 1) := by decide +kernel
theorem d_jdk_52_method_15_1 : decode jdk_52_method_15_code 1 = .ok (.aload_n 0, 1) := by decide +kernel
theorem d_jdk_52_method_15_2 : decode jdk_52_method_15_code 2 = .ok (.arraylength, 1) := by decide +kernel
theorem d_jdk_52_method_15_3 : decode jdk_52_method_15_code 3 = .ok (.isub, 1) := by decide +kernel
theorem d_jdk_52_method_15_4 : decode jdk_52_method_15_code 4 = .ok (.bipush 31, 2) := by decide +kernel
theorem d_jdk_52_method_15_6 : decode jdk_52_method_15_code 6 = .ok (.iushr, 1) := by decide +kernel
theorem d_jdk_52_method_15_7 : decode jdk_52_method_15_code 7 = .ok (.i2b, 1) := by decide +kernel
theorem d_jdk_52_method_15_8 : decode jdk_52_method_15_code 8 = .ok (.ireturn, 1) := by decide +kernel
theorem d_jdk_42_method_149_0 : decode jdk_42_method_149_code 0 = .ok (.aload_n 0, 1) := by decide +kernel
theorem d_jdk_42_method_149_1 : decode jdk_42_method_149_code 1 = .ok (.invokespecial 1, 3) := by decide +kernel
theorem d_jdk_42_method_149_4 : decode jdk_42_method_149_code 4 = .ok (.iload_n 3, 1) := by decide +kernel
theorem d_jdk_42_method_149_5 : decode jdk_42_method_149_code 5 = .ok (.ifCond .ne 22, 3) := by decide +kernel
theorem d_jdk_42_method_149_27 : decode jdk_42_method_149_code 27 = .ok (.getstatic 38, 3) := by decide +kernel
theorem d_jdk_42_method_149_30 : decode jdk_42_method_149_code 30 = .ok (.ifCond .eq 28, 3) := by decide +kernel
theorem d_jdk_42_method_149_33 : decode jdk_42_method_149_code 33 = .ok (.aload_n 1, 1) := by decide +kernel
theorem d_jdk_42_method_149_34 : decode jdk_42_method_149_code 34 = .ok (.iload_n 2, 1) := by decide +kernel
theorem d_jdk_42_method_149_35 : decode jdk_42_method_149_code 35 = .ok (.iload_n 3, 1) := by decide +kernel
theorem d_jdk_42_method_149_36 : decode jdk_42_method_149_code 36 = .ok (.invokestatic 177, 3) := by decide +kernel
theorem d_jdk_42_method_149_39 : decode jdk_42_method_149_code 39 = .ok (.astore 5, 2) := by decide +kernel
theorem d_jdk_42_method_149_41 : decode jdk_42_method_149_code 41 = .ok (.aload_n 0, 1) := by decide +kernel
theorem d_jdk_42_method_149_42 : decode jdk_42_method_149_code 42 = .ok (.aload 5, 2) := by decide +kernel
theorem d_jdk_42_method_149_44 : decode jdk_42_method_149_code 44 = .ok (.iload_n 3, 1) := by decide +kernel
theorem d_jdk_42_method_149_45 : decode jdk_42_method_149_code 45 = .ok (.invokestatic 47, 3) := by decide +kernel
theorem d_jdk_42_method_149_48 : decode jdk_42_method_149_code 48 = .ok (.putfield 15, 3) := by decide +kernel
theorem d_jdk_42_method_149_51 : decode jdk_42_method_149_code 51 = .ok (.aload_n 0, 1) := by decide +kernel
theorem d_jdk_42_method_149_52 : decode jdk_42_method_149_code 52 = .ok (.aload 5, 2) := by decide +kernel
theorem d_jdk_42_method_149_54 : decode jdk_42_method_149_code 54 = .ok (.putfield 9, 3) := by decide +kernel
theorem d_jdk_42_method_149_57 : decode jdk_42_method_149_code 57 = .ok (.return_, 1) := by decide +kernel
theorem d_jdk_42_method_3_0 : decode jdk_42_method_3_code 0 = .ok (.aload_n 0, 1) := by decide +kernel
theorem d_jdk_42_method_3_1 : decode jdk_42_method_3_code 1 = .ok (.aload_n 1, 1) := by decide +kernel
theorem d_jdk_42_method_3_2 : decode jdk_42_method_3_code 2 = .ok (.iconst 0, 1) := by decide +kernel
theorem d_jdk_42_method_3_3 : decode jdk_42_method_3_code 3 = .ok (.aload_n 1, 1) := by decide +kernel
theorem d_jdk_42_method_3_4 : decode jdk_42_method_3_code 4 = .ok (.arraylength, 1) := by decide +kernel
theorem d_jdk_42_method_3_5 : decode jdk_42_method_3_code 5 = .ok (.aconst_null, 1) := by decide +kernel
theorem d_jdk_42_method_3_6 : decode jdk_42_method_3_code 6 = .ok (.invokespecial 27, 3) := by decide +kernel
theorem d_jdk_42_method_3_9 : decode jdk_42_method_3_code 9 = .ok (.return_, 1) := by decide +kernel
theorem d_jdk_41_method_12_0 : decode jdk_41_method_12_code 0 = .ok (.iload_n 0, 1) := by decide +kernel
theorem d_jdk_41_method_12_1 : decode jdk_41_method_12_code 1 = .ok (.ifCond .lt 13, 3) := by decide +kernel
theorem d_jdk_41_method_12_4 : decode jdk_41_method_12_code 4 = .ok (.iload_n 0, 1) := by decide +kernel
theorem d_jdk_41_method_12_5 : decode jdk_41_method_12_code 5 = .ok (.iload_n 1, 1) := by decide +kernel
theorem d_jdk_41_method_12_6 : decode jdk_41_method_12_code 6 = .ok (.if_icmp .gt 8, 3) := by decide +kernel
theorem d_jdk_41_method_12_9 : decode jdk_41_method_12_code 9 = .ok (.iload_n 1, 1) := by decide +kernel
theorem d_jdk_41_method_12_10 : decode jdk_41_method_12_code 10 = .ok (.iload_n 2, 1) := by decide +kernel
theorem d_jdk_41_method_12_11 : decode jdk_41_method_12_code 11 = .ok (.if_icmp .le 11, 3) := by decide +kernel
theorem d_jdk_41_method_12_22 : decode jdk_41_method_12_code 22 = .ok (.iload_n 0, 1) := by decide +kernel
theorem d_jdk_41_method_12_23 : decode jdk_41_method_12_code 23 = .ok (.ireturn, 1) := by decide +kernel
theorem d_jdk_31_method_18_0 : decode jdk_31_method_18_code 0 = .ok (.iload_n 0, 1) := by decide +kernel
theorem d_jdk_31_method_18_1 : decode jdk_31_method_18_code 1 = .ok (.iload_n 1, 1) := by decide +kernel
theorem d_jdk_31_method_18_2 : decode jdk_31_method_18_code 2 = .ok (.iload_n 2, 1) := by decide +kernel
theorem d_jdk_31_method_18_3 : decode jdk_31_method_18_code 3 = .ok (.aconst_null, 1) := by decide +kernel
theorem d_jdk_31_method_18_4 : decode jdk_31_method_18_code 4 = .ok (.invokestatic 111, 3) := by decide +kernel
theorem d_jdk_31_method_18_7 : decode jdk_31_method_18_code 7 = .ok (.ireturn, 1) := by decide +kernel
theorem d_jdk_31_method_11_0 : decode jdk_31_method_11_code 0 = .ok (.aload_n 0, 1) := by decide +kernel
theorem d_jdk_31_method_11_1 : decode jdk_31_method_11_code 1 = .ok (.ifnonnull 12, 3) := by decide +kernel
theorem d_jdk_31_method_11_13 : decode jdk_31_method_11_code 13 = .ok (.aload_n 0, 1) := by decide +kernel
theorem d_jdk_31_method_11_14 : decode jdk_31_method_11_code 14 = .ok (.areturn, 1) := by decide +kernel
theorem d_jdk_52_method_11_0 : decode jdk_52_method_11_code 0 = .ok (.getstatic 44, 3) := by decide +kernel
theorem d_jdk_52_method_11_3 : decode jdk_52_method_11_code 3 = .ok (.ifCond .ne 16, 3) := by decide +kernel
theorem d_jdk_52_method_11_19 : decode jdk_52_method_11_code 19 = .ok (.iload_n 2, 1) := by decide +kernel
theorem d_jdk_52_method_11_20 : decode jdk_52_method_11_code 20 = .ok (.iload_n 1, 1) := by decide +kernel
theorem d_jdk_52_method_11_21 : decode jdk_52_method_11_code 21 = .ok (.isub, 1) := by decide +kernel
theorem d_jdk_52_method_11_22 : decode jdk_52_method_11_code 22 = .ok (.istore 4, 2) := by decide +kernel
theorem d_jdk_52_method_11_24 : decode jdk_52_method_11_code 24 = .ok (.iload_n 1, 1) := by decide +kernel
theorem d_jdk_52_method_11_25 : decode jdk_52_method_11_code 25 = .ok (.istore 5, 2) := by decide +kernel
theorem d_jdk_52_method_11_27 : decode jdk_52_method_11_code 27 = .ok (.iload_n 3, 1) := by decide +kernel
theorem d_jdk_52_method_11_28 : decode jdk_52_method_11_code 28 = .ok (.ifCond .eq 16, 3) := by decide +kernel
theorem d_jdk_52_method_11_44 : decode jdk_52_method_11_code 44 = .ok (.iload 5, 2) := by decide +kernel
theorem d_jdk_52_method_11_46 : decode jdk_52_method_11_code 46 = .ok (.iload_n 2, 1) := by decide +kernel
theorem d_jdk_52_method_11_47 : decode jdk_52_method_11_code 47 = .ok (.iconst 1, 1) := by decide +kernel
theorem d_jdk_52_method_11_48 : decode jdk_52_method_11_code 48 = .ok (.isub, 1) := by decide +kernel
theorem d_jdk_52_method_11_49 : decode jdk_52_method_11_code 49 = .ok (.if_icmp .ge 39, 3) := by decide +kernel
theorem d_jdk_52_method_11_88 : decode jdk_52_method_11_code 88 = .ok (.iload 4, 2) := by decide +kernel
theorem d_jdk_52_method_11_90 : decode jdk_52_method_11_code 90 = .ok (.ireturn, 1) := by decide +kernel
theorem d_jdk_52_method_11_52 : decode jdk_52_method_11_code 52 = .ok (.aload_n 0, 1) := by decide +kernel
theorem d_jdk_52_method_11_53 : decode jdk_52_method_11_code 53 = .ok (.iload 5, 2) := by decide +kernel
theorem d_jdk_52_method_11_55 : decode jdk_52_method_11_code 55 = .ok (.iinc 5 1, 3) := by decide +kernel
theorem d_jdk_52_method_11_58 : decode jdk_52_method_11_code 58 = .ok (.invokestatic 71, 3) := by decide +kernel
theorem d_jdk_52_method_11_61 : decode jdk_52_method_11_code 61 = .ok (.invokestatic 75, 3) := by decide +kernel
theorem d_jdk_52_method_11_64 : decode jdk_52_method_11_code 64 = .ok (.ifCond .eq (-20), 3) := by decide +kernel
theorem d_jdk_52_method_11_67 : decode jdk_52_method_11_code 67 = .ok (.aload_n 0, 1) := by decide +kernel
theorem d_jdk_52_method_11_68 : decode jdk_52_method_11_code 68 = .ok (.iload 5, 2) := by decide +kernel
theorem d_jdk_52_method_11_70 : decode jdk_52_method_11_code 70 = .ok (.invokestatic 71, 3) := by decide +kernel
theorem d_jdk_52_method_11_73 : decode jdk_52_method_11_code 73 = .ok (.invokestatic 81, 3) := by decide +kernel
theorem d_jdk_52_method_11_76 : decode jdk_52_method_11_code 76 = .ok (.ifCond .eq (-32), 3) := by decide +kernel
theorem d_jdk_52_method_11_79 : decode jdk_52_method_11_code 79 = .ok (.iinc 4 (-1), 3) := by decide +kernel
theorem d_jdk_52_method_11_82 : decode jdk_52_method_11_code 82 = .ok (.iinc 5 1, 3) := by decide +kernel
theorem d_jdk_52_method_11_85 : decode jdk_52_method_11_code 85 = .ok (.goto (-41), 3) := by decide +kernel
theorem d_jdk_52_method_12_0 : decode jdk_52_method_12_code 0 = .ok (.aload_n 0, 1) := by decide +kernel
theorem d_jdk_52_method_12_1 : decode jdk_52_method_12_code 1 = .ok (.iload_n 1, 1) := by decide +kernel
theorem d_jdk_52_method_12_2 : decode jdk_52_method_12_code 2 = .ok (.iload_n 2, 1) := by decide +kernel
theorem d_jdk_52_method_12_3 : decode jdk_52_method_12_code 3 = .ok (.iconst 0, 1) := by decide +kernel
theorem d_jdk_52_method_12_4 : decode jdk_52_method_12_code 4 = .ok (.invokestatic 100, 3) := by decide +kernel
theorem d_jdk_52_method_12_7 : decode jdk_52_method_12_code 7 = .ok (.ireturn, 1) := by decide +kernel
theorem d_jdk_42_method_59_0 : decode jdk_42_method_59_code 0 = .ok (.iload_n 1, 1) := by decide +kernel
theorem d_jdk_42_method_59_1 : decode jdk_42_method_59_code 1 = .ok (.iload_n 2, 1) := by decide +kernel
theorem d_jdk_42_method_59_2 : decode jdk_42_method_59_code 2 = .ok (.aload_n 0, 1) := by decide +kernel
theorem d_jdk_42_method_59_3 : decode jdk_42_method_59_code 3 = .ok (.invokevirtual 505, 3) := by decide +kernel
theorem d_jdk_42_method_59_6 : decode jdk_42_method_59_code 6 = .ok (.invokestatic 511, 3) := by decide +kernel
theorem d_jdk_42_method_59_9 : decode jdk_42_method_59_code 9 = .ok (.pop, 1) := by decide +kernel
theorem d_jdk_42_method_59_10 : decode jdk_42_method_59_code 10 = .ok (.aload_n 0, 1) := by decide +kernel
theorem d_jdk_42_method_59_11 : decode jdk_42_method_59_code 11 = .ok (.invokevirtual 492, 3) := by decide +kernel
theorem d_jdk_42_method_59_14 : decode jdk_42_method_59_code 14 = .ok (.ifCond .eq 7, 3) := by decide +kernel
theorem d_jdk_42_method_59_17 : decode jdk_42_method_59_code 17 = .ok (.iload_n 2, 1) := by decide +kernel
theorem d_jdk_42_method_59_18 : decode jdk_42_method_59_code 18 = .ok (.iload_n 1, 1) := by decide +kernel
theorem d_jdk_42_method_59_19 : decode jdk_42_method_59_code 19 = .ok (.isub, 1) := by decide +kernel
theorem d_jdk_42_method_59_20 : decode jdk_42_method_59_code 20 = .ok (.ireturn, 1) := by decide +kernel
theorem d_jdk_42_method_59_21 : decode jdk_42_method_59_code 21 = .ok (.aload_n 0, 1) := by decide +kernel
theorem d_jdk_42_method_59_22 : decode jdk_42_method_59_code 22 = .ok (.getfield 9, 3) := by decide +kernel
theorem d_jdk_42_method_59_25 : decode jdk_42_method_59_code 25 = .ok (.iload_n 1, 1) := by decide +kernel
theorem d_jdk_42_method_59_26 : decode jdk_42_method_59_code 26 = .ok (.iload_n 2, 1) := by decide +kernel
theorem d_jdk_42_method_59_27 : decode jdk_42_method_59_code 27 = .ok (.invokestatic 514, 3) := by decide +kernel
theorem d_jdk_42_method_59_30 : decode jdk_42_method_59_code 30 = .ok (.ireturn, 1) := by decide +kernel
theorem d_jdk_52_method_7_0 : decode jdk_52_method_7_code 0 = .ok (.getstatic 44, 3) := by decide +kernel
theorem d_jdk_52_method_7_3 : decode jdk_52_method_7_code 3 = .ok (.ifCond .ne 16, 3) := by decide +kernel
theorem d_jdk_52_method_7_19 : decode jdk_52_method_7_code 19 = .ok (.iload_n 3, 1) := by decide +kernel
theorem d_jdk_52_method_7_20 : decode jdk_52_method_7_code 20 = .ok (.ifCond .eq 8, 3) := by decide +kernel
theorem d_jdk_52_method_7_28 : decode jdk_52_method_7_code 28 = .ok (.aload_n 0, 1) := by decide +kernel
theorem d_jdk_52_method_7_29 : decode jdk_52_method_7_code 29 = .ok (.iload_n 1, 1) := by decide +kernel
theorem d_jdk_52_method_7_30 : decode jdk_52_method_7_code 30 = .ok (.invokestatic 71, 3) := by decide +kernel
theorem d_jdk_52_method_7_33 : decode jdk_52_method_7_code 33 = .ok (.istore 4, 2) := by decide +kernel
theorem d_jdk_52_method_7_35 : decode jdk_52_method_7_code 35 = .ok (.iload 4, 2) := by decide +kernel
theorem d_jdk_52_method_7_37 : decode jdk_52_method_7_code 37 = .ok (.invokestatic 75, 3) := by decide +kernel
theorem d_jdk_52_method_7_40 : decode jdk_52_method_7_code 40 = .ok (.ifCond .eq 43, 3) := by decide +kernel
theorem d_jdk_52_method_7_83 : decode jdk_52_method_7_code 83 = .ok (.iload 4, 2) := by decide +kernel
theorem d_jdk_52_method_7_85 : decode jdk_52_method_7_code 85 = .ok (.ireturn, 1) := by decide +kernel
theorem d_jdk_52_method_7_43 : decode jdk_52_method_7_code 43 = .ok (.iinc 1 1, 3) := by decide +kernel
theorem d_jdk_52_method_7_46 : decode jdk_52_method_7_code 46 = .ok (.iload_n 1, 1) := by decide +kernel
theorem d_jdk_52_method_7_47 : decode jdk_52_method_7_code 47 = .ok (.iload_n 2, 1) := by decide +kernel
theorem d_jdk_52_method_7_48 : decode jdk_52_method_7_code 48 = .ok (.if_icmp .ge 35, 3) := by decide +kernel
theorem d_jdk_52_method_7_51 : decode jdk_52_method_7_code 51 = .ok (.iload_n 3, 1) := by decide +kernel
theorem d_jdk_52_method_7_52 : decode jdk_52_method_7_code 52 = .ok (.ifCond .eq 8, 3) := by decide +kernel
theorem d_jdk_52_method_7_60 : decode jdk_52_method_7_code 60 = .ok (.aload_n 0, 1) := by decide +kernel
theorem d_jdk_52_method_7_61 : decode jdk_52_method_7_code 61 = .ok (.iload_n 1, 1) := by decide +kernel
theorem d_jdk_52_method_7_62 : decode jdk_52_method_7_code 62 = .ok (.invokestatic 71, 3) := by decide +kernel
theorem d_jdk_52_method_7_65 : decode jdk_52_method_7_code 65 = .ok (.istore 5, 2) := by decide +kernel
theorem d_jdk_52_method_7_67 : decode jdk_52_method_7_code 67 = .ok (.iload 5, 2) := by decide +kernel
theorem d_jdk_52_method_7_69 : decode jdk_52_method_7_code 69 = .ok (.invokestatic 81, 3) := by decide +kernel
theorem d_jdk_52_method_7_72 : decode jdk_52_method_7_code 72 = .ok (.ifCond .eq 11, 3) := by decide +kernel
theorem d_jdk_52_method_7_75 : decode jdk_52_method_7_code 75 = .ok (.iload 4, 2) := by decide +kernel
theorem d_jdk_52_method_7_77 : decode jdk_52_method_7_code 77 = .ok (.iload 5, 2) := by decide +kernel
theorem d_jdk_52_method_7_79 : decode jdk_52_method_7_code 79 = .ok (.invokestatic 84, 3) := by decide +kernel
theorem d_jdk_52_method_7_82 : decode jdk_52_method_7_code 82 = .ok (.ireturn, 1) := by decide +kernel
theorem d_jdk_52_method_8_0 : decode jdk_52_method_8_code 0 = .ok (.aload_n 0, 1) := by decide +kernel
theorem d_jdk_52_method_8_1 : decode jdk_52_method_8_code 1 = .ok (.iload_n 1, 1) := by decide +kernel
theorem d_jdk_52_method_8_2 : decode jdk_52_method_8_code 2 = .ok (.iload_n 2, 1) := by decide +kernel
theorem d_jdk_52_method_8_3 : decode jdk_52_method_8_code 3 = .ok (.iconst 0, 1) := by decide +kernel
theorem d_jdk_52_method_8_4 : decode jdk_52_method_8_code 4 = .ok (.invokestatic 88, 3) := by decide +kernel
theorem d_jdk_52_method_8_7 : decode jdk_52_method_8_code 7 = .ok (.ireturn, 1) := by decide +kernel
theorem d_jdk_42_method_57_0 : decode jdk_42_method_57_code 0 = .ok (.aload_n 0, 1) := by decide +kernel
theorem d_jdk_42_method_57_1 : decode jdk_42_method_57_code 1 = .ok (.invokevirtual 492, 3) := by decide +kernel
theorem d_jdk_42_method_57_4 : decode jdk_42_method_57_code 4 = .ok (.ifCond .eq 23, 3) := by decide +kernel
theorem d_jdk_42_method_57_7 : decode jdk_42_method_57_code 7 = .ok (.iload_n 1, 1) := by decide +kernel
theorem d_jdk_42_method_57_8 : decode jdk_42_method_57_code 8 = .ok (.aload_n 0, 1) := by decide +kernel
theorem d_jdk_42_method_57_9 : decode jdk_42_method_57_code 9 = .ok (.getfield 9, 3) := by decide +kernel
theorem d_jdk_42_method_57_12 : decode jdk_42_method_57_code 12 = .ok (.arraylength, 1) := by decide +kernel
theorem d_jdk_42_method_57_13 : decode jdk_42_method_57_code 13 = .ok (.invokestatic 499, 3) := by decide +kernel
theorem d_jdk_42_method_57_16 : decode jdk_42_method_57_code 16 = .ok (.aload_n 0, 1) := by decide +kernel
theorem d_jdk_42_method_57_17 : decode jdk_42_method_57_code 17 = .ok (.getfield 9, 3) := by decide +kernel
theorem d_jdk_42_method_57_20 : decode jdk_42_method_57_code 20 = .ok (.iload_n 1, 1) := by decide +kernel
theorem d_jdk_42_method_57_21 : decode jdk_42_method_57_code 21 = .ok (.baload, 1) := by decide +kernel
theorem d_jdk_42_method_57_22 : decode jdk_42_method_57_code 22 = .ok (.sipush 255, 3) := by decide +kernel
theorem d_jdk_42_method_57_25 : decode jdk_42_method_57_code 25 = .ok (.iand, 1) := by decide +kernel
theorem d_jdk_42_method_57_26 : decode jdk_42_method_57_code 26 = .ok (.ireturn, 1) := by decide +kernel
theorem d_jdk_42_method_57_27 : decode jdk_42_method_57_code 27 = .ok (.aload_n 0, 1) := by decide +kernel
theorem d_jdk_42_method_57_28 : decode jdk_42_method_57_code 28 = .ok (.getfield 9, 3) := by decide +kernel
theorem d_jdk_42_method_57_31 : decode jdk_42_method_57_code 31 = .ok (.arraylength, 1) := by decide +kernel
theorem d_jdk_42_method_57_32 : decode jdk_42_method_57_code 32 = .ok (.iconst 1, 1) := by decide +kernel
theorem d_jdk_42_method_57_33 : decode jdk_42_method_57_code 33 = .ok (.ishr, 1) := by decide +kernel
theorem d_jdk_42_method_57_34 : decode jdk_42_method_57_code 34 = .ok (.istore_n 2, 1) := by decide +kernel
theorem d_jdk_42_method_57_35 : decode jdk_42_method_57_code 35 = .ok (.iload_n 1, 1) := by decide +kernel
theorem d_jdk_42_method_57_36 : decode jdk_42_method_57_code 36 = .ok (.iload_n 2, 1) := by decide +kernel
theorem d_jdk_42_method_57_37 : decode jdk_42_method_57_code 37 = .ok (.invokestatic 499, 3) := by decide +kernel
theorem d_jdk_42_method_57_40 : decode jdk_42_method_57_code 40 = .ok (.aload_n 0, 1) := by decide +kernel
theorem d_jdk_42_method_57_41 : decode jdk_42_method_57_code 41 = .ok (.getfield 9, 3) := by decide +kernel
theorem d_jdk_42_method_57_44 : decode jdk_42_method_57_code 44 = .ok (.iload_n 1, 1) := by decide +kernel
theorem d_jdk_42_method_57_45 : decode jdk_42_method_57_code 45 = .ok (.iload_n 2, 1) := by decide +kernel
theorem d_jdk_42_method_57_46 : decode jdk_42_method_57_code 46 = .ok (.invokestatic 502, 3) := by decide +kernel
theorem d_jdk_42_method_57_49 : decode jdk_42_method_57_code 49 = .ok (.ireturn, 1) := by decide +kernel
theorem d_prog_1_method_3_0 : decode prog_1_method_3_code 0 = .ok (.iconst 0, 1) := by decide +kernel
theorem d_prog_1_method_3_1 : decode prog_1_method_3_code 1 = .ok (.istore_n 1, 1) := by decide +kernel
theorem d_prog_1_method_3_2 : decode prog_1_method_3_code 2 = .ok (.iload_n 1, 1) := by decide +kernel
theorem d_prog_1_method_3_3 : decode prog_1_method_3_code 3 = .ok (.aload_n 0, 1) := by decide +kernel
theorem d_prog_1_method_3_4 : decode prog_1_method_3_code 4 = .ok (.invokevirtual 21, 3) := by decide +kernel
theorem d_prog_1_method_3_7 : decode prog_1_method_3_code 7 = .ok (.if_icmp .ge 33, 3) := by decide +kernel
theorem d_prog_1_method_3_40 : decode prog_1_method_3_code 40 = .ok (.iconst (-1), 1) := by decide +kernel
theorem d_prog_1_method_3_41 : decode prog_1_method_3_code 41 = .ok (.ireturn, 1) := by decide +kernel
theorem d_prog_1_method_3_10 : decode prog_1_method_3_code 10 = .ok (.aload_n 0, 1) := by decide +kernel
theorem d_prog_1_method_3_11 : decode prog_1_method_3_code 11 = .ok (.iload_n 1, 1) := by decide +kernel
theorem d_prog_1_method_3_12 : decode prog_1_method_3_code 12 = .ok (.invokevirtual 46, 3) := by decide +kernel
theorem d_prog_1_method_3_15 : decode prog_1_method_3_code 15 = .ok (.istore_n 2, 1) := by decide +kernel
theorem d_prog_1_method_3_16 : decode prog_1_method_3_code 16 = .ok (.iload_n 2, 1) := by decide +kernel
theorem d_prog_1_method_3_17 : decode prog_1_method_3_code 17 = .ok (.ldc 52, 2) := by decide +kernel
theorem d_prog_1_method_3_19 : decode prog_1_method_3_code 19 = .ok (.if_icmp .lt 11, 3) := by decide +kernel
theorem d_prog_1_method_3_30 : decode prog_1_method_3_code 30 = .ok (.iload_n 1, 1) := by decide +kernel
theorem d_prog_1_method_3_31 : decode prog_1_method_3_code 31 = .ok (.iload_n 2, 1) := by decide +kernel
theorem d_prog_1_method_3_32 : decode prog_1_method_3_code 32 = .ok (.invokestatic 54, 3) := by decide +kernel
theorem d_prog_1_method_3_35 : decode prog_1_method_3_code 35 = .ok (.iadd, 1) := by decide +kernel
theorem d_prog_1_method_3_36 : decode prog_1_method_3_code 36 = .ok (.istore_n 1, 1) := by decide +kernel
theorem d_prog_1_method_3_37 : decode prog_1_method_3_code 37 = .ok (.goto (-35), 3) := by decide +kernel
theorem d_prog_1_method_3_22 : decode prog_1_method_3_code 22 = .ok (.iload_n 2, 1) := by decide +kernel
theorem d_prog_1_method_3_23 : decode prog_1_method_3_code 23 = .ok (.ldc 53, 2) := by decide +kernel
theorem d_prog_1_method_3_25 : decode prog_1_method_3_code 25 = .ok (.if_icmp .gt 5, 3) := by decide +kernel
theorem d_prog_1_method_1_0 : decode prog_1_method_1_code 0 = .ok (.aload_n 0, 1) := by decide +kernel
theorem d_prog_1_method_1_1 : decode prog_1_method_1_code 1 = .ok (.invokespecial 1, 3) := by decide +kernel
theorem d_prog_1_method_1_4 : decode prog_1_method_1_code 4 = .ok (.aload_n 0, 1) := by decide +kernel
theorem d_prog_1_method_1_5 : decode prog_1_method_1_code 5 = .ok (.aload_n 1, 1) := by decide +kernel
theorem d_prog_1_method_1_6 : decode prog_1_method_1_code 6 = .ok (.putfield 7, 3) := by decide +kernel
theorem d_prog_1_method_1_9 : decode prog_1_method_1_code 9 = .ok (.return_, 1) := by decide +kernel
theorem d_prog_1_method_4_0 : decode prog_1_method_4_code 0 = .ok (.aload_n 0, 1) := by decide +kernel
theorem d_prog_1_method_4_1 : decode prog_1_method_4_code 1 = .ok (.getfield 7, 3) := by decide +kernel
theorem d_prog_1_method_4_4 : decode prog_1_method_4_code 4 = .ok (.areturn, 1) := by decide +kernel
theorem d_prog_1_method_5_0 : decode prog_1_method_5_code 0 = .ok (.aload_n 1, 1) := by decide +kernel
theorem d_prog_1_method_5_1 : decode prog_1_method_5_code 1 = .ok (.instanceof 8, 3) := by decide +kernel
theorem d_prog_1_method_5_4 : decode prog_1_method_5_code 4 = .ok (.ifCond .eq 26, 3) := by decide +kernel
theorem d_prog_1_method_5_7 : decode prog_1_method_5_code 7 = .ok (.aload_n 1, 1) := by decide +kernel
theorem d_prog_1_method_5_8 : decode prog_1_method_5_code 8 = .ok (.checkcast 8, 3) := by decide +kernel
theorem d_prog_1_method_5_11 : decode prog_1_method_5_code 11 = .ok (.astore_n 2, 1) := by decide +kernel
theorem d_prog_1_method_5_12 : decode prog_1_method_5_code 12 = .ok (.aload_n 0, 1) := by decide +kernel
theorem d_prog_1_method_5_13 : decode prog_1_method_5_code 13 = .ok (.getfield 7, 3) := by decide +kernel
theorem d_prog_1_method_5_16 : decode prog_1_method_5_code 16 = .ok (.aload_n 2, 1) := by decide +kernel
theorem d_prog_1_method_5_17 : decode prog_1_method_5_code 17 = .ok (.getfield 7, 3) := by decide +kernel
theorem d_prog_1_method_5_20 : decode prog_1_method_5_code 20 = .ok (.invokevirtual 57, 3) := by decide +kernel
theorem d_prog_1_method_5_23 : decode prog_1_method_5_code 23 = .ok (.ifCond .eq 7, 3) := by decide +kernel
theorem d_prog_1_method_5_26 : decode prog_1_method_5_code 26 = .ok (.iconst 1, 1) := by decide +kernel
theorem d_prog_1_method_5_27 : decode prog_1_method_5_code 27 = .ok (.goto 4, 3) := by decide +kernel
theorem d_prog_1_method_5_31 : decode prog_1_method_5_code 31 = .ok (.ireturn, 1) := by decide +kernel
theorem d_prog_1_method_2_0 : decode prog_1_method_2_code 0 = .ok (.aload_n 0, 1) := by decide +kernel
theorem d_prog_1_method_2_1 : decode prog_1_method_2_code 1 = .ok (.ldc 13, 2) := by decide +kernel
theorem d_prog_1_method_2_3 : decode prog_1_method_2_code 3 = .ok (.invokestatic 15, 3) := by decide +kernel
theorem d_prog_1_method_2_6 : decode prog_1_method_2_code 6 = .ok (.pop, 1) := by decide +kernel
theorem d_prog_1_method_2_7 : decode prog_1_method_2_code 7 = .ok (.aload_n 0, 1) := by decide +kernel
theorem d_prog_1_method_2_8 : decode prog_1_method_2_code 8 = .ok (.iconst 0, 1) := by decide +kernel
theorem d_prog_1_method_2_9 : decode prog_1_method_2_code 9 = .ok (.aload_n 0, 1) := by decide +kernel
theorem d_prog_1_method_2_10 : decode prog_1_method_2_code 10 = .ok (.invokevirtual 21, 3) := by decide +kernel
theorem d_prog_1_method_2_13 : decode prog_1_method_2_code 13 = .ok (.invokevirtual 27, 3) := by decide +kernel
theorem d_prog_1_method_2_16 : decode prog_1_method_2_code 16 = .ok (.istore_n 1, 1) := by decide +kernel
theorem d_prog_1_method_2_17 : decode prog_1_method_2_code 17 = .ok (.iload_n 1, 1) := by decide +kernel
theorem d_prog_1_method_2_18 : decode prog_1_method_2_code 18 = .ok (.iconst 1, 1) := by decide +kernel
theorem d_prog_1_method_2_19 : decode prog_1_method_2_code 19 = .ok (.if_icmp .lt 10, 3) := by decide +kernel
theorem d_prog_1_method_2_22 : decode prog_1_method_2_code 22 = .ok (.iload_n 1, 1) := by decide +kernel
theorem d_prog_1_method_2_23 : decode prog_1_method_2_code 23 = .ok (.sipush 200, 3) := by decide +kernel
theorem d_prog_1_method_2_26 : decode prog_1_method_2_code 26 = .ok (.if_icmp .le 17, 3) := by decide +kernel
theorem d_prog_1_method_2_43 : decode prog_1_method_2_code 43 = .ok (.aload_n 0, 1) := by decide +kernel
theorem d_prog_1_method_2_44 : decode prog_1_method_2_code 44 = .ok (.invokestatic 40, 3) := by decide +kernel
theorem d_prog_1_method_2_47 : decode prog_1_method_2_code 47 = .ok (.istore_n 2, 1) := by decide +kernel
theorem d_prog_1_method_2_48 : decode prog_1_method_2_code 48 = .ok (.iload_n 2, 1) := by decide +kernel
theorem d_prog_1_method_2_49 : decode prog_1_method_2_code 49 = .ok (.ifCond .lt 17, 3) := by decide +kernel
theorem d_prog_1_method_2_66 : decode prog_1_method_2_code 66 = .ok (.new 8, 3) := by decide +kernel
theorem d_prog_1_method_2_69 : decode prog_1_method_2_code 69 = .ok (.dup, 1) := by decide +kernel
theorem d_prog_1_method_2_70 : decode prog_1_method_2_code 70 = .ok (.aload_n 0, 1) := by decide +kernel
theorem d_prog_1_method_2_71 : decode prog_1_method_2_code 71 = .ok (.invokespecial 45, 3) := by decide +kernel
theorem d_prog_1_method_2_74 : decode prog_1_method_2_code 74 = .ok (.areturn, 1) := by decide +kernel
theorem d_method_2_0 : decode method_2_code 0 = .ok (.iload_n 0, 1) := by decide +kernel
theorem d_method_2_1 : decode method_2_code 1 = .ok (.bipush 7, 2) := by decide +kernel
theorem d_method_2_3 : decode method_2_code 3 = .ok (.iand, 1) := by decide +kernel
theorem d_method_2_4 : decode method_2_code 4 = .ok (.istore_n 1, 1) := by decide +kernel
theorem d_method_2_5 : decode method_2_code 5 = .ok (.iload_n 0, 1) := by decide +kernel
theorem d_method_2_6 : decode method_2_code 6 = .ok (.iconst 3, 1) := by decide +kernel
theorem d_method_2_7 : decode method_2_code 7 = .ok (.iushr, 1) := by decide +kernel
theorem d_method_2_8 : decode method_2_code 8 = .ok (.istore_n 2, 1) := by decide +kernel
theorem d_method_2_9 : decode method_2_code 9 = .ok (.iload_n 1, 1) := by decide +kernel
theorem d_method_2_10 : decode method_2_code 10 = .ok (.iconst 4, 1) := by decide +kernel
theorem d_method_2_11 : decode method_2_code 11 = .ok (.if_icmp .ge 10, 3) := by decide +kernel
theorem d_method_2_14 : decode method_2_code 14 = .ok (.iload_n 2, 1) := by decide +kernel
theorem d_method_2_15 : decode method_2_code 15 = .ok (.sipush 255, 3) := by decide +kernel
theorem d_method_2_18 : decode method_2_code 18 = .ok (.iand, 1) := by decide +kernel
theorem d_method_2_19 : decode method_2_code 19 = .ok (.i2c, 1) := by decide +kernel
theorem d_method_2_20 : decode method_2_code 20 = .ok (.ireturn, 1) := by decide +kernel
theorem d_method_2_21 : decode method_2_code 21 = .ok (.iload_n 1, 1) := by decide +kernel
theorem d_method_2_22 : decode method_2_code 22 = .ok (.iconst 4, 1) := by decide +kernel
theorem d_method_2_23 : decode method_2_code 23 = .ok (.if_icmp .ne 13, 3) := by decide +kernel
theorem d_method_2_26 : decode method_2_code 26 = .ok (.ldc 7, 2) := by decide +kernel
theorem d_method_2_28 : decode method_2_code 28 = .ok (.iload_n 2, 1) := by decide +kernel
theorem d_method_2_29 : decode method_2_code 29 = .ok (.sipush 1023, 3) := by decide +kernel
theorem d_method_2_32 : decode method_2_code 32 = .ok (.iand, 1) := by decide +kernel
theorem d_method_2_33 : decode method_2_code 33 = .ok (.iadd, 1) := by decide +kernel
theorem d_method_2_34 : decode method_2_code 34 = .ok (.i2c, 1) := by decide +kernel
theorem d_method_2_35 : decode method_2_code 35 = .ok (.ireturn, 1) := by decide +kernel
theorem d_method_2_36 : decode method_2_code 36 = .ok (.iload_n 1, 1) := by decide +kernel
theorem d_method_2_37 : decode method_2_code 37 = .ok (.iconst 5, 1) := by decide +kernel
theorem d_method_2_38 : decode method_2_code 38 = .ok (.if_icmp .ne 13, 3) := by decide +kernel
theorem d_method_2_41 : decode method_2_code 41 = .ok (.ldc 8, 2) := by decide +kernel
theorem d_method_2_43 : decode method_2_code 43 = .ok (.iload_n 2, 1) := by decide +kernel
theorem d_method_2_44 : decode method_2_code 44 = .ok (.sipush 1023, 3) := by decide +kernel
theorem d_method_2_47 : decode method_2_code 47 = .ok (.iand, 1) := by decide +kernel
theorem d_method_2_48 : decode method_2_code 48 = .ok (.iadd, 1) := by decide +kernel
theorem d_method_2_49 : decode method_2_code 49 = .ok (.i2c, 1) := by decide +kernel
theorem d_method_2_50 : decode method_2_code 50 = .ok (.ireturn, 1) := by decide +kernel
theorem d_method_2_51 : decode method_2_code 51 = .ok (.iload_n 2, 1) := by decide +kernel
theorem d_method_2_52 : decode method_2_code 52 = .ok (.ldc 9, 2) := by decide +kernel
theorem d_method_2_54 : decode method_2_code 54 = .ok (.iand, 1) := by decide +kernel
theorem d_method_2_55 : decode method_2_code 55 = .ok (.i2c, 1) := by decide +kernel
theorem d_method_2_56 : decode method_2_code 56 = .ok (.ireturn, 1) := by decide +kernel
theorem d_method_5_0 : decode method_5_code 0 = .ok (.iload_n 1, 1) := by decide +kernel
theorem d_method_5_1 : decode method_5_code 1 = .ok (.iload_n 2, 1) := by decide +kernel
theorem d_method_5_2 : decode method_5_code 2 = .ok (.if_icmp .lt 5, 3) := by decide +kernel
theorem d_method_5_7 : decode method_5_code 7 = .ok (.aload_n 0, 1) := by decide +kernel
theorem d_method_5_8 : decode method_5_code 8 = .ok (.iload_n 1, 1) := by decide +kernel
theorem d_method_5_9 : decode method_5_code 9 = .ok (.caload, 1) := by decide +kernel
theorem d_method_5_10 : decode method_5_code 10 = .ok (.invokestatic 12, 3) := by decide +kernel
theorem d_method_5_13 : decode method_5_code 13 = .ok (.ifCond .eq 27, 3) := by decide +kernel
theorem d_method_5_16 : decode method_5_code 16 = .ok (.iload_n 1, 1) := by decide +kernel
theorem d_method_5_17 : decode method_5_code 17 = .ok (.iconst 1, 1) := by decide +kernel
theorem d_method_5_18 : decode method_5_code 18 = .ok (.iadd, 1) := by decide +kernel
theorem d_method_5_19 : decode method_5_code 19 = .ok (.iload_n 2, 1) := by decide +kernel
theorem d_method_5_20 : decode method_5_code 20 = .ok (.if_icmp .ge 18, 3) := by decide +kernel
theorem d_method_5_23 : decode method_5_code 23 = .ok (.aload_n 0, 1) := by decide +kernel
theorem d_method_5_24 : decode method_5_code 24 = .ok (.iload_n 1, 1) := by decide +kernel
theorem d_method_5_25 : decode method_5_code 25 = .ok (.iconst 1, 1) := by decide +kernel
theorem d_method_5_26 : decode method_5_code 26 = .ok (.iadd, 1) := by decide +kernel
theorem d_method_5_27 : decode method_5_code 27 = .ok (.caload, 1) := by decide +kernel
theorem d_method_5_28 : decode method_5_code 28 = .ok (.invokestatic 18, 3) := by decide +kernel
theorem d_method_5_31 : decode method_5_code 31 = .ok (.ifCond .eq 7, 3) := by decide +kernel
theorem d_method_5_34 : decode method_5_code 34 = .ok (.iconst 1, 1) := by decide +kernel
theorem d_method_5_35 : decode method_5_code 35 = .ok (.goto 4, 3) := by decide +kernel
theorem d_method_5_39 : decode method_5_code 39 = .ok (.ireturn, 1) := by decide +kernel
theorem d_method_5_38 : decode method_5_code 38 = .ok (.iconst 0, 1) := by decide +kernel
theorem d_method_5_40 : decode method_5_code 40 = .ok (.aload_n 0, 1) := by decide +kernel
theorem d_method_5_41 : decode method_5_code 41 = .ok (.iload_n 1, 1) := by decide +kernel
theorem d_method_5_42 : decode method_5_code 42 = .ok (.caload, 1) := by decide +kernel
theorem d_method_5_43 : decode method_5_code 43 = .ok (.invokestatic 18, 3) := by decide +kernel
theorem d_method_5_46 : decode method_5_code 46 = .ok (.ifCond .eq 24, 3) := by decide +kernel
theorem d_method_5_49 : decode method_5_code 49 = .ok (.iload_n 1, 1) := by decide +kernel
theorem d_method_5_50 : decode method_5_code 50 = .ok (.ifCond .le 18, 3) := by decide +kernel
theorem d_method_5_53 : decode method_5_code 53 = .ok (.aload_n 0, 1) := by decide +kernel
theorem d_method_5_54 : decode method_5_code 54 = .ok (.iload_n 1, 1) := by decide +kernel
theorem d_method_5_55 : decode method_5_code 55 = .ok (.iconst 1, 1) := by decide +kernel
theorem d_method_5_56 : decode method_5_code 56 = .ok (.isub, 1) := by decide +kernel
theorem d_method_5_57 : decode method_5_code 57 = .ok (.caload, 1) := by decide +kernel
theorem d_method_5_58 : decode method_5_code 58 = .ok (.invokestatic 12, 3) := by decide +kernel
theorem d_method_5_61 : decode method_5_code 61 = .ok (.ifCond .eq 7, 3) := by decide +kernel
theorem d_method_5_64 : decode method_5_code 64 = .ok (.iconst 1, 1) := by decide +kernel
theorem d_method_5_65 : decode method_5_code 65 = .ok (.goto 4, 3) := by decide +kernel
theorem d_method_5_69 : decode method_5_code 69 = .ok (.ireturn, 1) := by decide +kernel
theorem d_method_5_68 : decode method_5_code 68 = .ok (.iconst 0, 1) := by decide +kernel
theorem d_method_5_70 : decode method_5_code 70 = .ok (.iconst 1, 1) := by decide +kernel
theorem d_method_5_71 : decode method_5_code 71 = .ok (.ireturn, 1) := by decide +kernel
theorem d_method_5_5 : decode method_5_code 5 = .ok (.iconst 1, 1) := by decide +kernel
theorem d_method_5_6 : decode method_5_code 6 = .ok (.ireturn, 1) := by decide +kernel
theorem d_method_6_0 : decode method_6_code 0 = .ok (.iload_n 1, 1) := by decide +kernel
theorem d_method_6_1 : decode method_6_code 1 = .ok (.iload_n 2, 1) := by decide +kernel
theorem d_method_6_2 : decode method_6_code 2 = .ok (.if_icmp .ge 16, 3) := by decide +kernel
theorem d_method_6_5 : decode method_6_code 5 = .ok (.aload_n 0, 1) := by decide +kernel
theorem d_method_6_6 : decode method_6_code 6 = .ok (.iload_n 1, 1) := by decide +kernel
theorem d_method_6_7 : decode method_6_code 7 = .ok (.caload, 1) := by decide +kernel
theorem d_method_6_8 : decode method_6_code 8 = .ok (.invokestatic 12, 3) := by decide +kernel
theorem d_method_6_11 : decode method_6_code 11 = .ok (.ifCond .eq 7, 3) := by decide +kernel
theorem d_method_6_14 : decode method_6_code 14 = .ok (.iconst 1, 1) := by decide +kernel
theorem d_method_6_15 : decode method_6_code 15 = .ok (.goto 4, 3) := by decide +kernel
theorem d_method_6_19 : decode method_6_code 19 = .ok (.ireturn, 1) := by decide +kernel
theorem d_method_6_18 : decode method_6_code 18 = .ok (.iconst 0, 1) := by decide +kernel
theorem pd_0 : parseMethodDescriptor "()B" = some ⟨[], some .byte⟩ := by decide +kernel
theorem pd_1 : parseMethodDescriptor "(IILjava/util/function/BiFunction;)I" = some ⟨[.int, .int, (.object "java/util/function/BiFunction")], some .int⟩ := by decide +kernel
theorem pd_2 : parseMethodDescriptor "([B[B)Z" = some ⟨[(.array .byte), (.array .byte)], some .boolean⟩ := by decide +kernel
theorem pd_3 : parseMethodDescriptor "(I)I" = some ⟨[.int], some .int⟩ := by decide +kernel
theorem pd_4 : parseMethodDescriptor "(I)[B" = some ⟨[.int], some (.array .byte)⟩ := by decide +kernel
theorem pd_5 : parseMethodDescriptor "([BII)V" = some ⟨[(.array .byte), .int, .int], none⟩ := by decide +kernel
theorem pd_6 : parseMethodDescriptor "([CI[BII)I" = some ⟨[(.array .char), .int, (.array .byte), .int, .int], some .int⟩ := by decide +kernel
theorem pd_7 : parseMethodDescriptor "([CII)[B" = some ⟨[(.array .char), .int, .int], some (.array .byte)⟩ := by decide +kernel
theorem pd_8 : parseMethodDescriptor "([BI)C" = some ⟨[(.array .byte), .int], some .char⟩ := by decide +kernel
theorem pd_9 : parseMethodDescriptor "([BI)B" = some ⟨[(.array .byte), .int], some .byte⟩ := by decide +kernel
theorem pd_10 : parseMethodDescriptor "([CIILjava/lang/Void;)V" = some ⟨[(.array .char), .int, .int, (.object "java/lang/Void")], none⟩ := by decide +kernel
theorem pd_11 : parseMethodDescriptor "(IIILjava/util/function/BiFunction;)I" = some ⟨[.int, .int, .int, (.object "java/util/function/BiFunction")], some .int⟩ := by decide +kernel
theorem pd_12 : parseMethodDescriptor "(C)Z" = some ⟨[.char], some .boolean⟩ := by decide +kernel
theorem pd_13 : parseMethodDescriptor "([BIIZ)I" = some ⟨[(.array .byte), .int, .int, .boolean], some .int⟩ := by decide +kernel
theorem pd_14 : parseMethodDescriptor "()I" = some ⟨[], some .int⟩ := by decide +kernel
theorem pd_15 : parseMethodDescriptor "(III)I" = some ⟨[.int, .int, .int], some .int⟩ := by decide +kernel
theorem pd_16 : parseMethodDescriptor "()Z" = some ⟨[], some .boolean⟩ := by decide +kernel
theorem pd_17 : parseMethodDescriptor "([BII)I" = some ⟨[(.array .byte), .int, .int], some .int⟩ := by decide +kernel
theorem pd_18 : parseMethodDescriptor "(CC)I" = some ⟨[.char, .char], some .int⟩ := by decide +kernel
theorem pd_19 : parseMethodDescriptor "(II)V" = some ⟨[.int, .int], none⟩ := by decide +kernel
theorem pd_20 : parseMethodDescriptor "(Ljava/lang/Object;)Z" = some ⟨[(.object "java/lang/Object")], some .boolean⟩ := by decide +kernel
theorem pd_21 : parseMethodDescriptor "(Ljava/lang/Object;Ljava/lang/String;)Ljava/lang/Object;" = some ⟨[(.object "java/lang/Object"), (.object "java/lang/String")], some (.object "java/lang/Object")⟩ := by decide +kernel
theorem pd_22 : parseMethodDescriptor "(II)I" = some ⟨[.int, .int], some .int⟩ := by decide +kernel
theorem pd_23 : parseMethodDescriptor "(Ljava/lang/String;)I" = some ⟨[(.object "java/lang/String")], some .int⟩ := by decide +kernel
theorem pd_24 : parseMethodDescriptor "(Ljava/lang/String;)V" = some ⟨[(.object "java/lang/String")], none⟩ := by decide +kernel
theorem pd_25 : parseMethodDescriptor "(I)C" = some ⟨[.int], some .char⟩ := by decide +kernel
theorem pd_26 : parseMethodDescriptor "([C)V" = some ⟨[(.array .char)], none⟩ := by decide +kernel
theorem pd_27 : parseMethodDescriptor "(Ljava/lang/String;)Lcom/example/bounded_lock/boundedlock/LockName;" = some ⟨[(.object "java/lang/String")], some (.object "com/example/bounded_lock/boundedlock/LockName")⟩ := by decide +kernel
theorem pd_28 : parseMethodDescriptor "()Ljava/lang/String;" = some ⟨[], some (.object "java/lang/String")⟩ := by decide +kernel
theorem pd_29 : parseMethodDescriptor "([CII)Z" = some ⟨[(.array .char), .int, .int], some .boolean⟩ := by decide +kernel
theorem pd_30 : parseMethodDescriptor "([CII)I" = some ⟨[(.array .char), .int, .int], some .int⟩ := by decide +kernel
theorem ltc {c k : Int32} {n : Int} (hk : k.toInt = n) : c < k ↔ c.toInt < n := by rw [Int32.lt_iff_toInt_lt, hk]
theorem gtc {c k : Int32} {n : Int} (hk : k.toInt = n) : k < c ↔ n < c.toInt := by rw [Int32.lt_iff_toInt_lt, hk]
abbrev Hi (c : Int32) : Prop := 55296 ≤ c.toInt ∧ c.toInt ≤ 56319
abbrev Lo (c : Int32) : Prop := 56320 ≤ c.toInt ∧ c.toInt ≤ 57343
/-- well-formed UTF-16 of n code points -/
def Wf (cs : List Int32) (n : Nat) : Prop := ∀ P : List Int32 → Nat → Prop, P [] 0 → (∀ c r n, ¬ Hi c → ¬ Lo c → P r n → P (c :: r) (n + 1)) → (∀ c d r n, Hi c → Lo d → P r n → P (c :: d :: r) (n + 1)) → P cs n
theorem Wf.nil : Wf [] 0 := fun _ h _ _ => h
theorem Wf.one {c : Int32} {r : List Int32} {n : Nat} (h1 : ¬ Hi c) (h2 : ¬ Lo c) (w : Wf r n) : Wf (c :: r) (n + 1) := fun P a b d => b c r n h1 h2 (w P a b d)
theorem Wf.two {c d : Int32} {r : List Int32} {n : Nat} (h1 : Hi c) (h2 : Lo d) (w : Wf r n) : Wf (c :: d :: r) (n + 1) := fun P a b e => e c d r n h1 h2 (w P a b e)
theorem Wf.ind {P : List Int32 → Nat → Prop} (h0 : P [] 0) (h1 : ∀ c r n, ¬ Hi c → ¬ Lo c → Wf r n → P r n → P (c :: r) (n + 1)) (h2 : ∀ c d r n, Hi c → Lo d → Wf r n → P r n → P (c :: d :: r) (n + 1)) (cs : List Int32) (n : Nat) (w : Wf cs n) : P cs n :=
  (w (fun cs n => Wf cs n ∧ P cs n) ⟨Wf.nil, h0⟩ (fun c r n a b q => ⟨Wf.one a b q.1, h1 c r n a b q.1 q.2⟩) (fun c d r n a b q => ⟨Wf.two a b q.1, h2 c d r n a b q.1 q.2⟩)).2
theorem Wf.le {cs : List Int32} {n : Nat} (h : Wf cs n) : n ≤ cs.length :=
  Wf.ind (P := fun cs n => n ≤ cs.length) (Nat.le_refl _) (fun c r n _ _ _ ih => by simp only [List.length_cons]; omega) (fun c d r n _ _ _ ih => by simp only [List.length_cons]; omega) cs n h
theorem Wf.lat {cs : List Int32} {n : Nat} (h : Wf cs n) (hl : ∀ c ∈ cs, c.toInt ≤ 255) : n = cs.length :=
  Wf.ind (P := fun cs n => (∀ c ∈ cs, c.toInt ≤ 255) → n = cs.length) (fun _ => rfl) (fun c r n _ _ _ ih hl => by have := ih (fun c hc => hl c (List.mem_cons_of_mem _ hc)); simp only [List.length_cons]; omega) (fun c d r n h1 _ _ ih hl => by have := hl _ (List.mem_cons_self ..); omega) cs n h hl
theorem drop_hd {cs r : List Int32} {i : Nat} {c : Int32} (h : cs.drop i = c :: r) : cs[i]? = some c ∧ cs.drop (i + 1) = r ∧ cs.length = i + 1 + r.length := by
  have h1 := List.getElem?_drop (xs := cs) (i := i) (j := 0)
  rw [h] at h1
  have h2 : cs.drop (i + 1) = r := by rw [← List.drop_drop, h]; rfl
  have h3 := congrArg List.length h
  simp only [List.length_drop, List.length_cons] at h3
  exact ⟨by simpa using h1.symm, h2, by omega⟩
theorem drop_nil {cs : List Int32} {i : Nat} (h : cs.drop i = []) (hi : i ≤ cs.length) : i = cs.length := by
  have h3 := congrArg List.length h
  simp only [List.length_drop, List.length_nil] at h3
  omega
theorem lt_pred {a b : Nat} (ha : a < 1000000) (hb : b < 1000000) (h1 : 1 ≤ b) : a.toInt32 < b.toInt32 - 1 ↔ a + 1 < b := by
  have e : b.toInt32 - 1 = (b - 1).toInt32 := i32_sub (a := b) (b := 1) h1 (by omega)
  rw [e, i32_lt (by omega) (by omega)]; omega
theorem i32_pred {a : Nat} (h : 1 ≤ a) (ha : a < 1000000) : a.toInt32 + ((-1) : Int32) = (a - 1).toInt32 := Int32.toInt_inj.mp (by
  have h1 := c_iadd a.toInt32 (-1)
  have h2 : ((-1) : Int32).toInt = -1 := rfl
  have h3 := i32_len (n := a) (by omega)
  have h4 := i32_len (n := a - 1) (by omega)
  have h5 := rng32 (a.toInt32 + ((-1) : Int32))
  omega)
def tcp (c d : Int32) : Int32 := ((c <<< ((10 : Int32) &&& 31)) + d) + (-56613888 : Int32)
theorem tcp_ge {c d : Int32} (hc : Hi c) (hd : Lo d) : 65536 ≤ (tcp c d).toInt := by
  have h1 := c_ishl c 10 10 (by decide)
  have h2 := c_iadd (c <<< ((10 : Int32) &&& 31)) d
  have h3 := c_iadd ((c <<< ((10 : Int32) &&& 31)) + d) (-56613888)
  have h4 : (-56613888 : Int32).toInt = -56613888 := rfl
  have h5 := rng32 (tcp c d)
  have h6 : (2 ^ 10 : Nat) = 1024 := rfl
  rw [h6] at h1
  unfold tcp at h5 ⊢
  omega
def OkA (xs : List Int32) (i n : Nat) : Prop := i < n → ∀ x, xs[i]? = some x → (Hi x → i + 1 < n ∧ ∃ y, xs[i + 1]? = some y ∧ Lo y) ∧ (Lo x → 0 < i ∧ ∃ y, xs[i - 1]? = some y ∧ Hi y)
def hb (x : Int32) : Nat := if Hi x then 1 else 0
theorem hb_le (x : Int32) : hb x ≤ 1 := by unfold hb; split <;> omega
theorem hb_y {x : Int32} (h : Hi x) : hb x = 1 := if_pos h
theorem hb_n {x : Int32} (h : ¬ Hi x) : hb x = 0 := if_neg h
/-- a chain of chars: pr says that the one ahead is high -/
def Cn : Prop → List Int32 → Prop
  | pr, [] => ¬ pr
  | pr, x :: r => (Lo x ↔ pr) ∧ Cn (Hi x) r
def hs : List Int32 → Nat
  | [] => 0
  | x :: r => hb x + hs r
theorem Cn.wf : ∀ (k : Nat) (xs : List Int32), xs.length ≤ k → Cn False xs → ∃ m, Wf xs m ∧ m + hs xs = xs.length
  | k, [], _, _ => ⟨0, Wf.nil, rfl⟩
  | k, [x], _, h => by
    obtain ⟨h1, h2⟩ := h
    exact ⟨1, Wf.one h2 (fun q => h1.mp q) Wf.nil, by simp [hs, hb_n (show ¬ Hi x from h2)]⟩
  | 0, x :: y :: r, hk, _ => by simp at hk
  | 1, x :: y :: r, hk, _ => by simp at hk
  | k + 2, x :: y :: r, hk, h => by
    obtain ⟨h1, h2, h3⟩ := h
    simp only [List.length_cons] at hk
    by_cases hx : Hi x
    · have hy : Lo y := h2.mpr hx
      have ny : ¬ Hi y := by omega
      have ey : Hi y = False := propext ⟨fun q => ny q, fun q => q.elim⟩
      rw [ey] at h3
      obtain ⟨m, w, e⟩ := Cn.wf k r (by omega) h3
      exact ⟨m + 1, Wf.two hx hy w, by simp only [hs, hb_y hx, hb_n ny, List.length_cons]; omega⟩
    · have ex : Hi x = False := propext ⟨fun q => hx q, fun q => q.elim⟩
      rw [ex] at h2
      obtain ⟨m, w, e⟩ := Cn.wf (k + 1) (y :: r) (by simp only [List.length_cons]; omega) ⟨h2, h3⟩
      exact ⟨m + 1, Wf.one hx (fun q => h1.mp q) w, by simp only [hs, hb_n hx, List.length_cons] at e ⊢; omega⟩
theorem Wf.zeros {xs : List Int32} {m : Nat} (h : Wf xs m) : ∀ k : Nat, Wf (List.replicate k 0 ++ xs) (k + m)
  | 0 => by simpa using h
  | k + 1 => by
    rw [List.replicate_succ, List.cons_append, show k + 1 + m = (k + m) + 1 by omega]
    have e0 : (0 : Int32).toInt = 0 := rfl
    exact Wf.one (by omega) (by omega) (Wf.zeros h k)
theorem ok0 {x0 x1 x2 x3 : Int32} {n : Nat} (h : OkA [x0, x1, x2, x3] 0 n) (hn : 0 < n) : (Hi x0 → 1 < n ∧ Lo x1) ∧ ¬ Lo x0 := by
  obtain ⟨h1, h2⟩ := h hn x0 rfl
  exact ⟨fun q => by obtain ⟨a, y, e, b⟩ := h1 q; cases e; exact ⟨a, b⟩, fun q => by have := (h2 q).1; omega⟩
theorem ok1 {x0 x1 x2 x3 : Int32} {n : Nat} (h : OkA [x0, x1, x2, x3] 1 n) (hn : 1 < n) : (Hi x1 → 2 < n ∧ Lo x2) ∧ (Lo x1 → Hi x0) := by
  obtain ⟨h1, h2⟩ := h hn x1 rfl
  exact ⟨fun q => by obtain ⟨a, y, e, b⟩ := h1 q; cases e; exact ⟨a, b⟩, fun q => by obtain ⟨-, y, e, b⟩ := h2 q; cases e; exact b⟩
theorem ok2 {x0 x1 x2 x3 : Int32} {n : Nat} (h : OkA [x0, x1, x2, x3] 2 n) (hn : 2 < n) : (Hi x2 → 3 < n ∧ Lo x3) ∧ (Lo x2 → Hi x1) := by
  obtain ⟨h1, h2⟩ := h hn x2 rfl
  exact ⟨fun q => by obtain ⟨a, y, e, b⟩ := h1 q; cases e; exact ⟨a, b⟩, fun q => by obtain ⟨-, y, e, b⟩ := h2 q; cases e; exact b⟩
theorem ok3 {x0 x1 x2 x3 : Int32} {n : Nat} (h : OkA [x0, x1, x2, x3] 3 n) (hn : 3 < n) : (Hi x3 → 4 < n) ∧ (Lo x3 → Hi x2) := by
  obtain ⟨h1, h2⟩ := h hn x3 rfl
  exact ⟨fun q => (by obtain ⟨a, y, e, b⟩ := h1 q; cases e), fun q => (by obtain ⟨-, y, e, b⟩ := h2 q; cases e; exact b)⟩
theorem cn1 {x0 x1 x2 x3 : Int32} (o0 : OkA [x0, x1, x2, x3] 0 1) : Cn False [x0] := by
  have a0 := ok0 o0 (by omega)
  exact ⟨⟨fun q => a0.2 q, fun q => q.elim⟩, fun q => by have := a0.1 q; omega⟩
theorem cn2 {x0 x1 x2 x3 : Int32} (o0 : OkA [x0, x1, x2, x3] 0 2) (o1 : OkA [x0, x1, x2, x3] 1 2) : Cn False [x0, x1] := by
  have a0 := ok0 o0 (by omega)
  have a1 := ok1 o1 (by omega)
  exact ⟨⟨fun q => a0.2 q, fun q => q.elim⟩, ⟨a1.2, fun q => (a0.1 q).2⟩, fun q => by have := a1.1 q; omega⟩
theorem cn3 {x0 x1 x2 x3 : Int32} (o0 : OkA [x0, x1, x2, x3] 0 3) (o1 : OkA [x0, x1, x2, x3] 1 3) (o2 : OkA [x0, x1, x2, x3] 2 3) : Cn False [x0, x1, x2] := by
  have a0 := ok0 o0 (by omega)
  have a1 := ok1 o1 (by omega)
  have a2 := ok2 o2 (by omega)
  exact ⟨⟨fun q => a0.2 q, fun q => q.elim⟩, ⟨a1.2, fun q => (a0.1 q).2⟩, ⟨a2.2, fun q => (a1.1 q).2⟩, fun q => by have := a2.1 q; omega⟩
theorem cn4 {x0 x1 x2 x3 : Int32} (o0 : OkA [x0, x1, x2, x3] 0 4) (o1 : OkA [x0, x1, x2, x3] 1 4) (o2 : OkA [x0, x1, x2, x3] 2 4) (o3 : OkA [x0, x1, x2, x3] 3 4) : Cn False [x0, x1, x2, x3] := by
  have a0 := ok0 o0 (by omega)
  have a1 := ok1 o1 (by omega)
  have a2 := ok2 o2 (by omega)
  have a3 := ok3 o3 (by omega)
  exact ⟨⟨fun q => a0.2 q, fun q => q.elim⟩, ⟨a1.2, fun q => (a0.1 q).2⟩, ⟨a2.2, fun q => (a1.1 q).2⟩, ⟨a3.2, fun q => (a2.1 q).2⟩, fun q => by have := a3.1 q; omega⟩
def dr (p : Int32) : Int32 := if p &&& 7 < 4 then c16 (XT.ushr p 3 &&& 255) else if p &&& 7 = 4 then c16 (55296 + (XT.ushr p 3 &&& 1023)) else if p &&& 7 = 5 then c16 (56320 + (XT.ushr p 3 &&& 1023)) else c16 (XT.ushr p 3 &&& 65535)
theorem dr_rng (p : Int32) : 0 ≤ (dr p).toInt ∧ (dr p).toInt ≤ 65535 := by
  unfold dr
  repeat' split
  all_goals exact c16_rng _
set_option maxRecDepth 65536 in
theorem tail201 (x0 x1 x2 x3 : Int32) : ((((List.replicate 201 (0 : Int32)).set 197 x0).set 198 x1).set 199 x2).set 200 x3 = List.replicate 197 0 ++ [x0, x1, x2, x3] := rfl
set_option maxRecDepth 65536 in
set_option maxHeartbeats 4000000 in
theorem k_hiY (l : Launch) (Z : State) (a0 : Array Value) (hE : Ev Z a0) (c : Int32) (h : Heap) (hc : Hi c) : Con l Z false (⟨"com/example/bounded_lock/boundedlock/LockNameOfPinLaw", "isHigh", "(C)Z"⟩ : MethodName) method_3_code 1 (some .boolean) ({ frames := 0, cells := 0, slots := 0, locals := 0 } : Room) [(.int c)] h [] false (fun M v h' => v = some (.int 1) ∧ h' = h) := by
  have hw := hE.1
  refine Con.intro (L0 := #[.val (.int c)]) (by decide +kernel) (fun m => ef_of rfl) ?_
  intro B M hwsM ok
  refine W.iloadN ok (pc' := 1) d_method_3_0 rfl rfl ?_
  refine W.ldcI ok (pc' := 3) (w11 hw) d_method_3_1 rfl ?_
  refine W.icmplt ok (pcY := 16) (pcN := 6) d_method_3_3 rfl (by decide) rfl (fun q => absurd q (by rw [ltc (n := 55296) rfl]; omega)) (fun _ => ?_)
  refine W.iloadN ok (pc' := 7) d_method_3_6 rfl rfl ?_
  refine W.ldcI ok (pc' := 9) (w140 hw) d_method_3_7 rfl ?_
  refine W.icmpgt ok (pcY := 16) (pcN := 12) d_method_3_9 rfl (by decide) rfl (fun q => absurd q (by rw [gtc (n := 56319) rfl]; omega)) (fun _ => ?_)
  refine W.iconst ok (pc' := 13) (1 : Int32) d_method_3_12 rfl rfl ?_
  refine W.goto ok (pc' := 17) d_method_3_13 (by decide) rfl ?_
  exact W.retZ ok d_method_3_17 rfl (Nat.le_of_ble_eq_true rfl) (Nat.le_of_ble_eq_true rfl) (fun x (q : x ∈ M) => q) (fun kp => ⟨rfl, rfl⟩)
set_option maxRecDepth 65536 in
set_option maxHeartbeats 4000000 in
theorem k_hiN (l : Launch) (Z : State) (a0 : Array Value) (hE : Ev Z a0) (c : Int32) (h : Heap) (hc : ¬ Hi c) : Con l Z false (⟨"com/example/bounded_lock/boundedlock/LockNameOfPinLaw", "isHigh", "(C)Z"⟩ : MethodName) method_3_code 1 (some .boolean) ({ frames := 0, cells := 0, slots := 0, locals := 0 } : Room) [(.int c)] h [] false (fun M v h' => v = some (.int 0) ∧ h' = h) := by
  have hw := hE.1
  refine Con.intro (L0 := #[.val (.int c)]) (by decide +kernel) (fun m => ef_of rfl) ?_
  intro B M hwsM ok
  refine W.iloadN ok (pc' := 1) d_method_3_0 rfl rfl ?_
  refine W.ldcI ok (pc' := 3) (w11 hw) d_method_3_1 rfl ?_
  refine W.icmplt ok (pcY := 16) (pcN := 6) d_method_3_3 rfl (by decide) rfl (fun c1 => ?_) (fun c1 => ?_)
  · refine W.iconst ok (pc' := 17) (0 : Int32) d_method_3_16 rfl rfl ?_
    exact W.retZ ok d_method_3_17 rfl (Nat.le_of_ble_eq_true rfl) (Nat.le_of_ble_eq_true rfl) (fun x (q : x ∈ M) => q) (fun kp => ⟨rfl, rfl⟩)
  · rw [ltc (n := 55296) rfl] at c1
    refine W.iloadN ok (pc' := 7) d_method_3_6 rfl rfl ?_
    refine W.ldcI ok (pc' := 9) (w140 hw) d_method_3_7 rfl ?_
    refine W.icmpgt ok (pcY := 16) (pcN := 12) d_method_3_9 rfl (by decide) rfl (fun _ => ?_) (fun q => absurd (by rw [gtc (n := 56319) rfl]; omega) q)
    refine W.iconst ok (pc' := 17) (0 : Int32) d_method_3_16 rfl rfl ?_
    exact W.retZ ok d_method_3_17 rfl (Nat.le_of_ble_eq_true rfl) (Nat.le_of_ble_eq_true rfl) (fun x (q : x ∈ M) => q) (fun kp => ⟨rfl, rfl⟩)
set_option maxRecDepth 65536 in
set_option maxHeartbeats 4000000 in
theorem k_loY (l : Launch) (Z : State) (a0 : Array Value) (hE : Ev Z a0) (c : Int32) (h : Heap) (hc : Lo c) : Con l Z false (⟨"com/example/bounded_lock/boundedlock/LockNameOfPinLaw", "isLow", "(C)Z"⟩ : MethodName) method_4_code 1 (some .boolean) ({ frames := 0, cells := 0, slots := 0, locals := 0 } : Room) [(.int c)] h [] false (fun M v h' => v = some (.int 1) ∧ h' = h) := by
  have hw := hE.1
  refine Con.intro (L0 := #[.val (.int c)]) (by decide +kernel) (fun m => ef_of rfl) ?_
  intro B M hwsM ok
  refine W.iloadN ok (pc' := 1) d_method_4_0 rfl rfl ?_
  refine W.ldcI ok (pc' := 3) (w15 hw) d_method_4_1 rfl ?_
  refine W.icmplt ok (pcY := 16) (pcN := 6) d_method_4_3 rfl (by decide) rfl (fun q => absurd q (by rw [ltc (n := 56320) rfl]; omega)) (fun _ => ?_)
  refine W.iloadN ok (pc' := 7) d_method_4_6 rfl rfl ?_
  refine W.ldcI ok (pc' := 9) (w141 hw) d_method_4_7 rfl ?_
  refine W.icmpgt ok (pcY := 16) (pcN := 12) d_method_4_9 rfl (by decide) rfl (fun q => absurd q (by rw [gtc (n := 57343) rfl]; omega)) (fun _ => ?_)
  refine W.iconst ok (pc' := 13) (1 : Int32) d_method_4_12 rfl rfl ?_
  refine W.goto ok (pc' := 17) d_method_4_13 (by decide) rfl ?_
  exact W.retZ ok d_method_4_17 rfl (Nat.le_of_ble_eq_true rfl) (Nat.le_of_ble_eq_true rfl) (fun x (q : x ∈ M) => q) (fun kp => ⟨rfl, rfl⟩)
set_option maxRecDepth 65536 in
set_option maxHeartbeats 4000000 in
theorem k_loN (l : Launch) (Z : State) (a0 : Array Value) (hE : Ev Z a0) (c : Int32) (h : Heap) (hc : ¬ Lo c) : Con l Z false (⟨"com/example/bounded_lock/boundedlock/LockNameOfPinLaw", "isLow", "(C)Z"⟩ : MethodName) method_4_code 1 (some .boolean) ({ frames := 0, cells := 0, slots := 0, locals := 0 } : Room) [(.int c)] h [] false (fun M v h' => v = some (.int 0) ∧ h' = h) := by
  have hw := hE.1
  refine Con.intro (L0 := #[.val (.int c)]) (by decide +kernel) (fun m => ef_of rfl) ?_
  intro B M hwsM ok
  refine W.iloadN ok (pc' := 1) d_method_4_0 rfl rfl ?_
  refine W.ldcI ok (pc' := 3) (w15 hw) d_method_4_1 rfl ?_
  refine W.icmplt ok (pcY := 16) (pcN := 6) d_method_4_3 rfl (by decide) rfl (fun c1 => ?_) (fun c1 => ?_)
  · refine W.iconst ok (pc' := 17) (0 : Int32) d_method_4_16 rfl rfl ?_
    exact W.retZ ok d_method_4_17 rfl (Nat.le_of_ble_eq_true rfl) (Nat.le_of_ble_eq_true rfl) (fun x (q : x ∈ M) => q) (fun kp => ⟨rfl, rfl⟩)
  · rw [ltc (n := 56320) rfl] at c1
    refine W.iloadN ok (pc' := 7) d_method_4_6 rfl rfl ?_
    refine W.ldcI ok (pc' := 9) (w141 hw) d_method_4_7 rfl ?_
    refine W.icmpgt ok (pcY := 16) (pcN := 12) d_method_4_9 rfl (by decide) rfl (fun _ => ?_) (fun q => absurd (by rw [gtc (n := 57343) rfl]; omega) q)
    refine W.iconst ok (pc' := 17) (0 : Int32) d_method_4_16 rfl rfl ?_
    exact W.retZ ok d_method_4_17 rfl (Nat.le_of_ble_eq_true rfl) (Nat.le_of_ble_eq_true rfl) (fun x (q : x ∈ M) => q) (fun kp => ⟨rfl, rfl⟩)
set_option maxRecDepth 65536 in
set_option maxHeartbeats 4000000 in
theorem k_chiY (l : Launch) (Z : State) (a0 : Array Value) (hE : Ev Z a0) (c : Int32) (h : Heap) (hc : Hi c) : Con l Z false (⟨"java/lang/Character", "isHighSurrogate", "(C)Z"⟩ : MethodName) jdk_89_method_14_code 1 (some .boolean) ({ frames := 0, cells := 0, slots := 0, locals := 0 } : Room) [(.int c)] h [] false (fun M v h' => v = some (.int 1) ∧ h' = h) := by
  have hw := hE.1
  refine Con.intro (L0 := #[.val (.int c)]) (by decide +kernel) (fun m => ef_of rfl) ?_
  intro B M hwsM ok
  refine W.iloadN ok (pc' := 1) d_jdk_89_method_14_0 rfl rfl ?_
  refine W.ldcI ok (pc' := 3) (w170 hw) d_jdk_89_method_14_1 rfl ?_
  refine W.icmplt ok (pcY := 16) (pcN := 6) d_jdk_89_method_14_3 rfl (by decide) rfl (fun q => absurd q (by rw [ltc (n := 55296) rfl]; omega)) (fun _ => ?_)
  refine W.iloadN ok (pc' := 7) d_jdk_89_method_14_6 rfl rfl ?_
  refine W.ldcI ok (pc' := 9) (w171 hw) d_jdk_89_method_14_7 rfl ?_
  refine W.icmpge ok (pcY := 16) (pcN := 12) d_jdk_89_method_14_9 rfl (by decide) rfl (fun _ => ?_) (fun q => absurd (by rw [ltc (n := 56320) rfl]; omega) q)
  refine W.iconst ok (pc' := 13) (1 : Int32) d_jdk_89_method_14_12 rfl rfl ?_
  refine W.goto ok (pc' := 17) d_jdk_89_method_14_13 (by decide) rfl ?_
  exact W.retZ ok d_jdk_89_method_14_17 rfl (Nat.le_of_ble_eq_true rfl) (Nat.le_of_ble_eq_true rfl) (fun x (q : x ∈ M) => q) (fun kp => ⟨rfl, rfl⟩)
set_option maxRecDepth 65536 in
set_option maxHeartbeats 4000000 in
theorem k_chiN (l : Launch) (Z : State) (a0 : Array Value) (hE : Ev Z a0) (c : Int32) (h : Heap) (hc : ¬ Hi c) : Con l Z false (⟨"java/lang/Character", "isHighSurrogate", "(C)Z"⟩ : MethodName) jdk_89_method_14_code 1 (some .boolean) ({ frames := 0, cells := 0, slots := 0, locals := 0 } : Room) [(.int c)] h [] false (fun M v h' => v = some (.int 0) ∧ h' = h) := by
  have hw := hE.1
  refine Con.intro (L0 := #[.val (.int c)]) (by decide +kernel) (fun m => ef_of rfl) ?_
  intro B M hwsM ok
  refine W.iloadN ok (pc' := 1) d_jdk_89_method_14_0 rfl rfl ?_
  refine W.ldcI ok (pc' := 3) (w170 hw) d_jdk_89_method_14_1 rfl ?_
  refine W.icmplt ok (pcY := 16) (pcN := 6) d_jdk_89_method_14_3 rfl (by decide) rfl (fun c1 => ?_) (fun c1 => ?_)
  · refine W.iconst ok (pc' := 17) (0 : Int32) d_jdk_89_method_14_16 rfl rfl ?_
    exact W.retZ ok d_jdk_89_method_14_17 rfl (Nat.le_of_ble_eq_true rfl) (Nat.le_of_ble_eq_true rfl) (fun x (q : x ∈ M) => q) (fun kp => ⟨rfl, rfl⟩)
  · rw [ltc (n := 55296) rfl] at c1
    refine W.iloadN ok (pc' := 7) d_jdk_89_method_14_6 rfl rfl ?_
    refine W.ldcI ok (pc' := 9) (w171 hw) d_jdk_89_method_14_7 rfl ?_
    refine W.icmpge ok (pcY := 16) (pcN := 12) d_jdk_89_method_14_9 rfl (by decide) rfl (fun q => absurd q (by rw [ltc (n := 56320) rfl]; omega)) (fun _ => ?_)
    refine W.iconst ok (pc' := 17) (0 : Int32) d_jdk_89_method_14_16 rfl rfl ?_
    exact W.retZ ok d_jdk_89_method_14_17 rfl (Nat.le_of_ble_eq_true rfl) (Nat.le_of_ble_eq_true rfl) (fun x (q : x ∈ M) => q) (fun kp => ⟨rfl, rfl⟩)
set_option maxRecDepth 65536 in
set_option maxHeartbeats 4000000 in
theorem k_cloY (l : Launch) (Z : State) (a0 : Array Value) (hE : Ev Z a0) (c : Int32) (h : Heap) (hc : Lo c) : Con l Z false (⟨"java/lang/Character", "isLowSurrogate", "(C)Z"⟩ : MethodName) jdk_89_method_15_code 1 (some .boolean) ({ frames := 0, cells := 0, slots := 0, locals := 0 } : Room) [(.int c)] h [] false (fun M v h' => v = some (.int 1) ∧ h' = h) := by
  have hw := hE.1
  refine Con.intro (L0 := #[.val (.int c)]) (by decide +kernel) (fun m => ef_of rfl) ?_
  intro B M hwsM ok
  refine W.iloadN ok (pc' := 1) d_jdk_89_method_15_0 rfl rfl ?_
  refine W.ldcI ok (pc' := 3) (w171 hw) d_jdk_89_method_15_1 rfl ?_
  refine W.icmplt ok (pcY := 16) (pcN := 6) d_jdk_89_method_15_3 rfl (by decide) rfl (fun q => absurd q (by rw [ltc (n := 56320) rfl]; omega)) (fun _ => ?_)
  refine W.iloadN ok (pc' := 7) d_jdk_89_method_15_6 rfl rfl ?_
  refine W.ldcI ok (pc' := 9) (w182 hw) d_jdk_89_method_15_7 rfl ?_
  refine W.icmpge ok (pcY := 16) (pcN := 12) d_jdk_89_method_15_9 rfl (by decide) rfl (fun _ => ?_) (fun q => absurd (by rw [ltc (n := 57344) rfl]; omega) q)
  refine W.iconst ok (pc' := 13) (1 : Int32) d_jdk_89_method_15_12 rfl rfl ?_
  refine W.goto ok (pc' := 17) d_jdk_89_method_15_13 (by decide) rfl ?_
  exact W.retZ ok d_jdk_89_method_15_17 rfl (Nat.le_of_ble_eq_true rfl) (Nat.le_of_ble_eq_true rfl) (fun x (q : x ∈ M) => q) (fun kp => ⟨rfl, rfl⟩)
set_option maxRecDepth 65536 in
set_option maxHeartbeats 4000000 in
theorem k_cloN (l : Launch) (Z : State) (a0 : Array Value) (hE : Ev Z a0) (c : Int32) (h : Heap) (hc : ¬ Lo c) : Con l Z false (⟨"java/lang/Character", "isLowSurrogate", "(C)Z"⟩ : MethodName) jdk_89_method_15_code 1 (some .boolean) ({ frames := 0, cells := 0, slots := 0, locals := 0 } : Room) [(.int c)] h [] false (fun M v h' => v = some (.int 0) ∧ h' = h) := by
  have hw := hE.1
  refine Con.intro (L0 := #[.val (.int c)]) (by decide +kernel) (fun m => ef_of rfl) ?_
  intro B M hwsM ok
  refine W.iloadN ok (pc' := 1) d_jdk_89_method_15_0 rfl rfl ?_
  refine W.ldcI ok (pc' := 3) (w171 hw) d_jdk_89_method_15_1 rfl ?_
  refine W.icmplt ok (pcY := 16) (pcN := 6) d_jdk_89_method_15_3 rfl (by decide) rfl (fun c1 => ?_) (fun c1 => ?_)
  · refine W.iconst ok (pc' := 17) (0 : Int32) d_jdk_89_method_15_16 rfl rfl ?_
    exact W.retZ ok d_jdk_89_method_15_17 rfl (Nat.le_of_ble_eq_true rfl) (Nat.le_of_ble_eq_true rfl) (fun x (q : x ∈ M) => q) (fun kp => ⟨rfl, rfl⟩)
  · rw [ltc (n := 56320) rfl] at c1
    refine W.iloadN ok (pc' := 7) d_jdk_89_method_15_6 rfl rfl ?_
    refine W.ldcI ok (pc' := 9) (w182 hw) d_jdk_89_method_15_7 rfl ?_
    refine W.icmpge ok (pcY := 16) (pcN := 12) d_jdk_89_method_15_9 rfl (by decide) rfl (fun q => absurd q (by rw [ltc (n := 57344) rfl]; omega)) (fun _ => ?_)
    refine W.iconst ok (pc' := 17) (0 : Int32) d_jdk_89_method_15_16 rfl rfl ?_
    exact W.retZ ok d_jdk_89_method_15_17 rfl (Nat.le_of_ble_eq_true rfl) (Nat.le_of_ble_eq_true rfl) (fun x (q : x ∈ M) => q) (fun kp => ⟨rfl, rfl⟩)
set_option maxRecDepth 65536 in
set_option maxHeartbeats 4000000 in
theorem k_tcp (l : Launch) (Z : State) (a0 : Array Value) (hE : Ev Z a0) (c d : Int32) (h : Heap)  : Con l Z false (⟨"java/lang/Character", "toCodePoint", "(CC)I"⟩ : MethodName) jdk_89_method_19_code 2 (some .int) ({ frames := 0, cells := 0, slots := 0, locals := 0 } : Room) [(.int c), (.int d)] h [] false (fun M v h' => v = some (.int (tcp c d)) ∧ h' = h) := by
  have hw := hE.1
  refine Con.intro (L0 := #[.val (.int c), .val (.int d)]) (by decide +kernel) (fun m => ef_of rfl) ?_
  intro B M hwsM ok
  refine W.iloadN ok (pc' := 1) d_jdk_89_method_19_0 rfl rfl ?_
  refine W.bipush ok (pc' := 3) (10 : Int32) d_jdk_89_method_19_1 rfl rfl ?_
  refine W.ishl ok (pc' := 4) d_jdk_89_method_19_3 rfl ?_
  refine W.iloadN ok (pc' := 5) d_jdk_89_method_19_4 rfl rfl ?_
  refine W.iadd ok (pc' := 6) d_jdk_89_method_19_5 rfl ?_
  refine W.ldcI ok (pc' := 8) (w186 hw) d_jdk_89_method_19_6 rfl ?_
  refine W.iadd ok (pc' := 9) d_jdk_89_method_19_8 rfl ?_
  exact W.retI ok d_jdk_89_method_19_9 (Nat.le_of_ble_eq_true rfl) (Nat.le_of_ble_eq_true rfl) (fun x (q : x ∈ M) => q) (fun kp => ⟨rfl, rfl⟩)
set_option maxRecDepth 65536 in
set_option maxHeartbeats 4000000 in
theorem k_cc1 (l : Launch) (Z : State) (a0 : Array Value) (hE : Ev Z a0) (c : Int32) (h : Heap) (hc : c.toInt < 65536) : Con l Z false (⟨"java/lang/Character", "charCount", "(I)I"⟩ : MethodName) jdk_89_method_18_code 1 (some .int) ({ frames := 0, cells := 0, slots := 0, locals := 0 } : Room) [(.int c)] h [] false (fun M v h' => v = some (.int 1) ∧ h' = h) := by
  have hw := hE.1
  refine Con.intro (L0 := #[.val (.int c)]) (by decide +kernel) (fun m => ef_of rfl) ?_
  intro B M hwsM ok
  refine W.iloadN ok (pc' := 1) d_jdk_89_method_18_0 rfl rfl ?_
  refine W.ldcI ok (pc' := 3) (w107 hw) d_jdk_89_method_18_1 rfl ?_
  refine W.icmplt ok (pcY := 10) (pcN := 6) d_jdk_89_method_18_3 rfl (by decide) rfl (fun _ => ?_) (fun q => absurd (by rw [ltc (n := 65536) rfl]; omega) q)
  refine W.iconst ok (pc' := 11) (1 : Int32) d_jdk_89_method_18_10 rfl rfl ?_
  exact W.retI ok d_jdk_89_method_18_11 (Nat.le_of_ble_eq_true rfl) (Nat.le_of_ble_eq_true rfl) (fun x (q : x ∈ M) => q) (fun kp => ⟨rfl, rfl⟩)
set_option maxRecDepth 65536 in
set_option maxHeartbeats 4000000 in
theorem k_cc2 (l : Launch) (Z : State) (a0 : Array Value) (hE : Ev Z a0) (c : Int32) (h : Heap) (hc : 65536 ≤ c.toInt) : Con l Z false (⟨"java/lang/Character", "charCount", "(I)I"⟩ : MethodName) jdk_89_method_18_code 1 (some .int) ({ frames := 0, cells := 0, slots := 0, locals := 0 } : Room) [(.int c)] h [] false (fun M v h' => v = some (.int 2) ∧ h' = h) := by
  have hw := hE.1
  refine Con.intro (L0 := #[.val (.int c)]) (by decide +kernel) (fun m => ef_of rfl) ?_
  intro B M hwsM ok
  refine W.iloadN ok (pc' := 1) d_jdk_89_method_18_0 rfl rfl ?_
  refine W.ldcI ok (pc' := 3) (w107 hw) d_jdk_89_method_18_1 rfl ?_
  refine W.icmplt ok (pcY := 10) (pcN := 6) d_jdk_89_method_18_3 rfl (by decide) rfl (fun q => absurd q (by rw [ltc (n := 65536) rfl]; omega)) (fun _ => ?_)
  refine W.iconst ok (pc' := 7) (2 : Int32) d_jdk_89_method_18_6 rfl rfl ?_
  refine W.goto ok (pc' := 11) d_jdk_89_method_18_7 (by decide) rfl ?_
  exact W.retI ok d_jdk_89_method_18_11 (Nat.le_of_ble_eq_true rfl) (Nat.le_of_ble_eq_true rfl) (fun x (q : x ∈ M) => q) (fun kp => ⟨rfl, rfl⟩)
set_option maxRecDepth 65536 in
set_option maxHeartbeats 4000000 in
theorem k_coder (l : Launch) (Z : State) (a0 : Array Value) (hE : Ev Z a0) (a : Addr) (cd : Int32) (h : Heap) (F : Fld Z h a ST "coder" "B" (.int cd)) (hc : b8 cd = cd) : Con l Z false (⟨"java/lang/String", "coder", "()B"⟩ : MethodName) jdk_42_method_152_code 1 (some .byte) ({ frames := 0, cells := 0, slots := 0, locals := 0 } : Room) [(.ref a)] h [] false (fun M v h' => v = some (.int cd) ∧ h' = h) := by
  have hw := hE.1
  refine Con.intro (L0 := #[.val (.ref a)]) (by decide +kernel) (fun m => ef_of rfl) ?_
  intro B M hwsM ok
  obtain ⟨g, hg, Fg⟩ := hE.compact
  refine W.getS ok (pc' := 3) (w32 hw) Via.refl Fg d_jdk_42_method_152_0 rfl ?_
  refine W.ifeq ok (pcY := 13) (pcN := 6) d_jdk_42_method_152_3 rfl (by decide) rfl (fun q => absurd q hg) (fun _ => ?_)
  refine W.aloadN ok (pc' := 7) d_jdk_42_method_152_6 rfl rfl rfl ?_
  refine W.getF ok (pc' := 10) (w44 hw) Via.refl F d_jdk_42_method_152_7 rfl ?_
  refine W.goto ok (pc' := 14) d_jdk_42_method_152_10 (by decide) rfl ?_
  exact W.retB ok d_jdk_42_method_152_14 hc (Nat.le_of_ble_eq_true rfl) (Nat.le_of_ble_eq_true rfl) (fun x (q : x ∈ M) => q) (fun kp => ⟨rfl, rfl⟩)
set_option maxRecDepth 65536 in
set_option maxHeartbeats 4000000 in
theorem k_length (l : Launch) (Z : State) (a0 : Array Value) (hE : Ev Z a0) (a : Addr) (cs : List Int32) (h : Heap) (S : Str Z h a cs) (hl : cs.length < 1000000) : Con l Z false (⟨"java/lang/String", "length", "()I"⟩ : MethodName) jdk_42_method_54_code 1 (some .int) ({ frames := 1, cells := 0, slots := 0, locals := 13 } : Room) [(.ref a)] h [] false (fun M v h' => v = some (.int cs.length.toInt32) ∧ h' = h) := by
  have hw := hE.1
  refine Con.intro (L0 := #[.val (.ref a)]) (by decide +kernel) (fun m => ef_of rfl) ?_
  intro B M hwsM ok
  obtain ⟨t, cd, bs, X, F1, F2, A, hc⟩ := S
  refine W.aloadN ok (pc' := 1) d_jdk_42_method_54_0 rfl rfl rfl ?_
  refine W.getF ok (pc' := 4) (w46 hw) Via.refl F1 d_jdk_42_method_54_1 rfl ?_
  refine W.lenI ok (pc' := 5) A bs.length.toInt32 rfl d_jdk_42_method_54_4 rfl ?_
  refine W.aloadN ok (pc' := 6) d_jdk_42_method_54_5 rfl rfl rfl ?_
  refine W.callV ok (rest := [(.int bs.length.toInt32)]) (cl' := (true, [])) (pc' := 9) (w64 hw) (w65 hw) (w67 hw) (w66 hw) (w21 hw) (w68 hw) (by decide) X pd_0 rfl (k_coder l Z a0 hE a cd h F2 hc.cd01) (fun _ q => (nomatch q)) (fun q => ⟨q, fun _ q => (nomatch q)⟩) rfl rfl (Nat.le_of_ble_eq_true rfl) (Nat.le_of_ble_eq_true rfl) (Nat.le_of_ble_eq_true rfl) (Nat.le_of_ble_eq_true rfl) d_jdk_42_method_54_6 rfl rfl (pureK ?_)
  show W B h 0 0 M (true, []) 9 #[.val (.ref a)] [(.int cd), (.int bs.length.toInt32)]
  refine W.ishr ok (pc' := 10) d_jdk_42_method_54_9 rfl ?_
  exact W.retI ok d_jdk_42_method_54_10 (Nat.le_of_ble_eq_true rfl) (Nat.le_of_ble_eq_true rfl) (fun x (q : x ∈ M) => q) (fun kp => ⟨by rw [hc.len hl], rfl⟩)
set_option maxRecDepth 65536 in
set_option maxHeartbeats 4000000 in
theorem k_isLatL (l : Launch) (Z : State) (a0 : Array Value) (hE : Ev Z a0) (a : Addr) (h : Heap) (F : Fld Z h a ST "coder" "B" (.int 0)) : Con l Z false (⟨"java/lang/String", "isLatin1", "()Z"⟩ : MethodName) jdk_42_method_154_code 1 (some .boolean) ({ frames := 0, cells := 0, slots := 0, locals := 0 } : Room) [(.ref a)] h [] false (fun M v h' => v = some (.int 1) ∧ h' = h) := by
  have hw := hE.1
  refine Con.intro (L0 := #[.val (.ref a)]) (by decide +kernel) (fun m => ef_of rfl) ?_
  intro B M hwsM ok
  obtain ⟨g, hg, Fg⟩ := hE.compact
  refine W.getS ok (pc' := 3) (w32 hw) Via.refl Fg d_jdk_42_method_154_0 rfl ?_
  refine W.ifeq ok (pcY := 17) (pcN := 6) d_jdk_42_method_154_3 rfl (by decide) rfl (fun q => absurd q hg) (fun _ => ?_)
  refine W.aloadN ok (pc' := 7) d_jdk_42_method_154_6 rfl rfl rfl ?_
  refine W.getF ok (pc' := 10) (w44 hw) Via.refl F d_jdk_42_method_154_7 rfl ?_
  refine W.ifne ok (pcY := 17) (pcN := 13) d_jdk_42_method_154_10 rfl (by decide) rfl (fun _ => ?_) (fun q => absurd rfl q)
  refine W.iconst ok (pc' := 14) (1 : Int32) d_jdk_42_method_154_13 rfl rfl ?_
  refine W.goto ok (pc' := 18) d_jdk_42_method_154_14 (by decide) rfl ?_
  exact W.retZ ok d_jdk_42_method_154_18 rfl (Nat.le_of_ble_eq_true rfl) (Nat.le_of_ble_eq_true rfl) (fun x (q : x ∈ M) => q) (fun kp => ⟨rfl, rfl⟩)
set_option maxRecDepth 65536 in
set_option maxHeartbeats 4000000 in
theorem k_isLatW (l : Launch) (Z : State) (a0 : Array Value) (hE : Ev Z a0) (a : Addr) (h : Heap) (F : Fld Z h a ST "coder" "B" (.int 1)) : Con l Z false (⟨"java/lang/String", "isLatin1", "()Z"⟩ : MethodName) jdk_42_method_154_code 1 (some .boolean) ({ frames := 0, cells := 0, slots := 0, locals := 0 } : Room) [(.ref a)] h [] false (fun M v h' => v = some (.int 0) ∧ h' = h) := by
  have hw := hE.1
  refine Con.intro (L0 := #[.val (.ref a)]) (by decide +kernel) (fun m => ef_of rfl) ?_
  intro B M hwsM ok
  obtain ⟨g, hg, Fg⟩ := hE.compact
  refine W.getS ok (pc' := 3) (w32 hw) Via.refl Fg d_jdk_42_method_154_0 rfl ?_
  refine W.ifeq ok (pcY := 17) (pcN := 6) d_jdk_42_method_154_3 rfl (by decide) rfl (fun q => absurd q hg) (fun _ => ?_)
  refine W.aloadN ok (pc' := 7) d_jdk_42_method_154_6 rfl rfl rfl ?_
  refine W.getF ok (pc' := 10) (w44 hw) Via.refl F d_jdk_42_method_154_7 rfl ?_
  refine W.ifne ok (pcY := 17) (pcN := 13) d_jdk_42_method_154_10 rfl (by decide) rfl (fun q => absurd q (by decide)) (fun _ => ?_)
  refine W.iconst ok (pc' := 18) (0 : Int32) d_jdk_42_method_154_17 rfl rfl ?_
  exact W.retZ ok d_jdk_42_method_154_18 rfl (Nat.le_of_ble_eq_true rfl) (Nat.le_of_ble_eq_true rfl) (fun x (q : x ∈ M) => q) (fun kp => ⟨rfl, rfl⟩)
set_option maxRecDepth 65536 in
set_option maxHeartbeats 4000000 in
theorem k_pCheck (l : Launch) (Z : State) (a0 : Array Value) (hE : Ev Z a0) (i n : Int32) (g : Value) (h : Heap) (hg : g.isRef = true) (h1 : ¬ i < 0) (h2 : i < n) : Con l Z false (⟨"jdk/internal/util/Preconditions", "checkIndex", "(IILjava/util/function/BiFunction;)I"⟩ : MethodName) jdk_41_method_11_code 3 (some .int) ({ frames := 0, cells := 0, slots := 0, locals := 0 } : Room) [(.int i), (.int n), g] h [] false (fun M v h' => v = some (.int i) ∧ h' = h) := by
  have hw := hE.1
  refine Con.intro (L0 := #[.val (.int i), .val (.int n), .val g]) (by decide +kernel) (fun m => ef_of (by rcases XT.refc hg with rfl | ⟨r, rfl⟩ <;> rfl)) ?_
  intro B M hwsM ok
  refine W.iloadN ok (pc' := 1) d_jdk_41_method_11_0 rfl rfl ?_
  refine W.iflt ok (pcY := 9) (pcN := 4) d_jdk_41_method_11_1 rfl (by decide) rfl (fun q => absurd q h1) (fun _ => ?_)
  refine W.iloadN ok (pc' := 5) d_jdk_41_method_11_4 rfl rfl ?_
  refine W.iloadN ok (pc' := 6) d_jdk_41_method_11_5 rfl rfl ?_
  refine W.icmplt ok (pcY := 16) (pcN := 9) d_jdk_41_method_11_6 rfl (by decide) rfl (fun _ => ?_) (fun q => absurd h2 q)
  refine W.iloadN ok (pc' := 17) d_jdk_41_method_11_16 rfl rfl ?_
  exact W.retI ok d_jdk_41_method_11_17 (Nat.le_of_ble_eq_true rfl) (Nat.le_of_ble_eq_true rfl) (fun x (q : x ∈ M) => q) (fun kp => ⟨rfl, rfl⟩)
set_option maxRecDepth 65536 in
set_option maxHeartbeats 4000000 in
theorem k_sCheck (l : Launch) (Z : State) (a0 : Array Value) (hE : Ev Z a0) (i n : Int32) (h : Heap) (h1 : ¬ i < 0) (h2 : i < n) : Con l Z false (⟨"java/lang/String", "checkIndex", "(II)V"⟩ : MethodName) jdk_42_method_155_code 2 none ({ frames := 1, cells := 0, slots := 0, locals := 14 } : Room) [(.int i), (.int n)] h [] false (fun M v h' => v = none ∧ h' = h) := by
  have hw := hE.1
  refine Con.intro (L0 := #[.val (.int i), .val (.int n)]) (by decide +kernel) (fun m => ef_of rfl) ?_
  intro B M hwsM ok
  obtain ⟨g, hg, Fg⟩ := hE.fmt
  refine W.iloadN ok (pc' := 1) d_jdk_42_method_155_0 rfl rfl ?_
  refine W.iloadN ok (pc' := 2) d_jdk_42_method_155_1 rfl rfl ?_
  refine W.getS ok (pc' := 5) (w98 hw) Via.refl Fg d_jdk_42_method_155_2 rfl ?_
  refine W.callS ok (rest := []) (cl' := (true, [])) (pc' := 8) (w99 hw) (w100 hw) (w80 hw) (w101 hw) (by decide) pd_1 rfl (k_pCheck l Z a0 hE i n g h hg h1 h2) (fun _ q => (nomatch q)) (fun q => ⟨q, fun _ q => (nomatch q)⟩) rfl rfl (Nat.le_of_ble_eq_true rfl) (Nat.le_of_ble_eq_true rfl) (Nat.le_of_ble_eq_true rfl) (Nat.le_of_ble_eq_true rfl) d_jdk_42_method_155_5 rfl rfl (pureK ?_)
  show W B h 0 0 M (true, []) 8 #[.val (.int i), .val (.int n)] [(.int i)]
  refine W.pop1 ok (pc' := 9) d_jdk_42_method_155_8 rfl rfl ?_
  exact W.retV ok d_jdk_42_method_155_9 (Nat.le_of_ble_eq_true rfl) (Nat.le_of_ble_eq_true rfl) (fun x (q : x ∈ M) => q) (fun kp => ⟨rfl, rfl⟩)
set_option maxRecDepth 65536 in
set_option maxHeartbeats 4000000 in
theorem k_getChar (l : Launch) (Z : State) (a0 : Array Value) (hE : Ev Z a0) (t : Addr) (bs : List Int32) (iN : Nat) (u w : Int32) (h : Heap) (A : ArI Z h t .byte bs) (h1 : bs[2 * iN]? = some u) (h2 : bs[2 * iN + 1]? = some w) (hl : bs.length < 2000000) : Con l Z false (⟨"java/lang/StringUTF16", "getChar", "([BI)C"⟩ : MethodName) jdk_52_method_5_code 2 (some .char) ({ frames := 0, cells := 0, slots := 0, locals := 0 } : Room) [(.ref t), (.int iN.toInt32)] h [] false (fun M v h' => v = some (.int (c16 (((u &&& 255) <<< ((0 : Int32) &&& 31)) ||| ((w &&& 255) <<< ((8 : Int32) &&& 31))))) ∧ h' = h) := by
  have hw := hE.1
  refine Con.intro (L0 := #[.val (.ref t), .val (.int iN.toInt32)]) (by decide +kernel) (fun m => ef_of rfl) ?_
  intro B M hwsM ok
  refine W.getS ok (pc' := 3) (w155 hw) Via.refl hE.asd d_jdk_52_method_5_0 rfl ?_
  refine W.ifne ok (pcY := 28) (pcN := 6) d_jdk_52_method_5_3 rfl (by decide) rfl (fun q => absurd q (by decide)) (fun _ => ?_)
  refine W.iloadN ok (pc' := 29) d_jdk_52_method_5_28 rfl rfl ?_
  refine W.iconst ok (pc' := 30) (1 : Int32) d_jdk_52_method_5_29 rfl rfl ?_
  refine W.ishl ok (pc' := 31) d_jdk_52_method_5_30 rfl ?_
  generalize hj : (iN.toInt32 <<< ((1 : Int32) &&& 31)) = j
  have l1 := lt_of_at h1
  have l2 := lt_of_at h2
  have ej : j.toInt = 2 * iN := by have := shl1 (iN.toInt32); have := i32_len (n := iN) (by omega); rw [hj] at *; have := rng32 j; omega
  have nj : j.toNatClampNeg = 2 * iN := by simp only [Int32.toNatClampNeg]; omega
  have nj1 : (j + 1).toInt = 2 * iN + 1 := by have := c_iadd j 1; have e1 : (1 : Int32).toInt = 1 := rfl; have := rng32 (j + 1); omega
  have nn1 : (j + 1).toNatClampNeg = 2 * iN + 1 := by simp only [Int32.toNatClampNeg]; omega
  have m0 : ¬ j < 0 := by rw [neg_iff]; omega
  have m1 : ¬ (j + 1) < 0 := by rw [neg_iff]; omega
  refine W.istoreN ok (pc' := 32) (L' := #[.val (.ref t), .val (.int j)]) d_jdk_52_method_5_31 rfl rfl ?_
  refine W.aloadN ok (pc' := 33) d_jdk_52_method_5_32 rfl rfl rfl ?_
  refine W.iloadN ok (pc' := 34) d_jdk_52_method_5_33 rfl rfl ?_
  refine W.iinc ok (pc' := 37) (L' := #[.val (.ref t), .val (.int (j + (1 : Int32)))]) (1 : Int32) d_jdk_52_method_5_34 rfl rfl rfl rfl ?_
  refine W.baload ok (pc' := 38) A u m0 (by rw [nj]; exact h1) d_jdk_52_method_5_37 rfl ?_
  refine W.sipush ok (pc' := 41) (255 : Int32) d_jdk_52_method_5_38 rfl rfl ?_
  refine W.iand ok (pc' := 42) d_jdk_52_method_5_41 rfl ?_
  refine W.getS ok (pc' := 45) (w156 hw) Via.refl hE.hi d_jdk_52_method_5_42 rfl ?_
  refine W.ishl ok (pc' := 46) d_jdk_52_method_5_45 rfl ?_
  refine W.aloadN ok (pc' := 47) d_jdk_52_method_5_46 rfl rfl rfl ?_
  refine W.iloadN ok (pc' := 48) d_jdk_52_method_5_47 rfl rfl ?_
  refine W.baload ok (pc' := 49) A w m1 (by rw [nn1]; exact h2) d_jdk_52_method_5_48 rfl ?_
  refine W.sipush ok (pc' := 52) (255 : Int32) d_jdk_52_method_5_49 rfl rfl ?_
  refine W.iand ok (pc' := 53) d_jdk_52_method_5_52 rfl ?_
  refine W.getS ok (pc' := 56) (w157 hw) Via.refl hE.lo d_jdk_52_method_5_53 rfl ?_
  refine W.ishl ok (pc' := 57) d_jdk_52_method_5_56 rfl ?_
  refine W.ior ok (pc' := 58) d_jdk_52_method_5_57 rfl ?_
  refine W.i2c ok (pc' := 59) d_jdk_52_method_5_58 rfl ?_
  exact W.retC ok d_jdk_52_method_5_59 (c16_c16 _) (Nat.le_of_ble_eq_true rfl) (Nat.le_of_ble_eq_true rfl) (fun x (q : x ∈ M) => q) (fun kp => ⟨rfl, rfl⟩)
set_option maxRecDepth 65536 in
set_option maxHeartbeats 4000000 in
theorem k_putChar (l : Launch) (Z : State) (a0 : Array Value) (hE : Ev Z a0) (t : Addr) (bs : List Int32) (iN : Nat) (c : Int32) (h : Heap) (A : ArI Z h t .byte bs) (hi : 2 * iN + 1 < bs.length) (hl : bs.length < 2000000) : Con l Z false (⟨"java/lang/StringUTF16", "putChar", "([BII)V"⟩ : MethodName) jdk_52_method_4_code 3 none ({ frames := 0, cells := 0, slots := 0, locals := 0 } : Room) [(.ref t), (.int iN.toInt32), (.int c)] h [t] false (fun M v h' => v = none ∧ ArI Z h' t .byte ((bs.set (2 * iN) (b8 c)).set (2 * iN + 1) (b8 (c >>> ((8 : Int32) &&& 31))))) := by
  have hw := hE.1
  refine Con.intro (L0 := #[.val (.ref t), .val (.int iN.toInt32), .val (.int c)]) (by decide +kernel) (fun m => ef_of rfl) ?_
  intro B M hwsM ok
  refine W.getS ok (pc' := 3) (w155 hw) Via.refl hE.asd d_jdk_52_method_4_0 rfl ?_
  refine W.ifne ok (pcY := 28) (pcN := 6) d_jdk_52_method_4_3 rfl (by decide) rfl (fun q => absurd q (by decide)) (fun _ => ?_)
  refine W.iloadN ok (pc' := 29) d_jdk_52_method_4_28 rfl rfl ?_
  refine W.iconst ok (pc' := 30) (1 : Int32) d_jdk_52_method_4_29 rfl rfl ?_
  refine W.ishl ok (pc' := 31) d_jdk_52_method_4_30 rfl ?_
  generalize hj : (iN.toInt32 <<< ((1 : Int32) &&& 31)) = j
  have ej : j.toInt = 2 * iN := by have := shl1 (iN.toInt32); have := i32_len (n := iN) (by omega); rw [hj] at *; have := rng32 j; omega
  have nj : j.toNatClampNeg = 2 * iN := by simp only [Int32.toNatClampNeg]; omega
  have nj1 : (j + 1).toInt = 2 * iN + 1 := by have := c_iadd j 1; have e1 : (1 : Int32).toInt = 1 := rfl; have := rng32 (j + 1); omega
  have nn1 : (j + 1).toNatClampNeg = 2 * iN + 1 := by simp only [Int32.toNatClampNeg]; omega
  have m0 : ¬ j < 0 := by rw [neg_iff]; omega
  have m1 : ¬ (j + 1) < 0 := by rw [neg_iff]; omega
  refine W.istoreN ok (pc' := 32) (L' := #[.val (.ref t), .val (.int j), .val (.int c)]) d_jdk_52_method_4_31 rfl rfl ?_
  refine W.aloadN ok (pc' := 33) d_jdk_52_method_4_32 rfl rfl rfl ?_
  refine W.iloadN ok (pc' := 34) d_jdk_52_method_4_33 rfl rfl ?_
  refine W.iinc ok (pc' := 37) (L' := #[.val (.ref t), .val (.int (j + (1 : Int32))), .val (.int c)]) (1 : Int32) d_jdk_52_method_4_34 rfl rfl rfl rfl ?_
  refine W.iloadN ok (pc' := 38) d_jdk_52_method_4_37 rfl rfl ?_
  refine W.getS ok (pc' := 41) (w156 hw) Via.refl hE.hi d_jdk_52_method_4_38 rfl ?_
  refine W.ishr ok (pc' := 42) d_jdk_52_method_4_41 rfl ?_
  refine W.i2b ok (pc' := 43) d_jdk_52_method_4_42 rfl ?_
  refine W.bastore ok (pc' := 44) (cl' := (false, [])) A m0 (by rw [nj]; omega) (hwsM _ (List.mem_of_getElem? (i := 0) rfl)) (Or.inl (List.mem_of_getElem? (i := 0) rfl)) (fun q => by cases q) rfl d_jdk_52_method_4_43 rfl (fun h1 Wr2 A3 => ?_)
  refine W.aloadN ok (pc' := 45) d_jdk_52_method_4_44 rfl rfl rfl ?_
  refine W.iloadN ok (pc' := 46) d_jdk_52_method_4_45 rfl rfl ?_
  refine W.iloadN ok (pc' := 47) d_jdk_52_method_4_46 rfl rfl ?_
  refine W.getS ok (pc' := 50) (w157 hw) Via.refl hE.lo d_jdk_52_method_4_47 rfl ?_
  refine W.ishr ok (pc' := 51) d_jdk_52_method_4_50 rfl ?_
  refine W.i2b ok (pc' := 52) d_jdk_52_method_4_51 rfl ?_
  refine W.bastore ok (pc' := 53) (cl' := (false, [])) A3 m1 (by rw [nn1, List.length_set]; omega) (hwsM _ (List.mem_of_getElem? (i := 0) rfl)) (Or.inl (List.mem_of_getElem? (i := 0) rfl)) (fun q => by cases q) rfl d_jdk_52_method_4_52 rfl (fun h4 Wr5 A6 => ?_)
  exact W.retV ok d_jdk_52_method_4_53 (Nat.le_of_ble_eq_true rfl) (Nat.le_of_ble_eq_true rfl) (fun x (q : x ∈ M) => q) (fun kp => ⟨rfl, A6.cast (by rw [nj, nn1, shr0, b8_b8, b8_b8])⟩)
set_option maxRecDepth 65536 in
set_option maxHeartbeats 4000000 in
theorem k_eqB (l : Launch) (Z : State) (a0 : Array Value) (hE : Ev Z a0) (t u : Addr) (bs es : List Int32) (h : Heap) (A : ArI Z h t .byte bs) (E : ArI Z h u .byte es) (h1 : bs.length < 2000000) (h2 : es.length < 2000000) : Con l Z false (⟨"java/lang/StringLatin1", "equals", "([B[B)Z"⟩ : MethodName) jdk_43_method_13_code 3 (some .boolean) ({ frames := 0, cells := 0, slots := 0, locals := 0 } : Room) [(.ref t), (.ref u)] h [] false (fun M v h' => v = some (.int (if bs = es then 1 else 0)) ∧ h' = h) := by
  have hw := hE.1
  refine Con.intro (L0 := #[.val (.ref t), .val (.ref u), .unset]) (by decide +kernel) (fun m => ef_of rfl) ?_
  intro B M hwsM ok
  refine W.aloadN ok (pc' := 1) d_jdk_43_method_13_0 rfl rfl rfl ?_
  refine W.lenI ok (pc' := 2) A bs.length.toInt32 rfl d_jdk_43_method_13_1 rfl ?_
  refine W.aloadN ok (pc' := 3) d_jdk_43_method_13_2 rfl rfl rfl ?_
  refine W.lenI ok (pc' := 4) E es.length.toInt32 rfl d_jdk_43_method_13_3 rfl ?_
  refine W.icmpne ok (pcY := 34) (pcN := 7) d_jdk_43_method_13_4 rfl (by decide) rfl (fun c0 => ?_) (fun c0 => ?_)
  · have hl : bs.length = es.length := (i32_inj (by omega) (by omega)).mp c0
    refine W.iconst ok (pc' := 8) (0 : Int32) d_jdk_43_method_13_7 rfl rfl ?_
    refine W.istoreN ok (pc' := 9) (L' := #[.val (.ref t), .val (.ref u), .val (.int (0 : Int32))]) d_jdk_43_method_13_8 rfl rfl ?_
    have loop : ∀ (m i : Nat), i + m = bs.length → bs.take i = es.take i → W B h 0 0 M (true, []) 9 #[.val (.ref t), .val (.ref u), .val (.int i.toInt32)] [] := by
      intro m
      induction m with
      | zero =>
        intro i hi he
        refine W.iloadN ok (pc' := 10) d_jdk_43_method_13_9 rfl rfl ?_
        refine W.aloadN ok (pc' := 11) d_jdk_43_method_13_10 rfl rfl rfl ?_
        refine W.lenI ok (pc' := 12) A bs.length.toInt32 rfl d_jdk_43_method_13_11 rfl ?_
        refine W.icmpge ok (pcY := 32) (pcN := 15) d_jdk_43_method_13_12 rfl (by decide) rfl (fun q => absurd q (by rw [i32_lt (by omega) (by omega)]; omega)) (fun _ => ?_)
        refine W.iconst ok (pc' := 33) (1 : Int32) d_jdk_43_method_13_32 rfl rfl ?_
        exact W.retZ ok d_jdk_43_method_13_33 rfl (Nat.le_of_ble_eq_true rfl) (Nat.le_of_ble_eq_true rfl) (fun x (q : x ∈ M) => q) (fun kp => ⟨by rw [if_pos (by rw [List.take_of_length_le (by omega), List.take_of_length_le (by omega)] at he; exact he)], rfl⟩)
      | succ m ih =>
        intro i hi he
        obtain ⟨x, hx⟩ := at_lt (cs := bs) (i := i) (by omega)
        obtain ⟨y, hy⟩ := at_lt (cs := es) (i := i) (by omega)
        refine W.iloadN ok (pc' := 10) d_jdk_43_method_13_9 rfl rfl ?_
        refine W.aloadN ok (pc' := 11) d_jdk_43_method_13_10 rfl rfl rfl ?_
        refine W.lenI ok (pc' := 12) A bs.length.toInt32 rfl d_jdk_43_method_13_11 rfl ?_
        refine W.icmpge ok (pcY := 32) (pcN := 15) d_jdk_43_method_13_12 rfl (by decide) rfl (fun _ => ?_) (fun q => absurd ((i32_lt (by omega) (by omega)).mpr (by omega)) q)
        refine W.aloadN ok (pc' := 16) d_jdk_43_method_13_15 rfl rfl rfl ?_
        refine W.iloadN ok (pc' := 17) d_jdk_43_method_13_16 rfl rfl ?_
        refine W.baload ok (pc' := 18) A x (i32_nn (by omega)) (by rw [nat_i32 (by omega)]; exact hx) d_jdk_43_method_13_17 rfl ?_
        refine W.aloadN ok (pc' := 19) d_jdk_43_method_13_18 rfl rfl rfl ?_
        refine W.iloadN ok (pc' := 20) d_jdk_43_method_13_19 rfl rfl ?_
        refine W.baload ok (pc' := 21) E y (i32_nn (by omega)) (by rw [nat_i32 (by omega)]; exact hy) d_jdk_43_method_13_20 rfl ?_
        refine W.icmpeq ok (pcY := 26) (pcN := 24) d_jdk_43_method_13_21 rfl (by decide) rfl (fun c1 => ?_) (fun c1 => ?_)
        · subst c1
          refine W.iinc ok (pc' := 29) (L' := #[.val (.ref t), .val (.ref u), .val (.int (i.toInt32 + (1 : Int32)))]) (1 : Int32) d_jdk_43_method_13_26 rfl rfl rfl rfl ?_
          refine W.goto ok (pc' := 9) d_jdk_43_method_13_29 (by decide) rfl ?_
          rw [i32_succ]
          exact ih (i + 1) (by omega) (take_succ_eq he hx hy)
        · refine W.iconst ok (pc' := 25) (0 : Int32) d_jdk_43_method_13_24 rfl rfl ?_
          exact W.retZ ok d_jdk_43_method_13_25 rfl (Nat.le_of_ble_eq_true rfl) (Nat.le_of_ble_eq_true rfl) (fun x (q : x ∈ M) => q) (fun kp => ⟨by rw [if_neg (fun e => c1 (by rw [e] at hx; exact Option.some.inj (hx.symm.trans hy)))], rfl⟩)
    exact loop bs.length 0 (by omega) rfl
  · refine W.iconst ok (pc' := 35) (0 : Int32) d_jdk_43_method_13_34 rfl rfl ?_
    exact W.retZ ok d_jdk_43_method_13_35 rfl (Nat.le_of_ble_eq_true rfl) (Nat.le_of_ble_eq_true rfl) (fun x (q : x ∈ M) => q) (fun kp => ⟨by rw [if_neg (fun e => c0 (by rw [e]))], rfl⟩)
set_option maxRecDepth 65536 in
set_option maxHeartbeats 4000000 in
theorem k_eqS (l : Launch) (Z : State) (a0 : Array Value) (hE : Ev Z a0) (a b : Addr) (cs ds : List Int32) (h : Heap) (S : Str Z h a cs) (S2 : Str Z h b ds) (l1 : cs.length < 1000000) (l2 : ds.length < 1000000) : Con l Z false (⟨"java/lang/String", "equals", "(Ljava/lang/Object;)Z"⟩ : MethodName) jdk_42_method_66_code 3 (some .boolean) ({ frames := 1, cells := 0, slots := 0, locals := 14 } : Room) [(.ref a), (.ref b)] h [] false (fun M v h' => v = some (.int (if cs = ds then 1 else 0)) ∧ h' = h) := by
  have hw := hE.1
  refine Con.intro (L0 := #[.val (.ref a), .val (.ref b), .unset]) (by decide +kernel) (fun m => ef_of rfl) ?_
  intro B M hwsM ok
  refine W.aloadN ok (pc' := 1) d_jdk_42_method_66_0 rfl rfl rfl ?_
  refine W.aloadN ok (pc' := 2) d_jdk_42_method_66_1 rfl rfl rfl ?_
  refine W.acmpne ok (pcY := 7) (pcN := 5) d_jdk_42_method_66_2 rfl rfl rfl (by decide) rfl (fun c0 => ?_) (fun c0 => ?_)
  · have e0 : a = b := by injection c0
    subst e0
    refine W.iconst ok (pc' := 6) (1 : Int32) d_jdk_42_method_66_5 rfl rfl ?_
    exact W.retZ ok d_jdk_42_method_66_6 rfl (Nat.le_of_ble_eq_true rfl) (Nat.le_of_ble_eq_true rfl) (fun x (q : x ∈ M) => q) (fun kp => ⟨by rw [if_pos (S.inj S2)], rfl⟩)
  · obtain ⟨t, cd, bs, X, F1, F2, A, hc⟩ := S
    obtain ⟨u, ce, es, X2, G1, G2, A2, hd⟩ := S2
    have l1 : bs.length < 2000000 := by rcases hc with ⟨-, rfl, -⟩ | ⟨-, rfl, -⟩ <;> simp [wide_length] <;> omega
    have l2 : es.length < 2000000 := by rcases hd with ⟨-, rfl, -⟩ | ⟨-, rfl, -⟩ <;> simp [wide_length] <;> omega
    refine W.aloadN ok (pc' := 8) d_jdk_42_method_66_7 rfl rfl rfl ?_
    refine W.instY ok (pc' := 11) (w126 hw) (Ins.self X2) d_jdk_42_method_66_8 rfl ?_
    refine W.ifeq ok (pcY := 54) (pcN := 14) d_jdk_42_method_66_11 rfl (by decide) rfl (fun q => absurd q (by decide)) (fun _ => ?_)
    refine W.aloadN ok (pc' := 15) d_jdk_42_method_66_14 rfl rfl rfl ?_
    refine W.cast ok (pc' := 18) (w126 hw) (Ins.self X2) d_jdk_42_method_66_15 rfl ?_
    refine W.astoreN ok (pc' := 19) (L' := #[.val (.ref a), .val (.ref b), .val (.ref b)]) d_jdk_42_method_66_18 rfl rfl rfl ?_
    obtain ⟨g, hg, Fg⟩ := hE.compact
    refine W.getS ok (pc' := 22) (w32 hw) Via.refl Fg d_jdk_42_method_66_19 rfl ?_
    refine W.ifeq ok (pcY := 36) (pcN := 25) d_jdk_42_method_66_22 rfl (by decide) rfl (fun q => absurd q hg) (fun _ => ?_)
    refine W.aloadN ok (pc' := 26) d_jdk_42_method_66_25 rfl rfl rfl ?_
    refine W.getF ok (pc' := 29) (w44 hw) Via.refl F2 d_jdk_42_method_66_26 rfl ?_
    refine W.aloadN ok (pc' := 30) d_jdk_42_method_66_29 rfl rfl rfl ?_
    refine W.getF ok (pc' := 33) (w44 hw) Via.refl G2 d_jdk_42_method_66_30 rfl ?_
    refine W.icmpne ok (pcY := 54) (pcN := 36) d_jdk_42_method_66_33 rfl (by decide) rfl (fun c1 => ?_) (fun c1 => ?_)
    · subst c1
      refine W.aloadN ok (pc' := 37) d_jdk_42_method_66_36 rfl rfl rfl ?_
      refine W.getF ok (pc' := 40) (w46 hw) Via.refl F1 d_jdk_42_method_66_37 rfl ?_
      refine W.aloadN ok (pc' := 41) d_jdk_42_method_66_40 rfl rfl rfl ?_
      refine W.getF ok (pc' := 44) (w46 hw) Via.refl G1 d_jdk_42_method_66_41 rfl ?_
      refine W.callS ok (rest := []) (cl' := (true, [])) (pc' := 47) (w127 hw) (w128 hw) (w129 hw) (w130 hw) (by decide) pd_2 rfl (k_eqB l Z a0 hE t u bs es h A A2 l1 l2) (fun _ q => (nomatch q)) (fun q => ⟨q, fun _ q => (nomatch q)⟩) rfl rfl (Nat.le_of_ble_eq_true rfl) (Nat.le_of_ble_eq_true rfl) (Nat.le_of_ble_eq_true rfl) (Nat.le_of_ble_eq_true rfl) d_jdk_42_method_66_44 rfl rfl (pureK ?_)
      show W B h 0 0 M (true, []) 47 #[.val (.ref a), .val (.ref b), .val (.ref b)] [(.int (if bs = es then 1 else 0))]
      by_cases q : bs = es
      · rw [if_pos q]
        refine W.ifeq ok (pcY := 54) (pcN := 50) d_jdk_42_method_66_47 rfl (by decide) rfl (fun q => absurd q (by decide)) (fun _ => ?_)
        refine W.iconst ok (pc' := 51) (1 : Int32) d_jdk_42_method_66_50 rfl rfl ?_
        refine W.goto ok (pc' := 55) d_jdk_42_method_66_51 (by decide) rfl ?_
        exact W.retZ ok d_jdk_42_method_66_55 rfl (Nat.le_of_ble_eq_true rfl) (Nat.le_of_ble_eq_true rfl) (fun x (q : x ∈ M) => q) (fun kp => ⟨by rw [if_pos ((hc.inj hd).mp q)], rfl⟩)
      · rw [if_neg q]
        refine W.ifeq ok (pcY := 54) (pcN := 50) d_jdk_42_method_66_47 rfl (by decide) rfl (fun _ => ?_) (fun q => absurd rfl q)
        refine W.iconst ok (pc' := 55) (0 : Int32) d_jdk_42_method_66_54 rfl rfl ?_
        exact W.retZ ok d_jdk_42_method_66_55 rfl (Nat.le_of_ble_eq_true rfl) (Nat.le_of_ble_eq_true rfl) (fun x (q : x ∈ M) => q) (fun kp => ⟨by rw [if_neg (fun e => q ((hc.inj hd).mpr e))], rfl⟩)
    · refine W.iconst ok (pc' := 55) (0 : Int32) d_jdk_42_method_66_54 rfl rfl ?_
      exact W.retZ ok d_jdk_42_method_66_55 rfl (Nat.le_of_ble_eq_true rfl) (Nat.le_of_ble_eq_true rfl) (fun x (q : x ∈ M) => q) (fun kp => ⟨by rw [if_neg (hc.apart hd c1)], rfl⟩)
set_option maxRecDepth 65536 in
set_option maxHeartbeats 4000000 in
theorem k_nbl (l : Launch) (Z : State) (a0 : Array Value) (hE : Ev Z a0) (nN : Nat) (h : Heap) (hn : nN < 1000000) : Con l Z false (⟨"java/lang/StringUTF16", "newBytesLength", "(I)I"⟩ : MethodName) jdk_52_method_3_code 1 (some .int) ({ frames := 0, cells := 0, slots := 0, locals := 0 } : Room) [(.int nN.toInt32)] h [] false (fun M v h' => v = some (.int (nN.toInt32 <<< ((1 : Int32) &&& 31))) ∧ h' = h) := by
  have hw := hE.1
  refine Con.intro (L0 := #[.val (.int nN.toInt32)]) (by decide +kernel) (fun m => ef_of rfl) ?_
  intro B M hwsM ok
  refine W.iloadN ok (pc' := 1) d_jdk_52_method_3_0 rfl rfl ?_
  refine W.ifge ok (pcY := 12) (pcN := 4) d_jdk_52_method_3_1 rfl (by decide) rfl (fun q => absurd q (i32_nn (by omega))) (fun _ => ?_)
  refine W.iloadN ok (pc' := 13) d_jdk_52_method_3_12 rfl rfl ?_
  refine W.ldcI ok (pc' := 15) (w151 hw) d_jdk_52_method_3_13 rfl ?_
  refine W.icmplt ok (pcY := 55) (pcN := 18) d_jdk_52_method_3_15 rfl (by decide) rfl (fun _ => ?_) (fun q => absurd (by rw [Int32.lt_iff_toInt_lt, i32_len (by omega)]; have : (1073741823 : Int32).toInt = 1073741823 := rfl; omega) q)
  refine W.iloadN ok (pc' := 56) d_jdk_52_method_3_55 rfl rfl ?_
  refine W.iconst ok (pc' := 57) (1 : Int32) d_jdk_52_method_3_56 rfl rfl ?_
  refine W.ishl ok (pc' := 58) d_jdk_52_method_3_57 rfl ?_
  exact W.retI ok d_jdk_52_method_3_58 (Nat.le_of_ble_eq_true rfl) (Nat.le_of_ble_eq_true rfl) (fun x (q : x ∈ M) => q) (fun kp => ⟨rfl, rfl⟩)
set_option maxRecDepth 65536 in
set_option maxHeartbeats 4000000 in
theorem k_nbf (l : Launch) (Z : State) (a0 : Array Value) (hE : Ev Z a0) (nN : Nat) (h : Heap) (hn : nN ≤ 201) : Con l Z false (⟨"java/lang/StringUTF16", "newBytesFor", "(I)[B"⟩ : MethodName) jdk_52_method_2_code 1 (some (.array .byte)) ({ frames := 1, cells := 1, slots := 402, locals := 12 } : Room) [(.int nN.toInt32)] h [] true (fun M v h' => ∃ t, v = some (.ref t) ∧ h.size ≤ t ∧ ArI Z h' t .byte (List.replicate (2 * nN) 0)) := by
  have hw := hE.1
  refine Con.intro (L0 := #[.val (.int nN.toInt32)]) (by decide +kernel) (fun m => ef_of rfl) ?_
  intro B M hwsM ok
  refine W.iloadN ok (pc' := 1) d_jdk_52_method_2_0 rfl rfl ?_
  refine W.callS ok (rest := []) (cl' := (true, [])) (pc' := 4) (w148 hw) (w149 hw) (w35 hw) (w150 hw) (by decide) pd_3 rfl (k_nbl l Z a0 hE nN h (by omega)) (fun _ q => (nomatch q)) (fun q => ⟨q, fun _ q => (nomatch q)⟩) rfl rfl (Nat.le_of_ble_eq_true rfl) (Nat.le_of_ble_eq_true rfl) (Nat.le_of_ble_eq_true rfl) (Nat.le_of_ble_eq_true rfl) d_jdk_52_method_2_1 rfl rfl (pureK ?_)
  show W B h 0 0 M (true, []) 4 #[.val (.int nN.toInt32)] [(.int (nN.toInt32 <<< ((1 : Int32) &&& 31)))]
  have e2 : nN.toInt32 <<< ((1 : Int32) &&& 31) = (2 * nN).toInt32 := Int32.toInt_inj.mp (by have := shl1 nN.toInt32; have := i32_len (n := nN) (by omega); have := i32_len (n := 2 * nN) (by omega); have := rng32 (nN.toInt32 <<< ((1 : Int32) &&& 31)); omega)
  rw [e2]
  refine W.newB ok (pc' := 6) (cap := 402) (w37 hw) (i32_nn (by omega)) (by rw [nat_i32 (by omega)]; omega) (by decide) d_jdk_52_method_2_4 rfl (Nat.le_of_ble_eq_true rfl) (Nat.le_of_ble_eq_true rfl) (fun a1 h2 z3 ea4 E5 A6 => ?_)
  replace A6 := A6.cast (cs' := List.replicate (2 * nN) 0) (by rw [nat_i32 (by omega)])
  exact W.retA ok d_jdk_52_method_2_6 rfl rfl (Nat.le_of_ble_eq_true rfl) (Nat.le_of_ble_eq_true rfl) (fun x q => (List.mem_cons.mp q).elim (fun e => e ▸ (List.mem_cons_self ..)) (fun q => (List.mem_cons_of_mem _ q))) (fun kp => ⟨a1, rfl, Nat.le_of_eq ea4, A6⟩)
set_option maxRecDepth 65536 in
set_option maxHeartbeats 4000000 in
theorem k_cmpL (l : Launch) (Z : State) (a0 : Array Value) (hE : Ev Z a0) (b d : Addr) (cs : List Int32) (h : Heap) (Ab : ArI Z h b .char cs) (Ad : ArI Z h d .byte (List.replicate cs.length 0)) (hbd : b ≠ d) (hl : cs.length < 1000000) (hlat : ∀ c ∈ cs, c.toInt ≤ 255) : Con l Z false (⟨"java/lang/StringUTF16", "compress", "([CI[BII)I"⟩ : MethodName) jdk_52_method_21_code 7 (some .int) ({ frames := 0, cells := 0, slots := 0, locals := 0 } : Room) [(.ref b), (.int (0 : Int32)), (.ref d), (.int (0 : Int32)), (.int cs.length.toInt32)] h [d] false (fun M v h' => v = some (.int cs.length.toInt32) ∧ ArI Z h' d .byte (cs.map b8)) := by
  have hw := hE.1
  refine Con.intro (L0 := #[.val (.ref b), .val (.int (0 : Int32)), .val (.ref d), .val (.int (0 : Int32)), .val (.int cs.length.toInt32), .unset, .unset]) (by decide +kernel) (fun m => ef_of rfl) ?_
  intro B M hwsM ok
  refine W.iconst ok (pc' := 1) (0 : Int32) d_jdk_52_method_21_0 rfl rfl ?_
  refine W.istore ok (pc' := 3) (L' := #[.val (.ref b), .val (.int (0 : Int32)), .val (.ref d), .val (.int (0 : Int32)), .val (.int cs.length.toInt32), .val (.int (0 : Int32)), .unset]) d_jdk_52_method_21_1 rfl rfl ?_
  have loop : ∀ (m i : Nat) (hh : Heap) (cl : Cl) (s6 : Slot), i + m = cs.length → One s6 → ArI Z hh b .char cs → ArI Z hh d .byte ((cs.take i).map b8 ++ List.replicate m 0) → W B hh 0 0 M cl 3 #[.val (.ref b), .val (.int i.toInt32), .val (.ref d), .val (.int i.toInt32), .val (.int cs.length.toInt32), .val (.int i.toInt32), s6] [] := by
    intro m
    induction m with
    | zero =>
      intro i hh cl s6 hi h6 Ab Ad
      refine W.iload ok (pc' := 5) d_jdk_52_method_21_3 rfl rfl ?_
      refine W.iload ok (pc' := 7) d_jdk_52_method_21_5 rfl rfl ?_
      refine W.icmpge ok (pcY := 44) (pcN := 10) d_jdk_52_method_21_7 rfl (by decide) rfl (fun q => absurd q (by rw [i32_lt (by omega) (by omega)]; omega)) (fun _ => ?_)
      refine W.iload ok (pc' := 46) d_jdk_52_method_21_44 rfl rfl ?_
      exact W.retI ok d_jdk_52_method_21_46 (Nat.le_of_ble_eq_true rfl) (Nat.le_of_ble_eq_true rfl) (fun x (q : x ∈ M) => q) (fun kp => ⟨rfl, Ad.cast (take_all cs i (by omega))⟩)
    | succ m ih =>
      intro i hh cl s6 hi h6 Ab Ad
      have li : i < cs.length := by omega
      obtain ⟨c, hc⟩ := at_lt li
      have c255 : c.toInt ≤ 255 := hlat c (mem_of_at hc)
      refine W.iload ok (pc' := 5) d_jdk_52_method_21_3 rfl rfl ?_
      refine W.iload ok (pc' := 7) d_jdk_52_method_21_5 rfl rfl ?_
      refine W.icmpge ok (pcY := 44) (pcN := 10) d_jdk_52_method_21_7 rfl (by decide) rfl (fun _ => ?_) (fun q => absurd ((i32_lt (by omega) (by omega)).mpr (by omega)) q)
      refine W.aloadN ok (pc' := 11) d_jdk_52_method_21_10 rfl rfl rfl ?_
      refine W.iloadN ok (pc' := 12) d_jdk_52_method_21_11 rfl rfl ?_
      refine W.caload ok (pc' := 13) Ab c (i32_nn (by omega)) (by rw [nat_i32 (by omega)]; exact hc) d_jdk_52_method_21_12 rfl ?_
      refine W.istoreS ok (pc' := 15) (L' := #[.val (.ref b), .val (.int i.toInt32), .val (.ref d), .val (.int i.toInt32), .val (.int cs.length.toInt32), .val (.int i.toInt32), .val (.int c)]) d_jdk_52_method_21_13 rfl rfl h6 rfl ?_
      refine W.iload ok (pc' := 17) d_jdk_52_method_21_15 rfl rfl ?_
      refine W.sipush ok (pc' := 20) (255 : Int32) d_jdk_52_method_21_17 rfl rfl ?_
      refine W.icmple ok (pcY := 26) (pcN := 23) d_jdk_52_method_21_20 rfl (by decide) rfl (fun q => absurd q (le255 c255)) (fun _ => ?_)
      refine W.aloadN ok (pc' := 27) d_jdk_52_method_21_26 rfl rfl rfl ?_
      refine W.iloadN ok (pc' := 28) d_jdk_52_method_21_27 rfl rfl ?_
      refine W.iload ok (pc' := 30) d_jdk_52_method_21_28 rfl rfl ?_
      refine W.i2b ok (pc' := 31) d_jdk_52_method_21_30 rfl ?_
      refine W.bastore ok (pc' := 32) (cl' := (false, cl.2)) Ad (i32_nn (by omega)) (by rw [nat_i32 (by omega)]; simp; omega) (hwsM _ (List.mem_of_getElem? (i := 0) rfl)) (Or.inl (List.mem_of_getElem? (i := 0) rfl)) (fun q => by cases q) rfl d_jdk_52_method_21_31 rfl (fun h1 Wr2 A3 => ?_)
      refine W.iinc ok (pc' := 35) (L' := #[.val (.ref b), .val (.int (i.toInt32 + (1 : Int32))), .val (.ref d), .val (.int i.toInt32), .val (.int cs.length.toInt32), .val (.int i.toInt32), .val (.int c)]) (1 : Int32) d_jdk_52_method_21_32 rfl rfl rfl rfl ?_
      refine W.iinc ok (pc' := 38) (L' := #[.val (.ref b), .val (.int (i.toInt32 + (1 : Int32))), .val (.ref d), .val (.int (i.toInt32 + (1 : Int32))), .val (.int cs.length.toInt32), .val (.int i.toInt32), .val (.int c)]) (1 : Int32) d_jdk_52_method_21_35 rfl rfl rfl rfl ?_
      refine W.iinc ok (pc' := 41) (L' := #[.val (.ref b), .val (.int (i.toInt32 + (1 : Int32))), .val (.ref d), .val (.int (i.toInt32 + (1 : Int32))), .val (.int cs.length.toInt32), .val (.int (i.toInt32 + (1 : Int32))), .val (.int c)]) (1 : Int32) d_jdk_52_method_21_38 rfl rfl rfl rfl ?_
      refine W.goto ok (pc' := 3) d_jdk_52_method_21_41 (by decide) rfl ?_
      rw [i32_succ]
      exact ih (i + 1) _ _ _ (by omega) (One.val rfl) (Ab.other Wr2 hbd) (A3.cast (by rw [nat_i32 (by omega), b8_b8, fill_step hc]))
  exact loop cs.length 0 h _ .unset (by omega) One.u Ab (Ad.cast (by simp))
set_option maxRecDepth 65536 in
set_option maxHeartbeats 4000000 in
theorem k_cmpW (l : Launch) (Z : State) (a0 : Array Value) (hE : Ev Z a0) (b d : Addr) (cs : List Int32) (q : Nat) (cq : Int32) (h : Heap) (Ab : ArI Z h b .char cs) (Ad : ArI Z h d .byte (List.replicate cs.length 0)) (hbd : b ≠ d) (hl : cs.length < 1000000) (hq : cs[q]? = some cq) (hcq : 255 < cq.toInt) (hpre : ∀ (j : Nat) (c : Int32), j < q → cs[j]? = some c → c.toInt ≤ 255) : Con l Z false (⟨"java/lang/StringUTF16", "compress", "([CI[BII)I"⟩ : MethodName) jdk_52_method_21_code 7 (some .int) ({ frames := 0, cells := 0, slots := 0, locals := 0 } : Room) [(.ref b), (.int (0 : Int32)), (.ref d), (.int (0 : Int32)), (.int cs.length.toInt32)] h [d] false (fun M v h' => v = some (.int q.toInt32)) := by
  have hw := hE.1
  refine Con.intro (L0 := #[.val (.ref b), .val (.int (0 : Int32)), .val (.ref d), .val (.int (0 : Int32)), .val (.int cs.length.toInt32), .unset, .unset]) (by decide +kernel) (fun m => ef_of rfl) ?_
  intro B M hwsM ok
  refine W.iconst ok (pc' := 1) (0 : Int32) d_jdk_52_method_21_0 rfl rfl ?_
  refine W.istore ok (pc' := 3) (L' := #[.val (.ref b), .val (.int (0 : Int32)), .val (.ref d), .val (.int (0 : Int32)), .val (.int cs.length.toInt32), .val (.int (0 : Int32)), .unset]) d_jdk_52_method_21_1 rfl rfl ?_
  have loop : ∀ (m i : Nat) (hh : Heap) (cl : Cl) (s6 : Slot), i + m = q → One s6 → ArI Z hh b .char cs → ArI Z hh d .byte ((cs.take i).map b8 ++ List.replicate (m + (cs.length - q)) 0) → W B hh 0 0 M cl 3 #[.val (.ref b), .val (.int i.toInt32), .val (.ref d), .val (.int i.toInt32), .val (.int cs.length.toInt32), .val (.int i.toInt32), s6] [] := by
    intro m
    induction m with
    | zero =>
      intro i hh cl s6 hi h6 Ab Ad
      have eq : i = q := by omega
      subst eq
      have lq := lt_of_at hq
      refine W.iload ok (pc' := 5) d_jdk_52_method_21_3 rfl rfl ?_
      refine W.iload ok (pc' := 7) d_jdk_52_method_21_5 rfl rfl ?_
      refine W.icmpge ok (pcY := 44) (pcN := 10) d_jdk_52_method_21_7 rfl (by decide) rfl (fun _ => ?_) (fun q => absurd ((i32_lt (by omega) (by omega)).mpr (by omega)) q)
      refine W.aloadN ok (pc' := 11) d_jdk_52_method_21_10 rfl rfl rfl ?_
      refine W.iloadN ok (pc' := 12) d_jdk_52_method_21_11 rfl rfl ?_
      refine W.caload ok (pc' := 13) Ab cq (i32_nn (by omega)) (by rw [nat_i32 (by omega)]; exact hq) d_jdk_52_method_21_12 rfl ?_
      refine W.istoreS ok (pc' := 15) (L' := #[.val (.ref b), .val (.int i.toInt32), .val (.ref d), .val (.int i.toInt32), .val (.int cs.length.toInt32), .val (.int i.toInt32), .val (.int cq)]) d_jdk_52_method_21_13 rfl rfl h6 rfl ?_
      refine W.iload ok (pc' := 17) d_jdk_52_method_21_15 rfl rfl ?_
      refine W.sipush ok (pc' := 20) (255 : Int32) d_jdk_52_method_21_17 rfl rfl ?_
      refine W.icmple ok (pcY := 26) (pcN := 23) d_jdk_52_method_21_20 rfl (by decide) rfl (fun _ => ?_) (fun q => absurd (gt255 hcq) q)
      refine W.iload ok (pc' := 25) d_jdk_52_method_21_23 rfl rfl ?_
      exact W.retI ok d_jdk_52_method_21_25 (Nat.le_of_ble_eq_true rfl) (Nat.le_of_ble_eq_true rfl) (fun x (q : x ∈ M) => q) (fun kp => rfl)
    | succ m ih =>
      intro i hh cl s6 hi h6 Ab Ad
      have lq := lt_of_at hq
      have li : i < cs.length := by omega
      obtain ⟨c, hc⟩ := at_lt li
      have c255 : c.toInt ≤ 255 := hpre i c (by omega) hc
      refine W.iload ok (pc' := 5) d_jdk_52_method_21_3 rfl rfl ?_
      refine W.iload ok (pc' := 7) d_jdk_52_method_21_5 rfl rfl ?_
      refine W.icmpge ok (pcY := 44) (pcN := 10) d_jdk_52_method_21_7 rfl (by decide) rfl (fun _ => ?_) (fun q => absurd ((i32_lt (by omega) (by omega)).mpr (by omega)) q)
      refine W.aloadN ok (pc' := 11) d_jdk_52_method_21_10 rfl rfl rfl ?_
      refine W.iloadN ok (pc' := 12) d_jdk_52_method_21_11 rfl rfl ?_
      refine W.caload ok (pc' := 13) Ab c (i32_nn (by omega)) (by rw [nat_i32 (by omega)]; exact hc) d_jdk_52_method_21_12 rfl ?_
      refine W.istoreS ok (pc' := 15) (L' := #[.val (.ref b), .val (.int i.toInt32), .val (.ref d), .val (.int i.toInt32), .val (.int cs.length.toInt32), .val (.int i.toInt32), .val (.int c)]) d_jdk_52_method_21_13 rfl rfl h6 rfl ?_
      refine W.iload ok (pc' := 17) d_jdk_52_method_21_15 rfl rfl ?_
      refine W.sipush ok (pc' := 20) (255 : Int32) d_jdk_52_method_21_17 rfl rfl ?_
      refine W.icmple ok (pcY := 26) (pcN := 23) d_jdk_52_method_21_20 rfl (by decide) rfl (fun q => absurd q (le255 c255)) (fun _ => ?_)
      refine W.aloadN ok (pc' := 27) d_jdk_52_method_21_26 rfl rfl rfl ?_
      refine W.iloadN ok (pc' := 28) d_jdk_52_method_21_27 rfl rfl ?_
      refine W.iload ok (pc' := 30) d_jdk_52_method_21_28 rfl rfl ?_
      refine W.i2b ok (pc' := 31) d_jdk_52_method_21_30 rfl ?_
      refine W.bastore ok (pc' := 32) (cl' := (false, cl.2)) Ad (i32_nn (by omega)) (by rw [nat_i32 (by omega)]; simp; omega) (hwsM _ (List.mem_of_getElem? (i := 0) rfl)) (Or.inl (List.mem_of_getElem? (i := 0) rfl)) (fun q => by cases q) rfl d_jdk_52_method_21_31 rfl (fun h1 Wr2 A3 => ?_)
      refine W.iinc ok (pc' := 35) (L' := #[.val (.ref b), .val (.int (i.toInt32 + (1 : Int32))), .val (.ref d), .val (.int i.toInt32), .val (.int cs.length.toInt32), .val (.int i.toInt32), .val (.int c)]) (1 : Int32) d_jdk_52_method_21_32 rfl rfl rfl rfl ?_
      refine W.iinc ok (pc' := 38) (L' := #[.val (.ref b), .val (.int (i.toInt32 + (1 : Int32))), .val (.ref d), .val (.int (i.toInt32 + (1 : Int32))), .val (.int cs.length.toInt32), .val (.int i.toInt32), .val (.int c)]) (1 : Int32) d_jdk_52_method_21_35 rfl rfl rfl rfl ?_
      refine W.iinc ok (pc' := 41) (L' := #[.val (.ref b), .val (.int (i.toInt32 + (1 : Int32))), .val (.ref d), .val (.int (i.toInt32 + (1 : Int32))), .val (.int cs.length.toInt32), .val (.int (i.toInt32 + (1 : Int32))), .val (.int c)]) (1 : Int32) d_jdk_52_method_21_38 rfl rfl rfl rfl ?_
      refine W.goto ok (pc' := 3) d_jdk_52_method_21_41 (by decide) rfl ?_
      rw [i32_succ]
      exact ih (i + 1) _ _ _ (by omega) (One.val rfl) (Ab.other Wr2 hbd) (A3.cast (by rw [nat_i32 (by omega), b8_b8, show m + 1 + (cs.length - q) = (m + (cs.length - q)) + 1 by omega, fill_step hc]))
  have lq := lt_of_at hq
  exact loop q 0 h _ .unset (by omega) One.u Ab (Ad.cast (by simp; omega))
set_option maxRecDepth 65536 in
set_option maxHeartbeats 4000000 in
theorem k_toB3 (l : Launch) (Z : State) (a0 : Array Value) (hE : Ev Z a0) (b : Addr) (cs : List Int32) (h : Heap) (Ab : ArI Z h b .char cs) (hcap : cs.length ≤ 201) : Con l Z false (⟨"java/lang/StringUTF16", "toBytes", "([CII)[B"⟩ : MethodName) jdk_52_method_14_code 5 (some (.array .byte)) ({ frames := 2, cells := 1, slots := 402, locals := 24 } : Room) [(.ref b), (.int (0 : Int32)), (.int cs.length.toInt32)] h [] false (fun M v h' => ∃ t, v = some (.ref t) ∧ h.size ≤ t ∧ ArI Z h' t .byte (wide cs)) := by
  have hw := hE.1
  refine Con.intro (L0 := #[.val (.ref b), .val (.int (0 : Int32)), .val (.int cs.length.toInt32), .unset, .unset]) (by decide +kernel) (fun m => ef_of rfl) ?_
  intro B M hwsM ok
  refine W.old ok fun _ le0 => ?_
  refine W.iloadN ok (pc' := 1) d_jdk_52_method_14_0 rfl rfl ?_
  refine W.callS ok (rest := []) (cl' := (true, [])) (pc' := 4) (w145 hw) (w146 hw) (w35 hw) (w147 hw) (by decide) pd_4 rfl (k_nbf l Z a0 hE cs.length h (by omega)) (fun _ q => (nomatch q)) (fun q => ⟨q, fun _ q => (nomatch q)⟩) rfl rfl (Nat.le_of_ble_eq_true rfl) (Nat.le_of_ble_eq_true rfl) (Nat.le_of_ble_eq_true rfl) (Nat.le_of_ble_eq_true rfl) d_jdk_52_method_14_1 rfl rfl (oldK fun v h1 hq K2 => ?_)
  obtain ⟨t, rfl, ht, At⟩ := hq
  show W B h1 1 402 (t :: M) (true, []) 4 #[.val (.ref b), .val (.int (0 : Int32)), .val (.int cs.length.toInt32), .unset, .unset] [(.ref t)]
  refine W.astoreN ok (pc' := 5) (L' := #[.val (.ref b), .val (.int (0 : Int32)), .val (.int cs.length.toInt32), .val (.ref t), .unset]) d_jdk_52_method_14_4 rfl rfl rfl ?_
  refine W.iconst ok (pc' := 6) (0 : Int32) d_jdk_52_method_14_5 rfl rfl ?_
  refine W.istore ok (pc' := 8) (L' := #[.val (.ref b), .val (.int (0 : Int32)), .val (.int cs.length.toInt32), .val (.ref t), .val (.int (0 : Int32))]) d_jdk_52_method_14_6 rfl rfl ?_
  have ltb := Ab.gt
  have hbt : b ≠ t := ane (by omega)
  have loop : ∀ (m i : Nat) (hh : Heap) (cl : Cl), i + m = cs.length → ArI Z hh b .char cs → ArI Z hh t .byte (wide (cs.take i) ++ List.replicate (2 * m) 0) → W B hh 1 402 (t :: M) cl 8 #[.val (.ref b), .val (.int i.toInt32), .val (.int cs.length.toInt32), .val (.ref t), .val (.int i.toInt32)] [] := by
    intro m
    induction m with
    | zero =>
      intro i hh cl hi Ab At
      refine W.iload ok (pc' := 10) d_jdk_52_method_14_8 rfl rfl ?_
      refine W.iloadN ok (pc' := 11) d_jdk_52_method_14_10 rfl rfl ?_
      refine W.icmpge ok (pcY := 32) (pcN := 14) d_jdk_52_method_14_11 rfl (by decide) rfl (fun q => absurd q (by rw [i32_lt (by omega) (by omega)]; omega)) (fun _ => ?_)
      refine W.aloadN ok (pc' := 33) d_jdk_52_method_14_32 rfl rfl rfl ?_
      exact W.retA ok d_jdk_52_method_14_33 rfl rfl (Nat.le_of_ble_eq_true rfl) (Nat.le_of_ble_eq_true rfl) (fun x (q : x ∈ M) => (List.mem_cons_of_mem _ q)) (fun kp => ⟨t, rfl, ht, At.cast (by rw [show i = cs.length by omega]; simp)⟩)
    | succ m ih =>
      intro i hh cl hi Ab At
      have li : i < cs.length := by omega
      obtain ⟨c, hc⟩ := at_lt li
      refine W.iload ok (pc' := 10) d_jdk_52_method_14_8 rfl rfl ?_
      refine W.iloadN ok (pc' := 11) d_jdk_52_method_14_10 rfl rfl ?_
      refine W.icmpge ok (pcY := 32) (pcN := 14) d_jdk_52_method_14_11 rfl (by decide) rfl (fun _ => ?_) (fun q => absurd ((i32_lt (by omega) (by omega)).mpr (by omega)) q)
      refine W.aloadN ok (pc' := 15) d_jdk_52_method_14_14 rfl rfl rfl ?_
      refine W.iload ok (pc' := 17) d_jdk_52_method_14_15 rfl rfl ?_
      refine W.aloadN ok (pc' := 18) d_jdk_52_method_14_17 rfl rfl rfl ?_
      refine W.iloadN ok (pc' := 19) d_jdk_52_method_14_18 rfl rfl ?_
      refine W.caload ok (pc' := 20) Ab c (i32_nn (by omega)) (by rw [nat_i32 (by omega)]; exact hc) d_jdk_52_method_14_19 rfl ?_
      refine W.callS ok (rest := []) (cl' := cl) (pc' := 23) (w152 hw) (w153 hw) (w35 hw) (w154 hw) (by decide) pd_5 rfl (k_putChar l Z a0 hE t (wide (cs.take i) ++ List.replicate (2 * (m + 1)) 0) i c hh At (by simp [wide_length]; omega) (by simp [wide_length]; omega)) (fun w q => by simp only [List.mem_cons, List.not_mem_nil, or_false] at q; subst q; exact ⟨(List.mem_cons_self ..), (Or.inr ht)⟩) (fun q => ⟨q, fun w q => by simp only [List.mem_cons, List.not_mem_nil, or_false] at q; subst q; exact ht⟩) rfl rfl (Nat.le_of_ble_eq_true rfl) (Nat.le_of_ble_eq_true rfl) (Nat.le_of_ble_eq_true rfl) (Nat.le_of_ble_eq_true rfl) d_jdk_52_method_14_20 rfl rfl (oldK fun v h3 hq K4 => ?_)
      obtain ⟨rfl, A2⟩ := hq
      show W B h3 1 402 (t :: M) cl 23 #[.val (.ref b), .val (.int i.toInt32), .val (.int cs.length.toInt32), .val (.ref t), .val (.int i.toInt32)] []
      refine W.iinc ok (pc' := 26) (L' := #[.val (.ref b), .val (.int (i.toInt32 + (1 : Int32))), .val (.int cs.length.toInt32), .val (.ref t), .val (.int i.toInt32)]) (1 : Int32) d_jdk_52_method_14_23 rfl rfl rfl rfl ?_
      refine W.iinc ok (pc' := 29) (L' := #[.val (.ref b), .val (.int (i.toInt32 + (1 : Int32))), .val (.int cs.length.toInt32), .val (.ref t), .val (.int (i.toInt32 + (1 : Int32)))]) (1 : Int32) d_jdk_52_method_14_26 rfl rfl rfl rfl ?_
      refine W.goto ok (pc' := 8) d_jdk_52_method_14_29 (by decide) rfl ?_
      rw [i32_succ]
      exact ih (i + 1) _ _ (by omega) (Ab.keep K4 (by simp; exact hbt)) (A2.cast (wfill_step hc))
  exact loop cs.length 0 _ _ (by omega) (Ab.ext (ext_keep K2)) (At.cast (by simp [Wk.wide]))
set_option maxRecDepth 65536 in
set_option maxHeartbeats 4000000 in
theorem k_cmp3L (l : Launch) (Z : State) (a0 : Array Value) (hE : Ev Z a0) (b : Addr) (cs : List Int32) (h : Heap) (Ab : ArI Z h b .char cs) (hcap : cs.length ≤ 201) (hlat : ∀ c ∈ cs, c.toInt ≤ 255) : Con l Z false (⟨"java/lang/StringUTF16", "compress", "([CII)[B"⟩ : MethodName) jdk_52_method_16_code 6 (some (.array .byte)) ({ frames := 1, cells := 1, slots := 201, locals := 18 } : Room) [(.ref b), (.int (0 : Int32)), (.int cs.length.toInt32)] h [] false (fun M v h' => ∃ t, v = some (.ref t) ∧ h.size ≤ t ∧ ArI Z h' t .byte (cs.map b8)) := by
  have hw := hE.1
  refine Con.intro (L0 := #[.val (.ref b), .val (.int (0 : Int32)), .val (.int cs.length.toInt32), .unset, .unset, .unset]) (by decide +kernel) (fun m => ef_of rfl) ?_
  intro B M hwsM ok
  have ltb := Ab.gt
  refine W.iloadN ok (pc' := 1) d_jdk_52_method_16_0 rfl rfl ?_
  refine W.newB ok (pc' := 3) (cap := 201) (w37 hw) (i32_nn (by omega)) (by rw [nat_i32 (by omega)]; omega) (by decide) d_jdk_52_method_16_1 rfl (Nat.le_of_ble_eq_true rfl) (Nat.le_of_ble_eq_true rfl) (fun a1 h2 z3 ea4 E5 A6 => ?_)
  replace A6 := A6.cast (cs' := List.replicate cs.length 0) (by rw [nat_i32 (by omega)])
  refine W.astoreN ok (pc' := 4) (L' := #[.val (.ref b), .val (.int (0 : Int32)), .val (.int cs.length.toInt32), .val (.ref a1), .unset, .unset]) d_jdk_52_method_16_3 rfl rfl rfl ?_
  refine W.aloadN ok (pc' := 5) d_jdk_52_method_16_4 rfl rfl rfl ?_
  refine W.iloadN ok (pc' := 6) d_jdk_52_method_16_5 rfl rfl ?_
  refine W.aloadN ok (pc' := 7) d_jdk_52_method_16_6 rfl rfl rfl ?_
  refine W.iconst ok (pc' := 8) (0 : Int32) d_jdk_52_method_16_7 rfl rfl ?_
  refine W.iloadN ok (pc' := 9) d_jdk_52_method_16_8 rfl rfl ?_
  refine W.callS ok (rest := []) (cl' := (true, [])) (pc' := 12) (w38 hw) (w39 hw) (w35 hw) (w40 hw) (by decide) pd_6 rfl (k_cmpL l Z a0 hE b a1 cs h2 (Ab.ext E5) A6 (ane (by omega)) (by omega) hlat) (fun w q => by simp only [List.mem_cons, List.not_mem_nil, or_false] at q; subst q; exact ⟨(List.mem_cons_self ..), (Or.inr z3)⟩) (fun q => ⟨q, fun w q => by simp only [List.mem_cons, List.not_mem_nil, or_false] at q; subst q; exact z3⟩) rfl rfl (Nat.le_of_ble_eq_true rfl) (Nat.le_of_ble_eq_true rfl) (Nat.le_of_ble_eq_true rfl) (Nat.le_of_ble_eq_true rfl) d_jdk_52_method_16_9 rfl rfl (oldK fun v h7 hq K8 => ?_)
  obtain ⟨rfl, A2⟩ := hq
  show W B h7 1 201 (a1 :: M) (true, []) 12 #[.val (.ref b), .val (.int (0 : Int32)), .val (.int cs.length.toInt32), .val (.ref a1), .unset, .unset] [(.int cs.length.toInt32)]
  refine W.istore ok (pc' := 14) (L' := #[.val (.ref b), .val (.int (0 : Int32)), .val (.int cs.length.toInt32), .val (.ref a1), .val (.int cs.length.toInt32), .unset]) d_jdk_52_method_16_12 rfl rfl ?_
  refine W.iload ok (pc' := 16) d_jdk_52_method_16_14 rfl rfl ?_
  refine W.iloadN ok (pc' := 17) d_jdk_52_method_16_16 rfl rfl ?_
  refine W.icmpeq ok (pcY := 57) (pcN := 20) d_jdk_52_method_16_17 rfl (by decide) rfl (fun _ => ?_) (fun q => absurd rfl q)
  refine W.aloadN ok (pc' := 58) d_jdk_52_method_16_57 rfl rfl rfl ?_
  exact W.retA ok d_jdk_52_method_16_58 rfl rfl (Nat.le_of_ble_eq_true rfl) (Nat.le_of_ble_eq_true rfl) (fun x (q : x ∈ M) => (List.mem_cons_of_mem _ q)) (fun kp => ⟨a1, rfl, Nat.le_of_eq ea4, A2⟩)
set_option maxRecDepth 65536 in
set_option maxHeartbeats 4000000 in
theorem k_cmp3W (l : Launch) (Z : State) (a0 : Array Value) (hE : Ev Z a0) (b : Addr) (cs : List Int32) (q : Nat) (cq : Int32) (h : Heap) (Ab : ArI Z h b .char cs) (hcap : cs.length ≤ 201) (hq : cs[q]? = some cq) (hcq : 255 < cq.toInt) (hpre : ∀ (j : Nat) (c : Int32), j < q → cs[j]? = some c → c.toInt ≤ 255) : Con l Z false (⟨"java/lang/StringUTF16", "compress", "([CII)[B"⟩ : MethodName) jdk_52_method_16_code 6 (some (.array .byte)) ({ frames := 3, cells := 2, slots := 603, locals := 40 } : Room) [(.ref b), (.int (0 : Int32)), (.int cs.length.toInt32)] h [] false (fun M v h' => ∃ t, v = some (.ref t) ∧ h.size ≤ t ∧ ArI Z h' t .byte (wide cs)) := by
  have hw := hE.1
  refine Con.intro (L0 := #[.val (.ref b), .val (.int (0 : Int32)), .val (.int cs.length.toInt32), .unset, .unset, .unset]) (by decide +kernel) (fun m => ef_of rfl) ?_
  intro B M hwsM ok
  have ltb := Ab.gt
  refine W.iloadN ok (pc' := 1) d_jdk_52_method_16_0 rfl rfl ?_
  refine W.newB ok (pc' := 3) (cap := 201) (w37 hw) (i32_nn (by omega)) (by rw [nat_i32 (by omega)]; omega) (by decide) d_jdk_52_method_16_1 rfl (Nat.le_of_ble_eq_true rfl) (Nat.le_of_ble_eq_true rfl) (fun a1 h2 z3 ea4 E5 A6 => ?_)
  replace A6 := A6.cast (cs' := List.replicate cs.length 0) (by rw [nat_i32 (by omega)])
  refine W.astoreN ok (pc' := 4) (L' := #[.val (.ref b), .val (.int (0 : Int32)), .val (.int cs.length.toInt32), .val (.ref a1), .unset, .unset]) d_jdk_52_method_16_3 rfl rfl rfl ?_
  refine W.aloadN ok (pc' := 5) d_jdk_52_method_16_4 rfl rfl rfl ?_
  refine W.iloadN ok (pc' := 6) d_jdk_52_method_16_5 rfl rfl ?_
  refine W.aloadN ok (pc' := 7) d_jdk_52_method_16_6 rfl rfl rfl ?_
  refine W.iconst ok (pc' := 8) (0 : Int32) d_jdk_52_method_16_7 rfl rfl ?_
  refine W.iloadN ok (pc' := 9) d_jdk_52_method_16_8 rfl rfl ?_
  have lq := lt_of_at hq
  refine W.callS ok (rest := []) (cl' := (true, [])) (pc' := 12) (w38 hw) (w39 hw) (w35 hw) (w40 hw) (by decide) pd_6 rfl (k_cmpW l Z a0 hE b a1 cs q cq h2 (Ab.ext E5) A6 (ane (by omega)) (by omega) hq hcq hpre) (fun w q => by simp only [List.mem_cons, List.not_mem_nil, or_false] at q; subst q; exact ⟨(List.mem_cons_self ..), (Or.inr z3)⟩) (fun q => ⟨q, fun w q => by simp only [List.mem_cons, List.not_mem_nil, or_false] at q; subst q; exact z3⟩) rfl rfl (Nat.le_of_ble_eq_true rfl) (Nat.le_of_ble_eq_true rfl) (Nat.le_of_ble_eq_true rfl) (Nat.le_of_ble_eq_true rfl) d_jdk_52_method_16_9 rfl rfl (oldK fun v h7 hq K8 => ?_)
  obtain rfl := hq
  show W B h7 1 201 (a1 :: M) (true, []) 12 #[.val (.ref b), .val (.int (0 : Int32)), .val (.int cs.length.toInt32), .val (.ref a1), .unset, .unset] [(.int q.toInt32)]
  refine W.istore ok (pc' := 14) (L' := #[.val (.ref b), .val (.int (0 : Int32)), .val (.int cs.length.toInt32), .val (.ref a1), .val (.int q.toInt32), .unset]) d_jdk_52_method_16_12 rfl rfl ?_
  refine W.iload ok (pc' := 16) d_jdk_52_method_16_14 rfl rfl ?_
  refine W.iloadN ok (pc' := 17) d_jdk_52_method_16_16 rfl rfl ?_
  refine W.icmpeq ok (pcY := 57) (pcN := 20) d_jdk_52_method_16_17 rfl (by decide) rfl (fun q => absurd q (by rw [i32_inj (by omega) (by omega)]; omega)) (fun _ => ?_)
  refine W.aloadN ok (pc' := 21) d_jdk_52_method_16_20 rfl rfl rfl ?_
  refine W.iloadN ok (pc' := 22) d_jdk_52_method_16_21 rfl rfl ?_
  refine W.iloadN ok (pc' := 23) d_jdk_52_method_16_22 rfl rfl ?_
  have le1 := E5.1
  have le2 := K8.1
  refine W.callS ok (rest := []) (cl' := (true, [])) (pc' := 26) (w142 hw) (w143 hw) (w35 hw) (w144 hw) (by decide) pd_7 rfl (k_toB3 l Z a0 hE b cs h7 ((Ab.ext E5).keep K8 (nin1 (by omega))) hcap) (fun _ q => (nomatch q)) (fun q => ⟨q, fun _ q => (nomatch q)⟩) rfl rfl (Nat.le_of_ble_eq_true rfl) (Nat.le_of_ble_eq_true rfl) (Nat.le_of_ble_eq_true rfl) (Nat.le_of_ble_eq_true rfl) d_jdk_52_method_16_23 rfl rfl (oldK fun v h9 hq K10 => ?_)
  obtain ⟨t, rfl, ht, At⟩ := hq
  show W B h9 2 603 (a1 :: M) (true, []) 26 #[.val (.ref b), .val (.int (0 : Int32)), .val (.int cs.length.toInt32), .val (.ref a1), .val (.int q.toInt32), .unset] [(.ref t)]
  refine W.astore ok (pc' := 28) (L' := #[.val (.ref b), .val (.int (0 : Int32)), .val (.int cs.length.toInt32), .val (.ref a1), .val (.int q.toInt32), .val (.ref t)]) d_jdk_52_method_16_26 rfl rfl rfl ?_
  refine W.aload ok (pc' := 30) d_jdk_52_method_16_28 rfl rfl rfl ?_
  refine W.iload ok (pc' := 32) d_jdk_52_method_16_30 rfl rfl ?_
  refine W.callS ok (rest := []) (cl' := (true, [])) (pc' := 35) (w158 hw) (w159 hw) (w35 hw) (w160 hw) (by decide) pd_8 rfl (k_getChar l Z a0 hE t (wide cs) q (b8 cq) (b8 (cq >>> ((8 : Int32) &&& 31))) h9 At (wide_at cs q cq hq).1 (wide_at cs q cq hq).2 (by rw [wide_length]; omega)) (fun _ q => (nomatch q)) (fun q => ⟨q, fun _ q => (nomatch q)⟩) rfl rfl (Nat.le_of_ble_eq_true rfl) (Nat.le_of_ble_eq_true rfl) (Nat.le_of_ble_eq_true rfl) (Nat.le_of_ble_eq_true rfl) d_jdk_52_method_16_32 rfl rfl (pureK ?_)
  show W B h9 2 603 (a1 :: M) (true, []) 35 #[.val (.ref b), .val (.int (0 : Int32)), .val (.int cs.length.toInt32), .val (.ref a1), .val (.int q.toInt32), .val (.ref t)] [(.int (c16 (((b8 cq &&& 255) <<< ((0 : Int32) &&& 31)) ||| ((b8 (cq >>> ((8 : Int32) &&& 31)) &&& 255) <<< ((8 : Int32) &&& 31)))))]
  rw [pair (fits_char_rng (Ab.fit cq (mem_of_at hq)))]
  refine W.sipush ok (pc' := 38) (255 : Int32) d_jdk_52_method_16_35 rfl rfl ?_
  refine W.icmpgt ok (pcY := 54) (pcN := 41) d_jdk_52_method_16_38 rfl (by decide) rfl (fun _ => ?_) (fun q => absurd (gt255 hcq) q)
  refine W.aload ok (pc' := 56) d_jdk_52_method_16_54 rfl rfl rfl ?_
  exact W.retA ok d_jdk_52_method_16_56 rfl rfl (Nat.le_of_ble_eq_true rfl) (Nat.le_of_ble_eq_true rfl) (fun x (q : x ∈ M) => (List.mem_cons_of_mem _ q)) (fun kp => ⟨t, rfl, by omega, At⟩)
set_option maxRecDepth 65536 in
set_option maxHeartbeats 4000000 in
theorem k_cLen (l : Launch) (Z : State) (a0 : Array Value) (hE : Ev Z a0) (t : Addr) (bs : List Int32) (n : Int32) (h : Heap) (A : ArI Z h t .byte bs) : Con l Z false (⟨"java/lang/StringUTF16", "coderFromArrayLen", "([BI)B"⟩ : MethodName) jdk_52_method_15_code 2 (some .byte) ({ frames := 0, cells := 0, slots := 0, locals := 0 } : Room) [(.ref t), (.int n)] h [] false (fun M v h' => v = some (.int (b8 (XT.ushr (n - bs.length.toInt32) (31 : Int32)))) ∧ h' = h) := by
  have hw := hE.1
  refine Con.intro (L0 := #[.val (.ref t), .val (.int n)]) (by decide +kernel) (fun m => ef_of rfl) ?_
  intro B M hwsM ok
  refine W.iloadN ok (pc' := 1) d_jdk_52_method_15_0 rfl rfl ?_
  refine W.aloadN ok (pc' := 2) d_jdk_52_method_15_1 rfl rfl rfl ?_
  refine W.lenI ok (pc' := 3) A bs.length.toInt32 rfl d_jdk_52_method_15_2 rfl ?_
  refine W.isub ok (pc' := 4) d_jdk_52_method_15_3 rfl ?_
  refine W.bipush ok (pc' := 6) (31 : Int32) d_jdk_52_method_15_4 rfl rfl ?_
  refine W.iushr ok (pc' := 7) d_jdk_52_method_15_6 rfl ?_
  refine W.i2b ok (pc' := 8) d_jdk_52_method_15_7 rfl ?_
  exact W.retB ok d_jdk_52_method_15_8 (b8_b8 _) (Nat.le_of_ble_eq_true rfl) (Nat.le_of_ble_eq_true rfl) (fun x (q : x ∈ M) => q) (fun kp => ⟨rfl, rfl⟩)
set_option maxRecDepth 65536 in
set_option maxHeartbeats 4000000 in
theorem k_init4 (l : Launch) (Z : State) (a0 : Array Value) (hE : Ev Z a0) (a b : Addr) (cs : List Int32) (h : Heap) (X : Exa Z h a ST) (F1 : Fld Z h a ST "value" "[B" .null) (F2 : Fld Z h a ST "coder" "B" (.int 0)) (Ab : ArI Z h b .char cs) (hcap : cs.length ≤ 201) (hne : cs ≠ []) : Con l Z false (⟨"java/lang/String", "<init>", "([CIILjava/lang/Void;)V"⟩ : MethodName) jdk_42_method_149_code 6 none ({ frames := 4, cells := 2, slots := 603, locals := 57 } : Room) [(.ref a), (.ref b), (.int (0 : Int32)), (.int cs.length.toInt32), .null] h [a] false (fun M v h' => v = none ∧ ∃ t cd bs, t ∉ M ∧ Fld Z h' a ST "value" "[B" (.ref t) ∧ Fld Z h' a ST "coder" "B" (.int cd) ∧ ArI Z h' t .byte bs ∧ Cod cd cs bs) := by
  have hw := hE.1
  refine Con.intro (L0 := #[.val (.ref a), .val (.ref b), .val (.int (0 : Int32)), .val (.int cs.length.toInt32), .val .null, .unset]) (by decide +kernel) (fun m => ef_of rfl) ?_
  intro B M hwsM ok
  refine W.lt fun hM => ?_
  have lta := gtE X
  have ltb := Ab.gt
  have haM : a ∈ M := hwsM _ (List.mem_cons_self ..)
  have ne1 := Exa.neArI X (w20 hw) Ab
  have rc : ∀ c ∈ cs, 0 ≤ c.toInt ∧ c.toInt ≤ 65535 := fun c hc => fits_char_rng (Ab.fit c hc)
  refine W.aloadN ok (pc' := 1) d_jdk_42_method_149_0 rfl rfl rfl ?_
  refine W.initO ok (pc' := 4) (w29 hw) (w30 hw) (w31 hw) rfl (Nat.le_of_ble_eq_true rfl) (Nat.le_of_ble_eq_true rfl) d_jdk_42_method_149_1 rfl ?_
  refine W.iloadN ok (pc' := 5) d_jdk_42_method_149_4 rfl rfl ?_
  refine W.ifne ok (pcY := 27) (pcN := 8) d_jdk_42_method_149_5 rfl (by decide) rfl (fun q => absurd q (by rw [show (0 : Int32) = (0 : Nat).toInt32 from rfl, i32_inj (by omega) (by omega)]; exact fun e => hne (List.length_eq_zero_iff.mp e))) (fun _ => ?_)
  have hpos : 0 < cs.length := List.length_pos_iff.mpr hne
  rcases three cs with hlat | ⟨q, cq, hq, hcq, hpre⟩
  · obtain ⟨g, hg, Fg⟩ := hE.compact
    refine W.getS ok (pc' := 30) (w32 hw) Via.refl Fg d_jdk_42_method_149_27 rfl ?_
    refine W.ifeq ok (pcY := 58) (pcN := 33) d_jdk_42_method_149_30 rfl (by decide) rfl (fun q => absurd q hg) (fun _ => ?_)
    refine W.aloadN ok (pc' := 34) d_jdk_42_method_149_33 rfl rfl rfl ?_
    refine W.iloadN ok (pc' := 35) d_jdk_42_method_149_34 rfl rfl ?_
    refine W.iloadN ok (pc' := 36) d_jdk_42_method_149_35 rfl rfl ?_
    refine W.callS ok (rest := []) (cl' := (true, [])) (pc' := 39) (w33 hw) (w34 hw) (w35 hw) (w36 hw) (by decide) pd_7 rfl (k_cmp3L l Z a0 hE b cs h Ab hcap hlat) (fun _ q => (nomatch q)) (fun q => ⟨q, fun _ q => (nomatch q)⟩) rfl rfl (Nat.le_of_ble_eq_true rfl) (Nat.le_of_ble_eq_true rfl) (Nat.le_of_ble_eq_true rfl) (Nat.le_of_ble_eq_true rfl) d_jdk_42_method_149_36 rfl rfl (oldK fun v h1 hq K2 => ?_)
    obtain ⟨t, rfl, ht, At⟩ := hq
    show W B h1 1 201 M (true, []) 39 #[.val (.ref a), .val (.ref b), .val (.int (0 : Int32)), .val (.int cs.length.toInt32), .val .null, .unset] [(.ref t)]
    refine W.astore ok (pc' := 41) (L' := #[.val (.ref a), .val (.ref b), .val (.int (0 : Int32)), .val (.int cs.length.toInt32), .val .null, .val (.ref t)]) d_jdk_42_method_149_39 rfl rfl rfl ?_
    refine W.aloadN ok (pc' := 42) d_jdk_42_method_149_41 rfl rfl rfl ?_
    refine W.aload ok (pc' := 44) d_jdk_42_method_149_42 rfl rfl rfl ?_
    refine W.iloadN ok (pc' := 45) d_jdk_42_method_149_44 rfl rfl ?_
    refine W.callS ok (rest := [(.ref a)]) (cl' := (true, [])) (pc' := 48) (w41 hw) (w42 hw) (w35 hw) (w43 hw) (by decide) pd_9 rfl (k_cLen l Z a0 hE t (cs.map b8) cs.length.toInt32 h1 At) (fun _ q => (nomatch q)) (fun q => ⟨q, fun _ q => (nomatch q)⟩) rfl rfl (Nat.le_of_ble_eq_true rfl) (Nat.le_of_ble_eq_true rfl) (Nat.le_of_ble_eq_true rfl) (Nat.le_of_ble_eq_true rfl) d_jdk_42_method_149_45 rfl rfl (pureK ?_)
    show W B h1 1 201 M (true, []) 48 #[.val (.ref a), .val (.ref b), .val (.int (0 : Int32)), .val (.int cs.length.toInt32), .val .null, .val (.ref t)] [(.int (b8 (XT.ushr (cs.length.toInt32 - (cs.map b8).length.toInt32) (31 : Int32)))), (.ref a)]
    rw [show b8 (XT.ushr (cs.length.toInt32 - (cs.map b8).length.toInt32) (31 : Int32)) = 0 by rw [List.length_map, Int32.sub_self]; exact ushr31_zero]
    have ltt := At.gt
    refine W.putF ok (pc' := 51) (cl' := (false, [])) (w44 hw) Via.refl (F2.ext (ext_keep K2)) (X.ext (ext_keep K2)) (Or.inr ⟨(w45 hw), rfl, rfl⟩) (w20 hw) (ty := .byte) (by decide) (by first | rfl | assumption) (by first | rfl | assumption) (hwsM _ (List.mem_of_getElem? (i := 0) rfl)) (Or.inl (List.mem_of_getElem? (i := 0) rfl)) (fun q => by cases q) rfl d_jdk_42_method_149_48 rfl (fun h3 W4 => ?_)
    refine W.aloadN ok (pc' := 52) d_jdk_42_method_149_51 rfl rfl rfl ?_
    refine W.aload ok (pc' := 54) d_jdk_42_method_149_52 rfl rfl rfl ?_
    refine W.putF ok (pc' := 57) (cl' := (false, [])) (w46 hw) Via.refl ((F1.ext (ext_keep K2)).other W4 (Or.inr (slot_ne (Or.inr (w47 hw)) (Or.inr (w45 hw)) (by decide) (t := (.array .byte)) (by decide) (t' := .byte) (by decide)))) ((X.ext (ext_keep K2)).wr W4) (Or.inr ⟨(w47 hw), rfl, rfl⟩) (w20 hw) (ty := (.array .byte)) (by decide) rfl rfl (hwsM _ (List.mem_of_getElem? (i := 0) rfl)) (Or.inl (List.mem_of_getElem? (i := 0) rfl)) (fun q => by cases q) rfl d_jdk_42_method_149_54 rfl (fun h5 W6 => ?_)
    exact W.retV ok d_jdk_42_method_149_57 (Nat.le_of_ble_eq_true rfl) (Nat.le_of_ble_eq_true rfl) (fun x (q : x ∈ M) => q) (fun kp => ⟨rfl, t, (0 : Int32), _, fun q => absurd (hM _ q) (by omega), ((F1.ext (ext_keep K2)).other W4 (Or.inr (slot_ne (Or.inr (w47 hw)) (Or.inr (w45 hw)) (by decide) (t := (.array .byte)) (by decide) (t' := .byte) (by decide)))).same W6, ((F2.ext (ext_keep K2)).same W4).other W6 (Or.inr (slot_ne (Or.inr (w45 hw)) (Or.inr (w47 hw)) (by decide) (t := .byte) (by decide) (t' := (.array .byte)) (by decide))), (At.other W4 (ane (by omega))).other W6 (ane (by omega)), Or.inl ⟨rfl, rfl, fun c hc => ⟨(rc c hc).1, hlat c hc⟩⟩⟩)
  · obtain ⟨g, hg, Fg⟩ := hE.compact
    refine W.getS ok (pc' := 30) (w32 hw) Via.refl Fg d_jdk_42_method_149_27 rfl ?_
    refine W.ifeq ok (pcY := 58) (pcN := 33) d_jdk_42_method_149_30 rfl (by decide) rfl (fun q => absurd q hg) (fun _ => ?_)
    refine W.aloadN ok (pc' := 34) d_jdk_42_method_149_33 rfl rfl rfl ?_
    refine W.iloadN ok (pc' := 35) d_jdk_42_method_149_34 rfl rfl ?_
    refine W.iloadN ok (pc' := 36) d_jdk_42_method_149_35 rfl rfl ?_
    refine W.callS ok (rest := []) (cl' := (true, [])) (pc' := 39) (w33 hw) (w34 hw) (w35 hw) (w36 hw) (by decide) pd_7 rfl (k_cmp3W l Z a0 hE b cs q cq h Ab hcap hq hcq hpre) (fun _ q => (nomatch q)) (fun q => ⟨q, fun _ q => (nomatch q)⟩) rfl rfl (Nat.le_of_ble_eq_true rfl) (Nat.le_of_ble_eq_true rfl) (Nat.le_of_ble_eq_true rfl) (Nat.le_of_ble_eq_true rfl) d_jdk_42_method_149_36 rfl rfl (oldK fun v h7 hq K8 => ?_)
    obtain ⟨t, rfl, ht, At⟩ := hq
    show W B h7 2 603 M (true, []) 39 #[.val (.ref a), .val (.ref b), .val (.int (0 : Int32)), .val (.int cs.length.toInt32), .val .null, .unset] [(.ref t)]
    refine W.astore ok (pc' := 41) (L' := #[.val (.ref a), .val (.ref b), .val (.int (0 : Int32)), .val (.int cs.length.toInt32), .val .null, .val (.ref t)]) d_jdk_42_method_149_39 rfl rfl rfl ?_
    refine W.aloadN ok (pc' := 42) d_jdk_42_method_149_41 rfl rfl rfl ?_
    refine W.aload ok (pc' := 44) d_jdk_42_method_149_42 rfl rfl rfl ?_
    refine W.iloadN ok (pc' := 45) d_jdk_42_method_149_44 rfl rfl ?_
    refine W.callS ok (rest := [(.ref a)]) (cl' := (true, [])) (pc' := 48) (w41 hw) (w42 hw) (w35 hw) (w43 hw) (by decide) pd_9 rfl (k_cLen l Z a0 hE t (wide cs) cs.length.toInt32 h7 At) (fun _ q => (nomatch q)) (fun q => ⟨q, fun _ q => (nomatch q)⟩) rfl rfl (Nat.le_of_ble_eq_true rfl) (Nat.le_of_ble_eq_true rfl) (Nat.le_of_ble_eq_true rfl) (Nat.le_of_ble_eq_true rfl) d_jdk_42_method_149_45 rfl rfl (pureK ?_)
    show W B h7 2 603 M (true, []) 48 #[.val (.ref a), .val (.ref b), .val (.int (0 : Int32)), .val (.int cs.length.toInt32), .val .null, .val (.ref t)] [(.int (b8 (XT.ushr (cs.length.toInt32 - (wide cs).length.toInt32) (31 : Int32)))), (.ref a)]
    rw [show b8 (XT.ushr (cs.length.toInt32 - (wide cs).length.toInt32) (31 : Int32)) = 1 by rw [wide_length]; exact ushr_len hpos (by omega)]
    have ltt := At.gt
    refine W.putF ok (pc' := 51) (cl' := (false, [])) (w44 hw) Via.refl (F2.ext (ext_keep K8)) (X.ext (ext_keep K8)) (Or.inr ⟨(w45 hw), rfl, rfl⟩) (w20 hw) (ty := .byte) (by decide) (by first | rfl | assumption) (by first | rfl | assumption) (hwsM _ (List.mem_of_getElem? (i := 0) rfl)) (Or.inl (List.mem_of_getElem? (i := 0) rfl)) (fun q => by cases q) rfl d_jdk_42_method_149_48 rfl (fun h9 W10 => ?_)
    refine W.aloadN ok (pc' := 52) d_jdk_42_method_149_51 rfl rfl rfl ?_
    refine W.aload ok (pc' := 54) d_jdk_42_method_149_52 rfl rfl rfl ?_
    refine W.putF ok (pc' := 57) (cl' := (false, [])) (w46 hw) Via.refl ((F1.ext (ext_keep K8)).other W10 (Or.inr (slot_ne (Or.inr (w47 hw)) (Or.inr (w45 hw)) (by decide) (t := (.array .byte)) (by decide) (t' := .byte) (by decide)))) ((X.ext (ext_keep K8)).wr W10) (Or.inr ⟨(w47 hw), rfl, rfl⟩) (w20 hw) (ty := (.array .byte)) (by decide) rfl rfl (hwsM _ (List.mem_of_getElem? (i := 0) rfl)) (Or.inl (List.mem_of_getElem? (i := 0) rfl)) (fun q => by cases q) rfl d_jdk_42_method_149_54 rfl (fun h11 W12 => ?_)
    exact W.retV ok d_jdk_42_method_149_57 (Nat.le_of_ble_eq_true rfl) (Nat.le_of_ble_eq_true rfl) (fun x (q : x ∈ M) => q) (fun kp => ⟨rfl, t, (1 : Int32), _, fun q => absurd (hM _ q) (by omega), ((F1.ext (ext_keep K8)).other W10 (Or.inr (slot_ne (Or.inr (w47 hw)) (Or.inr (w45 hw)) (by decide) (t := (.array .byte)) (by decide) (t' := .byte) (by decide)))).same W12, ((F2.ext (ext_keep K8)).same W10).other W12 (Or.inr (slot_ne (Or.inr (w45 hw)) (Or.inr (w47 hw)) (by decide) (t := .byte) (by decide) (t' := (.array .byte)) (by decide))), (At.other W10 (ane (by omega))).other W12 (ane (by omega)), Or.inr ⟨rfl, rfl, rc, cq, mem_of_at hq, hcq⟩⟩)
set_option maxRecDepth 65536 in
set_option maxHeartbeats 4000000 in
theorem k_initC (l : Launch) (Z : State) (a0 : Array Value) (hE : Ev Z a0) (a b : Addr) (cs : List Int32) (h : Heap) (X : Exa Z h a ST) (F1 : Fld Z h a ST "value" "[B" .null) (F2 : Fld Z h a ST "coder" "B" (.int 0)) (Ab : ArI Z h b .char cs) (hcap : cs.length ≤ 201) (hne : cs ≠ []) : Con l Z false (⟨"java/lang/String", "<init>", "([C)V"⟩ : MethodName) jdk_42_method_3_code 2 none ({ frames := 5, cells := 2, slots := 603, locals := 74 } : Room) [(.ref a), (.ref b)] h [a] false (fun M v h' => v = none ∧ ∃ t cd bs, t ∉ M ∧ Fld Z h' a ST "value" "[B" (.ref t) ∧ Fld Z h' a ST "coder" "B" (.int cd) ∧ ArI Z h' t .byte bs ∧ Cod cd cs bs) := by
  have hw := hE.1
  refine Con.intro (L0 := #[.val (.ref a), .val (.ref b)]) (by decide +kernel) (fun m => ef_of rfl) ?_
  intro B M hwsM ok
  refine W.aloadN ok (pc' := 1) d_jdk_42_method_3_0 rfl rfl rfl ?_
  refine W.aloadN ok (pc' := 2) d_jdk_42_method_3_1 rfl rfl rfl ?_
  refine W.iconst ok (pc' := 3) (0 : Int32) d_jdk_42_method_3_2 rfl rfl ?_
  refine W.aloadN ok (pc' := 4) d_jdk_42_method_3_3 rfl rfl rfl ?_
  refine W.lenI ok (pc' := 5) Ab cs.length.toInt32 rfl d_jdk_42_method_3_4 rfl ?_
  refine W.aconstNull ok (pc' := 6) d_jdk_42_method_3_5 rfl ?_
  refine W.callI ok (rest := []) (cl' := (false, [])) (pc' := 9) rfl (w25 hw) (w26 hw) (w21 hw) (w28 hw) (by decide) pd_10 rfl (k_init4 l Z a0 hE a b cs h X F1 F2 Ab hcap hne) (fun w q => by simp only [List.mem_cons, List.not_mem_nil, or_false] at q; subst q; exact ⟨(hwsM _ (List.mem_of_getElem? (i := 0) rfl)), (Or.inl (List.mem_of_getElem? (i := 0) rfl))⟩) (fun q => by cases q) rfl rfl (Nat.le_of_ble_eq_true rfl) (Nat.le_of_ble_eq_true rfl) (Nat.le_of_ble_eq_true rfl) (Nat.le_of_ble_eq_true rfl) d_jdk_42_method_3_6 rfl rfl (oldK fun v h1 hq K2 => ?_)
  obtain ⟨rfl, hq⟩ := hq
  show W B h1 2 603 M (false, []) 9 #[.val (.ref a), .val (.ref b)] []
  exact W.retV ok d_jdk_42_method_3_9 (Nat.le_of_ble_eq_true rfl) (Nat.le_of_ble_eq_true rfl) (fun x (q : x ∈ M) => q) (fun kp => ⟨rfl, hq⟩)
set_option maxRecDepth 65536 in
set_option maxHeartbeats 4000000 in
theorem k_pcft (l : Launch) (Z : State) (a0 : Array Value) (hE : Ev Z a0) (n : Int32) (h : Heap) (h0 : ¬ n < 0) : Con l Z false (⟨"jdk/internal/util/Preconditions", "checkFromToIndex", "(IIILjava/util/function/BiFunction;)I"⟩ : MethodName) jdk_41_method_12_code 4 (some .int) ({ frames := 0, cells := 0, slots := 0, locals := 0 } : Room) [(.int (0 : Int32)), (.int n), (.int n), .null] h [] false (fun M v h' => v = some (.int 0) ∧ h' = h) := by
  have hw := hE.1
  refine Con.intro (L0 := #[.val (.int (0 : Int32)), .val (.int n), .val (.int n), .val .null]) (by decide +kernel) (fun m => ef_of rfl) ?_
  intro B M hwsM ok
  refine W.iloadN ok (pc' := 1) d_jdk_41_method_12_0 rfl rfl ?_
  refine W.iflt ok (pcY := 14) (pcN := 4) d_jdk_41_method_12_1 rfl (by decide) rfl (fun q => absurd q (by decide)) (fun _ => ?_)
  refine W.iloadN ok (pc' := 5) d_jdk_41_method_12_4 rfl rfl ?_
  refine W.iloadN ok (pc' := 6) d_jdk_41_method_12_5 rfl rfl ?_
  refine W.icmpgt ok (pcY := 14) (pcN := 9) d_jdk_41_method_12_6 rfl (by decide) rfl (fun q => absurd q h0) (fun _ => ?_)
  refine W.iloadN ok (pc' := 10) d_jdk_41_method_12_9 rfl rfl ?_
  refine W.iloadN ok (pc' := 11) d_jdk_41_method_12_10 rfl rfl ?_
  refine W.icmple ok (pcY := 22) (pcN := 14) d_jdk_41_method_12_11 rfl (by decide) rfl (fun q => absurd q Int32.lt_irrefl) (fun _ => ?_)
  refine W.iloadN ok (pc' := 23) d_jdk_41_method_12_22 rfl rfl ?_
  exact W.retI ok d_jdk_41_method_12_23 (Nat.le_of_ble_eq_true rfl) (Nat.le_of_ble_eq_true rfl) (fun x (q : x ∈ M) => q) (fun kp => ⟨rfl, rfl⟩)
set_option maxRecDepth 65536 in
set_option maxHeartbeats 4000000 in
theorem k_cft (l : Launch) (Z : State) (a0 : Array Value) (hE : Ev Z a0) (n : Int32) (h : Heap) (h0 : ¬ n < 0) : Con l Z false (⟨"java/util/Objects", "checkFromToIndex", "(III)I"⟩ : MethodName) jdk_31_method_18_code 3 (some .int) ({ frames := 1, cells := 0, slots := 0, locals := 15 } : Room) [(.int (0 : Int32)), (.int n), (.int n)] h [] false (fun M v h' => v = some (.int 0) ∧ h' = h) := by
  have hw := hE.1
  refine Con.intro (L0 := #[.val (.int (0 : Int32)), .val (.int n), .val (.int n)]) (by decide +kernel) (fun m => ef_of rfl) ?_
  intro B M hwsM ok
  refine W.iloadN ok (pc' := 1) d_jdk_31_method_18_0 rfl rfl ?_
  refine W.iloadN ok (pc' := 2) d_jdk_31_method_18_1 rfl rfl ?_
  refine W.iloadN ok (pc' := 3) d_jdk_31_method_18_2 rfl rfl ?_
  refine W.aconstNull ok (pc' := 4) d_jdk_31_method_18_3 rfl ?_
  refine W.callS ok (rest := []) (cl' := (true, [])) (pc' := 7) (w78 hw) (w79 hw) (w80 hw) (w81 hw) (by decide) pd_11 rfl (k_pcft l Z a0 hE n h h0) (fun _ q => (nomatch q)) (fun q => ⟨q, fun _ q => (nomatch q)⟩) rfl rfl (Nat.le_of_ble_eq_true rfl) (Nat.le_of_ble_eq_true rfl) (Nat.le_of_ble_eq_true rfl) (Nat.le_of_ble_eq_true rfl) d_jdk_31_method_18_4 rfl rfl (pureK ?_)
  show W B h 0 0 M (true, []) 7 #[.val (.int (0 : Int32)), .val (.int n), .val (.int n)] [(.int (0 : Int32))]
  exact W.retI ok d_jdk_31_method_18_7 (Nat.le_of_ble_eq_true rfl) (Nat.le_of_ble_eq_true rfl) (fun x (q : x ∈ M) => q) (fun kp => ⟨rfl, rfl⟩)
set_option maxRecDepth 65536 in
set_option maxHeartbeats 4000000 in
theorem k_rnn (l : Launch) (Z : State) (a0 : Array Value) (hE : Ev Z a0) (a b : Addr) (h : Heap)  : Con l Z false (⟨"java/util/Objects", "requireNonNull", "(Ljava/lang/Object;Ljava/lang/String;)Ljava/lang/Object;"⟩ : MethodName) jdk_31_method_11_code 2 (some (.object "java/lang/Object")) ({ frames := 0, cells := 0, slots := 0, locals := 0 } : Room) [(.ref a), (.ref b)] h [] false (fun M v h' => v = some (.ref a) ∧ h' = h) := by
  have hw := hE.1
  refine Con.intro (L0 := #[.val (.ref a), .val (.ref b)]) (by decide +kernel) (fun m => ef_of rfl) ?_
  intro B M hwsM ok
  refine W.aloadN ok (pc' := 1) d_jdk_31_method_11_0 rfl rfl rfl ?_
  refine W.ifnonnull ok (pcY := 13) (pcN := 4) d_jdk_31_method_11_1 rfl rfl (by decide) rfl (fun q => absurd q (fun e => by cases e)) (fun _ => ?_)
  refine W.aloadN ok (pc' := 14) d_jdk_31_method_11_13 rfl rfl rfl ?_
  exact W.retA ok d_jdk_31_method_11_14 rfl rfl (Nat.le_of_ble_eq_true rfl) (Nat.le_of_ble_eq_true rfl) (fun x (q : x ∈ M) => q) (fun kp => ⟨rfl, rfl⟩)
set_option maxRecDepth 65536 in
set_option maxHeartbeats 4000000 in
theorem k_cpc4 (l : Launch) (Z : State) (a0 : Array Value) (hE : Ev Z a0) (t : Addr) (cs : List Int32) (p : Nat) (h : Heap) (A : ArI Z h t .byte (wide cs)) (hr : ∀ c ∈ cs, 0 ≤ c.toInt ∧ c.toInt ≤ 65535) (hW : Wf cs p) (hne : 1 ≤ cs.length) (hl : cs.length < 1000000) : Con l Z false (⟨"java/lang/StringUTF16", "codePointCount", "([BIIZ)I"⟩ : MethodName) jdk_52_method_11_code 6 (some .int) ({ frames := 1, cells := 0, slots := 0, locals := 13 } : Room) [(.ref t), (.int (0 : Int32)), (.int cs.length.toInt32), (.int (0 : Int32))] h [] false (fun M v h' => v = some (.int p.toInt32) ∧ h' = h) := by
  have hw := hE.1
  refine Con.intro (L0 := #[.val (.ref t), .val (.int (0 : Int32)), .val (.int cs.length.toInt32), .val (.int (0 : Int32)), .unset, .unset]) (by decide +kernel) (fun m => ef_of rfl) ?_
  intro B M hwsM ok
  refine W.getS ok (pc' := 3) (w155 hw) Via.refl hE.asd d_jdk_52_method_11_0 rfl ?_
  refine W.ifne ok (pcY := 19) (pcN := 6) d_jdk_52_method_11_3 rfl (by decide) rfl (fun q => absurd q (by decide)) (fun _ => ?_)
  refine W.iloadN ok (pc' := 20) d_jdk_52_method_11_19 rfl rfl ?_
  refine W.iloadN ok (pc' := 21) d_jdk_52_method_11_20 rfl rfl ?_
  refine W.isub ok (pc' := 22) d_jdk_52_method_11_21 rfl ?_
  rw [Int32.sub_zero]
  refine W.istore ok (pc' := 24) (L' := #[.val (.ref t), .val (.int (0 : Int32)), .val (.int cs.length.toInt32), .val (.int (0 : Int32)), .val (.int cs.length.toInt32), .unset]) d_jdk_52_method_11_22 rfl rfl ?_
  refine W.iloadN ok (pc' := 25) d_jdk_52_method_11_24 rfl rfl ?_
  refine W.istore ok (pc' := 27) (L' := #[.val (.ref t), .val (.int (0 : Int32)), .val (.int cs.length.toInt32), .val (.int (0 : Int32)), .val (.int cs.length.toInt32), .val (.int (0 : Int32))]) d_jdk_52_method_11_25 rfl rfl ?_
  refine W.iloadN ok (pc' := 28) d_jdk_52_method_11_27 rfl rfl ?_
  refine W.ifeq ok (pcY := 44) (pcN := 31) d_jdk_52_method_11_28 rfl (by decide) rfl (fun _ => ?_) (fun q => absurd rfl q)
  have loop : ∀ (suf : List Int32) (m : Nat), Wf suf m → ∀ (i cnt : Nat), cs.drop i = suf → i ≤ cs.length → cnt + m = p + suf.length → cnt ≤ cs.length → W B h 0 0 M (true, []) 44 #[.val (.ref t), .val (.int (0 : Int32)), .val (.int cs.length.toInt32), .val (.int (0 : Int32)), .val (.int cnt.toInt32), .val (.int i.toInt32)] [] := by
    intro suf m hW
    refine Wf.ind (P := fun suf m => ∀ (i cnt : Nat), cs.drop i = suf → i ≤ cs.length → cnt + m = p + suf.length → cnt ≤ cs.length → W B h 0 0 M (true, []) 44 #[.val (.ref t), .val (.int (0 : Int32)), .val (.int cs.length.toInt32), .val (.int (0 : Int32)), .val (.int cnt.toInt32), .val (.int i.toInt32)] []) ?_ ?_ ?_ suf m hW
    ·
      intro i cnt hd hi hc hcl
      have ei := drop_nil hd hi
      refine W.iload ok (pc' := 46) d_jdk_52_method_11_44 rfl rfl ?_
      refine W.iloadN ok (pc' := 47) d_jdk_52_method_11_46 rfl rfl ?_
      refine W.iconst ok (pc' := 48) (1 : Int32) d_jdk_52_method_11_47 rfl rfl ?_
      refine W.isub ok (pc' := 49) d_jdk_52_method_11_48 rfl ?_
      refine W.icmpge ok (pcY := 88) (pcN := 52) d_jdk_52_method_11_49 rfl (by decide) rfl (fun q => absurd q (by rw [lt_pred (by omega) (by omega) hne]; omega)) (fun _ => ?_)
      refine W.iload ok (pc' := 90) d_jdk_52_method_11_88 rfl rfl ?_
      exact W.retI ok d_jdk_52_method_11_90 (Nat.le_of_ble_eq_true rfl) (Nat.le_of_ble_eq_true rfl) (fun x (q : x ∈ M) => q) (fun kp => ⟨by rw [show cnt = p by simp only [List.length_cons, List.length_nil] at hc; omega], rfl⟩)
    ·
      intro c r n0 a1 a2 a3 ih i cnt hd hi hc hcl
      obtain ⟨d1, d2, d3⟩ := drop_hd hd
      have r0 := hc
      simp only [List.length_cons] at r0
      refine W.iload ok (pc' := 46) d_jdk_52_method_11_44 rfl rfl ?_
      refine W.iloadN ok (pc' := 47) d_jdk_52_method_11_46 rfl rfl ?_
      refine W.iconst ok (pc' := 48) (1 : Int32) d_jdk_52_method_11_47 rfl rfl ?_
      refine W.isub ok (pc' := 49) d_jdk_52_method_11_48 rfl ?_
      rcases Nat.eq_zero_or_pos r.length with z | z
      · obtain rfl := List.length_eq_zero_iff.mp z
        have n00 := a3.le
        simp only [List.length_nil] at n00 d3
        refine W.icmpge ok (pcY := 88) (pcN := 52) d_jdk_52_method_11_49 rfl (by decide) rfl (fun q => absurd q (by rw [lt_pred (by omega) (by omega) hne]; omega)) (fun _ => ?_)
        refine W.iload ok (pc' := 90) d_jdk_52_method_11_88 rfl rfl ?_
        exact W.retI ok d_jdk_52_method_11_90 (Nat.le_of_ble_eq_true rfl) (Nat.le_of_ble_eq_true rfl) (fun x (q : x ∈ M) => q) (fun kp => ⟨by rw [show cnt = p by simp only [List.length_cons, List.length_nil] at hc; omega], rfl⟩)
      · refine W.icmpge ok (pcY := 88) (pcN := 52) d_jdk_52_method_11_49 rfl (by decide) rfl (fun _ => ?_) (fun q => absurd (by rw [lt_pred (by omega) (by omega) hne]; omega) q)
        refine W.aloadN ok (pc' := 53) d_jdk_52_method_11_52 rfl rfl rfl ?_
        refine W.iload ok (pc' := 55) d_jdk_52_method_11_53 rfl rfl ?_
        refine W.iinc ok (pc' := 58) (L' := #[.val (.ref t), .val (.int (0 : Int32)), .val (.int cs.length.toInt32), .val (.int (0 : Int32)), .val (.int cnt.toInt32), .val (.int (i.toInt32 + (1 : Int32)))]) (1 : Int32) d_jdk_52_method_11_55 rfl rfl rfl rfl ?_
        refine W.callS ok (rest := []) (cl' := (true, [])) (pc' := 61) (w158 hw) (w159 hw) (w35 hw) (w160 hw) (by decide) pd_8 rfl (k_getChar l Z a0 hE t (wide cs) i (b8 c) (b8 (c >>> ((8 : Int32) &&& 31))) h A (wide_at cs i c d1).1 (wide_at cs i c d1).2 (by rw [wide_length]; omega)) (fun _ q => (nomatch q)) (fun q => ⟨q, fun _ q => (nomatch q)⟩) rfl rfl (Nat.le_of_ble_eq_true rfl) (Nat.le_of_ble_eq_true rfl) (Nat.le_of_ble_eq_true rfl) (Nat.le_of_ble_eq_true rfl) d_jdk_52_method_11_58 rfl rfl (pureK ?_)
        show W B h 0 0 M (true, []) 61 #[.val (.ref t), .val (.int (0 : Int32)), .val (.int cs.length.toInt32), .val (.int (0 : Int32)), .val (.int cnt.toInt32), .val (.int (i.toInt32 + (1 : Int32)))] [(.int (c16 (((b8 c &&& 255) <<< ((0 : Int32) &&& 31)) ||| ((b8 (c >>> ((8 : Int32) &&& 31)) &&& 255) <<< ((8 : Int32) &&& 31)))))]
        rw [pair (hr c (mem_of_at d1))]
        refine W.callS ok (rest := []) (cl' := (true, [])) (pc' := 64) (w167 hw) (w168 hw) (w105 hw) (w169 hw) (by decide) pd_12 rfl (k_chiN l Z a0 hE c h a1) (fun _ q => (nomatch q)) (fun q => ⟨q, fun _ q => (nomatch q)⟩) rfl rfl (Nat.le_of_ble_eq_true rfl) (Nat.le_of_ble_eq_true rfl) (Nat.le_of_ble_eq_true rfl) (Nat.le_of_ble_eq_true rfl) d_jdk_52_method_11_61 rfl rfl (pureK ?_)
        show W B h 0 0 M (true, []) 64 #[.val (.ref t), .val (.int (0 : Int32)), .val (.int cs.length.toInt32), .val (.int (0 : Int32)), .val (.int cnt.toInt32), .val (.int (i.toInt32 + (1 : Int32)))] [(.int (0 : Int32))]
        refine W.ifeq ok (pcY := 44) (pcN := 67) d_jdk_52_method_11_64 rfl (by decide) rfl (fun _ => ?_) (fun q => absurd rfl q)
        rw [i32_succ]
        exact ih (i + 1) cnt d2 (by omega) (by omega) hcl
    ·
      intro c d r n0 a1 a2 a3 ih i cnt hd hi hc hcl
      obtain ⟨d1, d2, d3⟩ := drop_hd hd
      obtain ⟨g1, g2, g3⟩ := drop_hd d2
      have n0l := a3.le
      simp only [List.length_cons] at hc d3
      refine W.iload ok (pc' := 46) d_jdk_52_method_11_44 rfl rfl ?_
      refine W.iloadN ok (pc' := 47) d_jdk_52_method_11_46 rfl rfl ?_
      refine W.iconst ok (pc' := 48) (1 : Int32) d_jdk_52_method_11_47 rfl rfl ?_
      refine W.isub ok (pc' := 49) d_jdk_52_method_11_48 rfl ?_
      refine W.icmpge ok (pcY := 88) (pcN := 52) d_jdk_52_method_11_49 rfl (by decide) rfl (fun _ => ?_) (fun q => absurd (by rw [lt_pred (by omega) (by omega) hne]; omega) q)
      refine W.aloadN ok (pc' := 53) d_jdk_52_method_11_52 rfl rfl rfl ?_
      refine W.iload ok (pc' := 55) d_jdk_52_method_11_53 rfl rfl ?_
      refine W.iinc ok (pc' := 58) (L' := #[.val (.ref t), .val (.int (0 : Int32)), .val (.int cs.length.toInt32), .val (.int (0 : Int32)), .val (.int cnt.toInt32), .val (.int (i.toInt32 + (1 : Int32)))]) (1 : Int32) d_jdk_52_method_11_55 rfl rfl rfl rfl ?_
      refine W.callS ok (rest := []) (cl' := (true, [])) (pc' := 61) (w158 hw) (w159 hw) (w35 hw) (w160 hw) (by decide) pd_8 rfl (k_getChar l Z a0 hE t (wide cs) i (b8 c) (b8 (c >>> ((8 : Int32) &&& 31))) h A (wide_at cs i c d1).1 (wide_at cs i c d1).2 (by rw [wide_length]; omega)) (fun _ q => (nomatch q)) (fun q => ⟨q, fun _ q => (nomatch q)⟩) rfl rfl (Nat.le_of_ble_eq_true rfl) (Nat.le_of_ble_eq_true rfl) (Nat.le_of_ble_eq_true rfl) (Nat.le_of_ble_eq_true rfl) d_jdk_52_method_11_58 rfl rfl (pureK ?_)
      show W B h 0 0 M (true, []) 61 #[.val (.ref t), .val (.int (0 : Int32)), .val (.int cs.length.toInt32), .val (.int (0 : Int32)), .val (.int cnt.toInt32), .val (.int (i.toInt32 + (1 : Int32)))] [(.int (c16 (((b8 c &&& 255) <<< ((0 : Int32) &&& 31)) ||| ((b8 (c >>> ((8 : Int32) &&& 31)) &&& 255) <<< ((8 : Int32) &&& 31)))))]
      rw [pair (hr c (mem_of_at d1))]
      refine W.callS ok (rest := []) (cl' := (true, [])) (pc' := 64) (w167 hw) (w168 hw) (w105 hw) (w169 hw) (by decide) pd_12 rfl (k_chiY l Z a0 hE c h a1) (fun _ q => (nomatch q)) (fun q => ⟨q, fun _ q => (nomatch q)⟩) rfl rfl (Nat.le_of_ble_eq_true rfl) (Nat.le_of_ble_eq_true rfl) (Nat.le_of_ble_eq_true rfl) (Nat.le_of_ble_eq_true rfl) d_jdk_52_method_11_61 rfl rfl (pureK ?_)
      show W B h 0 0 M (true, []) 64 #[.val (.ref t), .val (.int (0 : Int32)), .val (.int cs.length.toInt32), .val (.int (0 : Int32)), .val (.int cnt.toInt32), .val (.int (i.toInt32 + (1 : Int32)))] [(.int (1 : Int32))]
      refine W.ifeq ok (pcY := 44) (pcN := 67) d_jdk_52_method_11_64 rfl (by decide) rfl (fun q => absurd q (by decide)) (fun _ => ?_)
      rw [i32_succ]
      refine W.aloadN ok (pc' := 68) d_jdk_52_method_11_67 rfl rfl rfl ?_
      refine W.iload ok (pc' := 70) d_jdk_52_method_11_68 rfl rfl ?_
      refine W.callS ok (rest := []) (cl' := (true, [])) (pc' := 73) (w158 hw) (w159 hw) (w35 hw) (w160 hw) (by decide) pd_8 rfl (k_getChar l Z a0 hE t (wide cs) (i + 1) (b8 d) (b8 (d >>> ((8 : Int32) &&& 31))) h A (wide_at cs (i + 1) d g1).1 (wide_at cs (i + 1) d g1).2 (by rw [wide_length]; omega)) (fun _ q => (nomatch q)) (fun q => ⟨q, fun _ q => (nomatch q)⟩) rfl rfl (Nat.le_of_ble_eq_true rfl) (Nat.le_of_ble_eq_true rfl) (Nat.le_of_ble_eq_true rfl) (Nat.le_of_ble_eq_true rfl) d_jdk_52_method_11_70 rfl rfl (pureK ?_)
      show W B h 0 0 M (true, []) 73 #[.val (.ref t), .val (.int (0 : Int32)), .val (.int cs.length.toInt32), .val (.int (0 : Int32)), .val (.int cnt.toInt32), .val (.int ((i + 1).toInt32))] [(.int (c16 (((b8 d &&& 255) <<< ((0 : Int32) &&& 31)) ||| ((b8 (d >>> ((8 : Int32) &&& 31)) &&& 255) <<< ((8 : Int32) &&& 31)))))]
      rw [pair (hr d (mem_of_at g1))]
      refine W.callS ok (rest := []) (cl' := (true, [])) (pc' := 76) (w179 hw) (w180 hw) (w105 hw) (w181 hw) (by decide) pd_12 rfl (k_cloY l Z a0 hE d h a2) (fun _ q => (nomatch q)) (fun q => ⟨q, fun _ q => (nomatch q)⟩) rfl rfl (Nat.le_of_ble_eq_true rfl) (Nat.le_of_ble_eq_true rfl) (Nat.le_of_ble_eq_true rfl) (Nat.le_of_ble_eq_true rfl) d_jdk_52_method_11_73 rfl rfl (pureK ?_)
      show W B h 0 0 M (true, []) 76 #[.val (.ref t), .val (.int (0 : Int32)), .val (.int cs.length.toInt32), .val (.int (0 : Int32)), .val (.int cnt.toInt32), .val (.int ((i + 1).toInt32))] [(.int (1 : Int32))]
      refine W.ifeq ok (pcY := 44) (pcN := 79) d_jdk_52_method_11_76 rfl (by decide) rfl (fun q => absurd q (by decide)) (fun _ => ?_)
      refine W.iinc ok (pc' := 82) (L' := #[.val (.ref t), .val (.int (0 : Int32)), .val (.int cs.length.toInt32), .val (.int (0 : Int32)), .val (.int (cnt.toInt32 + ((-1) : Int32))), .val (.int ((i + 1).toInt32))]) ((-1) : Int32) d_jdk_52_method_11_79 rfl rfl rfl rfl ?_
      refine W.iinc ok (pc' := 85) (L' := #[.val (.ref t), .val (.int (0 : Int32)), .val (.int cs.length.toInt32), .val (.int (0 : Int32)), .val (.int (cnt.toInt32 + ((-1) : Int32))), .val (.int (((i + 1).toInt32) + (1 : Int32)))]) (1 : Int32) d_jdk_52_method_11_82 rfl rfl rfl rfl ?_
      refine W.goto ok (pc' := 44) d_jdk_52_method_11_85 (by decide) rfl ?_
      rw [i32_succ, i32_pred (by omega) (by omega)]
      exact ih (i + 1 + 1) (cnt - 1) g2 (by omega) (by omega) (by omega)
  exact loop cs p hW 0 cs.length rfl (Nat.zero_le _) (by omega) (Nat.le_refl _)
set_option maxRecDepth 65536 in
set_option maxHeartbeats 4000000 in
theorem k_cpc3 (l : Launch) (Z : State) (a0 : Array Value) (hE : Ev Z a0) (t : Addr) (cs : List Int32) (p : Nat) (h : Heap) (A : ArI Z h t .byte (wide cs)) (hr : ∀ c ∈ cs, 0 ≤ c.toInt ∧ c.toInt ≤ 65535) (hW : Wf cs p) (hne : 1 ≤ cs.length) (hl : cs.length < 1000000) : Con l Z false (⟨"java/lang/StringUTF16", "codePointCount", "([BII)I"⟩ : MethodName) jdk_52_method_12_code 3 (some .int) ({ frames := 2, cells := 0, slots := 0, locals := 30 } : Room) [(.ref t), (.int (0 : Int32)), (.int cs.length.toInt32)] h [] false (fun M v h' => v = some (.int p.toInt32) ∧ h' = h) := by
  have hw := hE.1
  refine Con.intro (L0 := #[.val (.ref t), .val (.int (0 : Int32)), .val (.int cs.length.toInt32)]) (by decide +kernel) (fun m => ef_of rfl) ?_
  intro B M hwsM ok
  refine W.aloadN ok (pc' := 1) d_jdk_52_method_12_0 rfl rfl rfl ?_
  refine W.iloadN ok (pc' := 2) d_jdk_52_method_12_1 rfl rfl ?_
  refine W.iloadN ok (pc' := 3) d_jdk_52_method_12_2 rfl rfl ?_
  refine W.iconst ok (pc' := 4) (0 : Int32) d_jdk_52_method_12_3 rfl rfl ?_
  refine W.callS ok (rest := []) (cl' := (true, [])) (pc' := 7) (w164 hw) (w165 hw) (w35 hw) (w166 hw) (by decide) pd_13 rfl (k_cpc4 l Z a0 hE t cs p h A hr hW hne hl) (fun _ q => (nomatch q)) (fun q => ⟨q, fun _ q => (nomatch q)⟩) rfl rfl (Nat.le_of_ble_eq_true rfl) (Nat.le_of_ble_eq_true rfl) (Nat.le_of_ble_eq_true rfl) (Nat.le_of_ble_eq_true rfl) d_jdk_52_method_12_4 rfl rfl (pureK ?_)
  show W B h 0 0 M (true, []) 7 #[.val (.ref t), .val (.int (0 : Int32)), .val (.int cs.length.toInt32)] [(.int p.toInt32)]
  exact W.retI ok d_jdk_52_method_12_7 (Nat.le_of_ble_eq_true rfl) (Nat.le_of_ble_eq_true rfl) (fun x (q : x ∈ M) => q) (fun kp => ⟨rfl, rfl⟩)
set_option maxRecDepth 65536 in
set_option maxHeartbeats 4000000 in
theorem k_cpcS (l : Launch) (Z : State) (a0 : Array Value) (hE : Ev Z a0) (a : Addr) (cs : List Int32) (p : Nat) (h : Heap) (S : Str Z h a cs) (hW : Wf cs p) (hne : 1 ≤ cs.length) (hl : cs.length < 1000000) : Con l Z false (⟨"java/lang/String", "codePointCount", "(II)I"⟩ : MethodName) jdk_42_method_59_code 3 (some .int) ({ frames := 3, cells := 0, slots := 0, locals := 44 } : Room) [(.ref a), (.int (0 : Int32)), (.int cs.length.toInt32)] h [] false (fun M v h' => v = some (.int p.toInt32) ∧ h' = h) := by
  have hw := hE.1
  refine Con.intro (L0 := #[.val (.ref a), .val (.int (0 : Int32)), .val (.int cs.length.toInt32)]) (by decide +kernel) (fun m => ef_of rfl) ?_
  intro B M hwsM ok
  have S' := S
  obtain ⟨t, cd, bs, X, F1, F2, A, hc⟩ := S'
  have hr := hc.rng
  refine W.iloadN ok (pc' := 1) d_jdk_42_method_59_0 rfl rfl ?_
  refine W.iloadN ok (pc' := 2) d_jdk_42_method_59_1 rfl rfl ?_
  refine W.aloadN ok (pc' := 3) d_jdk_42_method_59_2 rfl rfl rfl ?_
  refine W.callV ok (rest := [(.int cs.length.toInt32), (.int (0 : Int32))]) (cl' := (true, [])) (pc' := 6) (w74 hw) (w60 hw) (w62 hw) (w61 hw) (w21 hw) (w63 hw) (by decide) X pd_14 rfl (k_length l Z a0 hE a cs h S hl) (fun _ q => (nomatch q)) (fun q => ⟨q, fun _ q => (nomatch q)⟩) rfl rfl (Nat.le_of_ble_eq_true rfl) (Nat.le_of_ble_eq_true rfl) (Nat.le_of_ble_eq_true rfl) (Nat.le_of_ble_eq_true rfl) d_jdk_42_method_59_3 rfl rfl (pureK ?_)
  show W B h 0 0 M (true, []) 6 #[.val (.ref a), .val (.int (0 : Int32)), .val (.int cs.length.toInt32)] [(.int cs.length.toInt32), (.int cs.length.toInt32), (.int (0 : Int32))]
  refine W.callS ok (rest := []) (cl' := (true, [])) (pc' := 9) (w75 hw) (w76 hw) (w57 hw) (w77 hw) (by decide) pd_15 rfl (k_cft l Z a0 hE cs.length.toInt32 h (i32_nn (by omega))) (fun _ q => (nomatch q)) (fun q => ⟨q, fun _ q => (nomatch q)⟩) rfl rfl (Nat.le_of_ble_eq_true rfl) (Nat.le_of_ble_eq_true rfl) (Nat.le_of_ble_eq_true rfl) (Nat.le_of_ble_eq_true rfl) d_jdk_42_method_59_6 rfl rfl (pureK ?_)
  show W B h 0 0 M (true, []) 9 #[.val (.ref a), .val (.int (0 : Int32)), .val (.int cs.length.toInt32)] [(.int (0 : Int32))]
  refine W.pop1 ok (pc' := 10) d_jdk_42_method_59_9 rfl rfl ?_
  refine W.aloadN ok (pc' := 11) d_jdk_42_method_59_10 rfl rfl rfl ?_
  rcases hc with ⟨rfl, rfl, hc⟩ | ⟨rfl, rfl, hc, hx⟩
  · refine W.callV ok (rest := []) (cl' := (true, [])) (pc' := 14) (w82 hw) (w83 hw) (w85 hw) (w84 hw) (w21 hw) (w86 hw) (by decide) X pd_16 rfl (k_isLatL l Z a0 hE a h F2) (fun _ q => (nomatch q)) (fun q => ⟨q, fun _ q => (nomatch q)⟩) rfl rfl (Nat.le_of_ble_eq_true rfl) (Nat.le_of_ble_eq_true rfl) (Nat.le_of_ble_eq_true rfl) (Nat.le_of_ble_eq_true rfl) d_jdk_42_method_59_11 rfl rfl (pureK ?_)
    show W B h 0 0 M (true, []) 14 #[.val (.ref a), .val (.int (0 : Int32)), .val (.int cs.length.toInt32)] [(.int 1)]
    refine W.ifeq ok (pcY := 21) (pcN := 17) d_jdk_42_method_59_14 rfl (by decide) rfl (fun q => absurd q (by decide)) (fun _ => ?_)
    refine W.iloadN ok (pc' := 18) d_jdk_42_method_59_17 rfl rfl ?_
    refine W.iloadN ok (pc' := 19) d_jdk_42_method_59_18 rfl rfl ?_
    refine W.isub ok (pc' := 20) d_jdk_42_method_59_19 rfl ?_
    exact W.retI ok d_jdk_42_method_59_20 (Nat.le_of_ble_eq_true rfl) (Nat.le_of_ble_eq_true rfl) (fun x (q : x ∈ M) => q) (fun kp => ⟨by rw [Int32.sub_zero, hW.lat (fun c q => (hc c q).2)], rfl⟩)
  · refine W.callV ok (rest := []) (cl' := (true, [])) (pc' := 14) (w82 hw) (w83 hw) (w85 hw) (w84 hw) (w21 hw) (w86 hw) (by decide) X pd_16 rfl (k_isLatW l Z a0 hE a h F2) (fun _ q => (nomatch q)) (fun q => ⟨q, fun _ q => (nomatch q)⟩) rfl rfl (Nat.le_of_ble_eq_true rfl) (Nat.le_of_ble_eq_true rfl) (Nat.le_of_ble_eq_true rfl) (Nat.le_of_ble_eq_true rfl) d_jdk_42_method_59_11 rfl rfl (pureK ?_)
    show W B h 0 0 M (true, []) 14 #[.val (.ref a), .val (.int (0 : Int32)), .val (.int cs.length.toInt32)] [(.int 0)]
    refine W.ifeq ok (pcY := 21) (pcN := 17) d_jdk_42_method_59_14 rfl (by decide) rfl (fun _ => ?_) (fun q => absurd rfl q)
    refine W.aloadN ok (pc' := 22) d_jdk_42_method_59_21 rfl rfl rfl ?_
    refine W.getF ok (pc' := 25) (w46 hw) Via.refl F1 d_jdk_42_method_59_22 rfl ?_
    refine W.iloadN ok (pc' := 26) d_jdk_42_method_59_25 rfl rfl ?_
    refine W.iloadN ok (pc' := 27) d_jdk_42_method_59_26 rfl rfl ?_
    refine W.callS ok (rest := []) (cl' := (true, [])) (pc' := 30) (w161 hw) (w162 hw) (w35 hw) (w163 hw) (by decide) pd_17 rfl (k_cpc3 l Z a0 hE t cs p h A hr hW hne hl) (fun _ q => (nomatch q)) (fun q => ⟨q, fun _ q => (nomatch q)⟩) rfl rfl (Nat.le_of_ble_eq_true rfl) (Nat.le_of_ble_eq_true rfl) (Nat.le_of_ble_eq_true rfl) (Nat.le_of_ble_eq_true rfl) d_jdk_42_method_59_27 rfl rfl (pureK ?_)
    show W B h 0 0 M (true, []) 30 #[.val (.ref a), .val (.int (0 : Int32)), .val (.int cs.length.toInt32)] [(.int p.toInt32)]
    exact W.retI ok d_jdk_42_method_59_30 (Nat.le_of_ble_eq_true rfl) (Nat.le_of_ble_eq_true rfl) (fun x (q : x ∈ M) => q) (fun kp => ⟨rfl, rfl⟩)
set_option maxRecDepth 65536 in
set_option maxHeartbeats 4000000 in
theorem k_cpa4_1 (l : Launch) (Z : State) (a0 : Array Value) (hE : Ev Z a0) (t : Addr) (cs : List Int32) (iN : Nat) (c : Int32) (h : Heap) (A : ArI Z h t .byte (wide cs)) (hr : ∀ c ∈ cs, 0 ≤ c.toInt ∧ c.toInt ≤ 65535) (hl : cs.length < 1000000) (hi : cs[iN]? = some c) (hc : ¬ Hi c) : Con l Z false (⟨"java/lang/StringUTF16", "codePointAt", "([BIIZ)I"⟩ : MethodName) jdk_52_method_7_code 6 (some .int) ({ frames := 1, cells := 0, slots := 0, locals := 13 } : Room) [(.ref t), (.int iN.toInt32), (.int cs.length.toInt32), (.int (0 : Int32))] h [] false (fun M v h' => v = some (.int c) ∧ h' = h) := by
  have hw := hE.1
  refine Con.intro (L0 := #[.val (.ref t), .val (.int iN.toInt32), .val (.int cs.length.toInt32), .val (.int (0 : Int32)), .unset, .unset]) (by decide +kernel) (fun m => ef_of rfl) ?_
  intro B M hwsM ok
  refine W.getS ok (pc' := 3) (w155 hw) Via.refl hE.asd d_jdk_52_method_7_0 rfl ?_
  refine W.ifne ok (pcY := 19) (pcN := 6) d_jdk_52_method_7_3 rfl (by decide) rfl (fun q => absurd q (by decide)) (fun _ => ?_)
  refine W.iloadN ok (pc' := 20) d_jdk_52_method_7_19 rfl rfl ?_
  refine W.ifeq ok (pcY := 28) (pcN := 23) d_jdk_52_method_7_20 rfl (by decide) rfl (fun _ => ?_) (fun q => absurd rfl q)
  refine W.aloadN ok (pc' := 29) d_jdk_52_method_7_28 rfl rfl rfl ?_
  refine W.iloadN ok (pc' := 30) d_jdk_52_method_7_29 rfl rfl ?_
  refine W.callS ok (rest := []) (cl' := (true, [])) (pc' := 33) (w158 hw) (w159 hw) (w35 hw) (w160 hw) (by decide) pd_8 rfl (k_getChar l Z a0 hE t (wide cs) iN (b8 c) (b8 (c >>> ((8 : Int32) &&& 31))) h A (wide_at cs iN c hi).1 (wide_at cs iN c hi).2 (by rw [wide_length]; omega)) (fun _ q => (nomatch q)) (fun q => ⟨q, fun _ q => (nomatch q)⟩) rfl rfl (Nat.le_of_ble_eq_true rfl) (Nat.le_of_ble_eq_true rfl) (Nat.le_of_ble_eq_true rfl) (Nat.le_of_ble_eq_true rfl) d_jdk_52_method_7_30 rfl rfl (pureK ?_)
  show W B h 0 0 M (true, []) 33 #[.val (.ref t), .val (.int iN.toInt32), .val (.int cs.length.toInt32), .val (.int (0 : Int32)), .unset, .unset] [(.int (c16 (((b8 c &&& 255) <<< ((0 : Int32) &&& 31)) ||| ((b8 (c >>> ((8 : Int32) &&& 31)) &&& 255) <<< ((8 : Int32) &&& 31)))))]
  rw [pair (hr c (mem_of_at hi))]
  refine W.istore ok (pc' := 35) (L' := #[.val (.ref t), .val (.int iN.toInt32), .val (.int cs.length.toInt32), .val (.int (0 : Int32)), .val (.int c), .unset]) d_jdk_52_method_7_33 rfl rfl ?_
  refine W.iload ok (pc' := 37) d_jdk_52_method_7_35 rfl rfl ?_
  refine W.callS ok (rest := []) (cl' := (true, [])) (pc' := 40) (w167 hw) (w168 hw) (w105 hw) (w169 hw) (by decide) pd_12 rfl (k_chiN l Z a0 hE c h hc) (fun _ q => (nomatch q)) (fun q => ⟨q, fun _ q => (nomatch q)⟩) rfl rfl (Nat.le_of_ble_eq_true rfl) (Nat.le_of_ble_eq_true rfl) (Nat.le_of_ble_eq_true rfl) (Nat.le_of_ble_eq_true rfl) d_jdk_52_method_7_37 rfl rfl (pureK ?_)
  show W B h 0 0 M (true, []) 40 #[.val (.ref t), .val (.int iN.toInt32), .val (.int cs.length.toInt32), .val (.int (0 : Int32)), .val (.int c), .unset] [(.int (0 : Int32))]
  refine W.ifeq ok (pcY := 83) (pcN := 43) d_jdk_52_method_7_40 rfl (by decide) rfl (fun _ => ?_) (fun q => absurd rfl q)
  refine W.iload ok (pc' := 85) d_jdk_52_method_7_83 rfl rfl ?_
  exact W.retI ok d_jdk_52_method_7_85 (Nat.le_of_ble_eq_true rfl) (Nat.le_of_ble_eq_true rfl) (fun x (q : x ∈ M) => q) (fun kp => ⟨rfl, rfl⟩)
set_option maxRecDepth 65536 in
set_option maxHeartbeats 4000000 in
theorem k_cpa4_2 (l : Launch) (Z : State) (a0 : Array Value) (hE : Ev Z a0) (t : Addr) (cs : List Int32) (iN : Nat) (c d : Int32) (h : Heap) (A : ArI Z h t .byte (wide cs)) (hr : ∀ c ∈ cs, 0 ≤ c.toInt ∧ c.toInt ≤ 65535) (hl : cs.length < 1000000) (hi : cs[iN]? = some c) (hj : cs[iN + 1]? = some d) (hc : Hi c) (hd : Lo d) : Con l Z false (⟨"java/lang/StringUTF16", "codePointAt", "([BIIZ)I"⟩ : MethodName) jdk_52_method_7_code 6 (some .int) ({ frames := 1, cells := 0, slots := 0, locals := 13 } : Room) [(.ref t), (.int iN.toInt32), (.int cs.length.toInt32), (.int (0 : Int32))] h [] false (fun M v h' => v = some (.int (tcp c d)) ∧ h' = h) := by
  have hw := hE.1
  refine Con.intro (L0 := #[.val (.ref t), .val (.int iN.toInt32), .val (.int cs.length.toInt32), .val (.int (0 : Int32)), .unset, .unset]) (by decide +kernel) (fun m => ef_of rfl) ?_
  intro B M hwsM ok
  have l2 := lt_of_at hj
  refine W.getS ok (pc' := 3) (w155 hw) Via.refl hE.asd d_jdk_52_method_7_0 rfl ?_
  refine W.ifne ok (pcY := 19) (pcN := 6) d_jdk_52_method_7_3 rfl (by decide) rfl (fun q => absurd q (by decide)) (fun _ => ?_)
  refine W.iloadN ok (pc' := 20) d_jdk_52_method_7_19 rfl rfl ?_
  refine W.ifeq ok (pcY := 28) (pcN := 23) d_jdk_52_method_7_20 rfl (by decide) rfl (fun _ => ?_) (fun q => absurd rfl q)
  refine W.aloadN ok (pc' := 29) d_jdk_52_method_7_28 rfl rfl rfl ?_
  refine W.iloadN ok (pc' := 30) d_jdk_52_method_7_29 rfl rfl ?_
  refine W.callS ok (rest := []) (cl' := (true, [])) (pc' := 33) (w158 hw) (w159 hw) (w35 hw) (w160 hw) (by decide) pd_8 rfl (k_getChar l Z a0 hE t (wide cs) iN (b8 c) (b8 (c >>> ((8 : Int32) &&& 31))) h A (wide_at cs iN c hi).1 (wide_at cs iN c hi).2 (by rw [wide_length]; omega)) (fun _ q => (nomatch q)) (fun q => ⟨q, fun _ q => (nomatch q)⟩) rfl rfl (Nat.le_of_ble_eq_true rfl) (Nat.le_of_ble_eq_true rfl) (Nat.le_of_ble_eq_true rfl) (Nat.le_of_ble_eq_true rfl) d_jdk_52_method_7_30 rfl rfl (pureK ?_)
  show W B h 0 0 M (true, []) 33 #[.val (.ref t), .val (.int iN.toInt32), .val (.int cs.length.toInt32), .val (.int (0 : Int32)), .unset, .unset] [(.int (c16 (((b8 c &&& 255) <<< ((0 : Int32) &&& 31)) ||| ((b8 (c >>> ((8 : Int32) &&& 31)) &&& 255) <<< ((8 : Int32) &&& 31)))))]
  rw [pair (hr c (mem_of_at hi))]
  refine W.istore ok (pc' := 35) (L' := #[.val (.ref t), .val (.int iN.toInt32), .val (.int cs.length.toInt32), .val (.int (0 : Int32)), .val (.int c), .unset]) d_jdk_52_method_7_33 rfl rfl ?_
  refine W.iload ok (pc' := 37) d_jdk_52_method_7_35 rfl rfl ?_
  refine W.callS ok (rest := []) (cl' := (true, [])) (pc' := 40) (w167 hw) (w168 hw) (w105 hw) (w169 hw) (by decide) pd_12 rfl (k_chiY l Z a0 hE c h hc) (fun _ q => (nomatch q)) (fun q => ⟨q, fun _ q => (nomatch q)⟩) rfl rfl (Nat.le_of_ble_eq_true rfl) (Nat.le_of_ble_eq_true rfl) (Nat.le_of_ble_eq_true rfl) (Nat.le_of_ble_eq_true rfl) d_jdk_52_method_7_37 rfl rfl (pureK ?_)
  show W B h 0 0 M (true, []) 40 #[.val (.ref t), .val (.int iN.toInt32), .val (.int cs.length.toInt32), .val (.int (0 : Int32)), .val (.int c), .unset] [(.int (1 : Int32))]
  refine W.ifeq ok (pcY := 83) (pcN := 43) d_jdk_52_method_7_40 rfl (by decide) rfl (fun q => absurd q (by decide)) (fun _ => ?_)
  refine W.iinc ok (pc' := 46) (L' := #[.val (.ref t), .val (.int (iN.toInt32 + (1 : Int32))), .val (.int cs.length.toInt32), .val (.int (0 : Int32)), .val (.int c), .unset]) (1 : Int32) d_jdk_52_method_7_43 rfl rfl rfl rfl ?_
  rw [i32_succ]
  refine W.iloadN ok (pc' := 47) d_jdk_52_method_7_46 rfl rfl ?_
  refine W.iloadN ok (pc' := 48) d_jdk_52_method_7_47 rfl rfl ?_
  refine W.icmpge ok (pcY := 83) (pcN := 51) d_jdk_52_method_7_48 rfl (by decide) rfl (fun _ => ?_) (fun q => absurd ((i32_lt (by omega) (by omega)).mpr l2) q)
  refine W.iloadN ok (pc' := 52) d_jdk_52_method_7_51 rfl rfl ?_
  refine W.ifeq ok (pcY := 60) (pcN := 55) d_jdk_52_method_7_52 rfl (by decide) rfl (fun _ => ?_) (fun q => absurd rfl q)
  refine W.aloadN ok (pc' := 61) d_jdk_52_method_7_60 rfl rfl rfl ?_
  refine W.iloadN ok (pc' := 62) d_jdk_52_method_7_61 rfl rfl ?_
  refine W.callS ok (rest := []) (cl' := (true, [])) (pc' := 65) (w158 hw) (w159 hw) (w35 hw) (w160 hw) (by decide) pd_8 rfl (k_getChar l Z a0 hE t (wide cs) (iN + 1) (b8 d) (b8 (d >>> ((8 : Int32) &&& 31))) h A (wide_at cs (iN + 1) d hj).1 (wide_at cs (iN + 1) d hj).2 (by rw [wide_length]; omega)) (fun _ q => (nomatch q)) (fun q => ⟨q, fun _ q => (nomatch q)⟩) rfl rfl (Nat.le_of_ble_eq_true rfl) (Nat.le_of_ble_eq_true rfl) (Nat.le_of_ble_eq_true rfl) (Nat.le_of_ble_eq_true rfl) d_jdk_52_method_7_62 rfl rfl (pureK ?_)
  show W B h 0 0 M (true, []) 65 #[.val (.ref t), .val (.int ((iN + 1).toInt32)), .val (.int cs.length.toInt32), .val (.int (0 : Int32)), .val (.int c), .unset] [(.int (c16 (((b8 d &&& 255) <<< ((0 : Int32) &&& 31)) ||| ((b8 (d >>> ((8 : Int32) &&& 31)) &&& 255) <<< ((8 : Int32) &&& 31)))))]
  rw [pair (hr d (mem_of_at hj))]
  refine W.istore ok (pc' := 67) (L' := #[.val (.ref t), .val (.int ((iN + 1).toInt32)), .val (.int cs.length.toInt32), .val (.int (0 : Int32)), .val (.int c), .val (.int d)]) d_jdk_52_method_7_65 rfl rfl ?_
  refine W.iload ok (pc' := 69) d_jdk_52_method_7_67 rfl rfl ?_
  refine W.callS ok (rest := []) (cl' := (true, [])) (pc' := 72) (w179 hw) (w180 hw) (w105 hw) (w181 hw) (by decide) pd_12 rfl (k_cloY l Z a0 hE d h hd) (fun _ q => (nomatch q)) (fun q => ⟨q, fun _ q => (nomatch q)⟩) rfl rfl (Nat.le_of_ble_eq_true rfl) (Nat.le_of_ble_eq_true rfl) (Nat.le_of_ble_eq_true rfl) (Nat.le_of_ble_eq_true rfl) d_jdk_52_method_7_69 rfl rfl (pureK ?_)
  show W B h 0 0 M (true, []) 72 #[.val (.ref t), .val (.int ((iN + 1).toInt32)), .val (.int cs.length.toInt32), .val (.int (0 : Int32)), .val (.int c), .val (.int d)] [(.int (1 : Int32))]
  refine W.ifeq ok (pcY := 83) (pcN := 75) d_jdk_52_method_7_72 rfl (by decide) rfl (fun q => absurd q (by decide)) (fun _ => ?_)
  refine W.iload ok (pc' := 77) d_jdk_52_method_7_75 rfl rfl ?_
  refine W.iload ok (pc' := 79) d_jdk_52_method_7_77 rfl rfl ?_
  refine W.callS ok (rest := []) (cl' := (true, [])) (pc' := 82) (w183 hw) (w184 hw) (w105 hw) (w185 hw) (by decide) pd_18 rfl (k_tcp l Z a0 hE c d h) (fun _ q => (nomatch q)) (fun q => ⟨q, fun _ q => (nomatch q)⟩) rfl rfl (Nat.le_of_ble_eq_true rfl) (Nat.le_of_ble_eq_true rfl) (Nat.le_of_ble_eq_true rfl) (Nat.le_of_ble_eq_true rfl) d_jdk_52_method_7_79 rfl rfl (pureK ?_)
  show W B h 0 0 M (true, []) 82 #[.val (.ref t), .val (.int ((iN + 1).toInt32)), .val (.int cs.length.toInt32), .val (.int (0 : Int32)), .val (.int c), .val (.int d)] [(.int (tcp c d))]
  exact W.retI ok d_jdk_52_method_7_82 (Nat.le_of_ble_eq_true rfl) (Nat.le_of_ble_eq_true rfl) (fun x (q : x ∈ M) => q) (fun kp => ⟨rfl, rfl⟩)
set_option maxRecDepth 65536 in
set_option maxHeartbeats 4000000 in
theorem k_cpa3_1 (l : Launch) (Z : State) (a0 : Array Value) (hE : Ev Z a0) (t : Addr) (cs : List Int32) (iN : Nat) (c : Int32) (h : Heap) (A : ArI Z h t .byte (wide cs)) (hr : ∀ c ∈ cs, 0 ≤ c.toInt ∧ c.toInt ≤ 65535) (hl : cs.length < 1000000) (hi : cs[iN]? = some c) (hc : ¬ Hi c) : Con l Z false (⟨"java/lang/StringUTF16", "codePointAt", "([BII)I"⟩ : MethodName) jdk_52_method_8_code 3 (some .int) ({ frames := 2, cells := 0, slots := 0, locals := 30 } : Room) [(.ref t), (.int iN.toInt32), (.int cs.length.toInt32)] h [] false (fun M v h' => v = some (.int c) ∧ h' = h) := by
  have hw := hE.1
  refine Con.intro (L0 := #[.val (.ref t), .val (.int iN.toInt32), .val (.int cs.length.toInt32)]) (by decide +kernel) (fun m => ef_of rfl) ?_
  intro B M hwsM ok
  refine W.aloadN ok (pc' := 1) d_jdk_52_method_8_0 rfl rfl rfl ?_
  refine W.iloadN ok (pc' := 2) d_jdk_52_method_8_1 rfl rfl ?_
  refine W.iloadN ok (pc' := 3) d_jdk_52_method_8_2 rfl rfl ?_
  refine W.iconst ok (pc' := 4) (0 : Int32) d_jdk_52_method_8_3 rfl rfl ?_
  refine W.callS ok (rest := []) (cl' := (true, [])) (pc' := 7) (w175 hw) (w176 hw) (w35 hw) (w177 hw) (by decide) pd_13 rfl (k_cpa4_1 l Z a0 hE t cs iN c h A hr hl hi hc) (fun _ q => (nomatch q)) (fun q => ⟨q, fun _ q => (nomatch q)⟩) rfl rfl (Nat.le_of_ble_eq_true rfl) (Nat.le_of_ble_eq_true rfl) (Nat.le_of_ble_eq_true rfl) (Nat.le_of_ble_eq_true rfl) d_jdk_52_method_8_4 rfl rfl (pureK ?_)
  show W B h 0 0 M (true, []) 7 #[.val (.ref t), .val (.int iN.toInt32), .val (.int cs.length.toInt32)] [(.int c)]
  exact W.retI ok d_jdk_52_method_8_7 (Nat.le_of_ble_eq_true rfl) (Nat.le_of_ble_eq_true rfl) (fun x (q : x ∈ M) => q) (fun kp => ⟨rfl, rfl⟩)
set_option maxRecDepth 65536 in
set_option maxHeartbeats 4000000 in
theorem k_cpaS_1 (l : Launch) (Z : State) (a0 : Array Value) (hE : Ev Z a0) (a : Addr) (cs : List Int32) (iN : Nat) (c : Int32) (h : Heap) (S : Str Z h a cs) (hl : cs.length < 1000000) (hi : cs[iN]? = some c) (hc : ¬ Hi c) : Con l Z false (⟨"java/lang/String", "codePointAt", "(I)I"⟩ : MethodName) jdk_42_method_57_code 3 (some .int) ({ frames := 3, cells := 0, slots := 0, locals := 44 } : Room) [(.ref a), (.int iN.toInt32)] h [] false (fun M v h' => v = some (.int c) ∧ h' = h) := by
  have hw := hE.1
  refine Con.intro (L0 := #[.val (.ref a), .val (.int iN.toInt32), .unset]) (by decide +kernel) (fun m => ef_of rfl) ?_
  intro B M hwsM ok
  have S' := S
  obtain ⟨t, cd, bs, X, F1, F2, A, hcc⟩ := S'
  have hr := hcc.rng
  have li := lt_of_at hi
  have m0 : ¬ iN.toInt32 < 0 := i32_nn (by omega)
  rcases hcc with ⟨rfl, rfl, hcc⟩ | ⟨rfl, rfl, hcc, hx⟩
  · have m1 : iN.toInt32 < (cs.map b8).length.toInt32 := by rw [List.length_map, i32_lt (by omega) (by omega)]; exact li
    have e1 : b8 c &&& 255 = c := b8_and (hcc c (mem_of_at hi))
    refine W.aloadN ok (pc' := 1) d_jdk_42_method_57_0 rfl rfl rfl ?_
    refine W.callV ok (rest := []) (cl' := (true, [])) (pc' := 4) (w82 hw) (w83 hw) (w85 hw) (w84 hw) (w21 hw) (w86 hw) (by decide) X pd_16 rfl (k_isLatL l Z a0 hE a h F2) (fun _ q => (nomatch q)) (fun q => ⟨q, fun _ q => (nomatch q)⟩) rfl rfl (Nat.le_of_ble_eq_true rfl) (Nat.le_of_ble_eq_true rfl) (Nat.le_of_ble_eq_true rfl) (Nat.le_of_ble_eq_true rfl) d_jdk_42_method_57_1 rfl rfl (pureK ?_)
    show W B h 0 0 M (true, []) 4 #[.val (.ref a), .val (.int iN.toInt32), .unset] [(.int 1)]
    refine W.ifeq ok (pcY := 27) (pcN := 7) d_jdk_42_method_57_4 rfl (by decide) rfl (fun q => absurd q (by decide)) (fun _ => ?_)
    refine W.iloadN ok (pc' := 8) d_jdk_42_method_57_7 rfl rfl ?_
    refine W.aloadN ok (pc' := 9) d_jdk_42_method_57_8 rfl rfl rfl ?_
    refine W.getF ok (pc' := 12) (w46 hw) Via.refl F1 d_jdk_42_method_57_9 rfl ?_
    refine W.lenI ok (pc' := 13) A ((cs.map b8).length.toInt32) rfl d_jdk_42_method_57_12 rfl ?_
    refine W.callS ok (rest := []) (cl' := (true, [])) (pc' := 16) (w95 hw) (w96 hw) (w21 hw) (w97 hw) (by decide) pd_19 rfl (k_sCheck l Z a0 hE (iN.toInt32) ((cs.map b8).length.toInt32) h m0 m1) (fun _ q => (nomatch q)) (fun q => ⟨q, fun _ q => (nomatch q)⟩) rfl rfl (Nat.le_of_ble_eq_true rfl) (Nat.le_of_ble_eq_true rfl) (Nat.le_of_ble_eq_true rfl) (Nat.le_of_ble_eq_true rfl) d_jdk_42_method_57_13 rfl rfl (pureK0 ?_)
    show W B h 0 0 M (true, []) 16 #[.val (.ref a), .val (.int iN.toInt32), .unset] []
    refine W.aloadN ok (pc' := 17) d_jdk_42_method_57_16 rfl rfl rfl ?_
    refine W.getF ok (pc' := 20) (w46 hw) Via.refl F1 d_jdk_42_method_57_17 rfl ?_
    refine W.iloadN ok (pc' := 21) d_jdk_42_method_57_20 rfl rfl ?_
    refine W.baload ok (pc' := 22) A (b8 c) m0 (by rw [nat_i32 (by omega)]; simp [hi]) d_jdk_42_method_57_21 rfl ?_
    refine W.sipush ok (pc' := 25) (255 : Int32) d_jdk_42_method_57_22 rfl rfl ?_
    refine W.iand ok (pc' := 26) d_jdk_42_method_57_25 rfl ?_
    rw [e1]
    exact W.retI ok d_jdk_42_method_57_26 (Nat.le_of_ble_eq_true rfl) (Nat.le_of_ble_eq_true rfl) (fun x (q : x ∈ M) => q) (fun kp => ⟨rfl, rfl⟩)
  · have e2 : (wide cs).length.toInt32 >>> ((1 : Int32) &&& 31) = cs.length.toInt32 := by rw [wide_length]; exact shr1_nat (by omega)
    refine W.aloadN ok (pc' := 1) d_jdk_42_method_57_0 rfl rfl rfl ?_
    refine W.callV ok (rest := []) (cl' := (true, [])) (pc' := 4) (w82 hw) (w83 hw) (w85 hw) (w84 hw) (w21 hw) (w86 hw) (by decide) X pd_16 rfl (k_isLatW l Z a0 hE a h F2) (fun _ q => (nomatch q)) (fun q => ⟨q, fun _ q => (nomatch q)⟩) rfl rfl (Nat.le_of_ble_eq_true rfl) (Nat.le_of_ble_eq_true rfl) (Nat.le_of_ble_eq_true rfl) (Nat.le_of_ble_eq_true rfl) d_jdk_42_method_57_1 rfl rfl (pureK ?_)
    show W B h 0 0 M (true, []) 4 #[.val (.ref a), .val (.int iN.toInt32), .unset] [(.int 0)]
    refine W.ifeq ok (pcY := 27) (pcN := 7) d_jdk_42_method_57_4 rfl (by decide) rfl (fun _ => ?_) (fun q => absurd rfl q)
    refine W.aloadN ok (pc' := 28) d_jdk_42_method_57_27 rfl rfl rfl ?_
    refine W.getF ok (pc' := 31) (w46 hw) Via.refl F1 d_jdk_42_method_57_28 rfl ?_
    refine W.lenI ok (pc' := 32) A ((wide cs).length.toInt32) rfl d_jdk_42_method_57_31 rfl ?_
    refine W.iconst ok (pc' := 33) (1 : Int32) d_jdk_42_method_57_32 rfl rfl ?_
    refine W.ishr ok (pc' := 34) d_jdk_42_method_57_33 rfl ?_
    rw [e2]
    refine W.istoreN ok (pc' := 35) (L' := #[.val (.ref a), .val (.int iN.toInt32), .val (.int cs.length.toInt32)]) d_jdk_42_method_57_34 rfl rfl ?_
    refine W.iloadN ok (pc' := 36) d_jdk_42_method_57_35 rfl rfl ?_
    refine W.iloadN ok (pc' := 37) d_jdk_42_method_57_36 rfl rfl ?_
    refine W.callS ok (rest := []) (cl' := (true, [])) (pc' := 40) (w95 hw) (w96 hw) (w21 hw) (w97 hw) (by decide) pd_19 rfl (k_sCheck l Z a0 hE (iN.toInt32) cs.length.toInt32 h m0 ((i32_lt (by omega) (by omega)).mpr li)) (fun _ q => (nomatch q)) (fun q => ⟨q, fun _ q => (nomatch q)⟩) rfl rfl (Nat.le_of_ble_eq_true rfl) (Nat.le_of_ble_eq_true rfl) (Nat.le_of_ble_eq_true rfl) (Nat.le_of_ble_eq_true rfl) d_jdk_42_method_57_37 rfl rfl (pureK0 ?_)
    show W B h 0 0 M (true, []) 40 #[.val (.ref a), .val (.int iN.toInt32), .val (.int cs.length.toInt32)] []
    refine W.aloadN ok (pc' := 41) d_jdk_42_method_57_40 rfl rfl rfl ?_
    refine W.getF ok (pc' := 44) (w46 hw) Via.refl F1 d_jdk_42_method_57_41 rfl ?_
    refine W.iloadN ok (pc' := 45) d_jdk_42_method_57_44 rfl rfl ?_
    refine W.iloadN ok (pc' := 46) d_jdk_42_method_57_45 rfl rfl ?_
    refine W.callS ok (rest := []) (cl' := (true, [])) (pc' := 49) (w172 hw) (w173 hw) (w35 hw) (w174 hw) (by decide) pd_17 rfl (k_cpa3_1 l Z a0 hE t cs iN c h A hr hl hi hc) (fun _ q => (nomatch q)) (fun q => ⟨q, fun _ q => (nomatch q)⟩) rfl rfl (Nat.le_of_ble_eq_true rfl) (Nat.le_of_ble_eq_true rfl) (Nat.le_of_ble_eq_true rfl) (Nat.le_of_ble_eq_true rfl) d_jdk_42_method_57_46 rfl rfl (pureK ?_)
    show W B h 0 0 M (true, []) 49 #[.val (.ref a), .val (.int iN.toInt32), .val (.int cs.length.toInt32)] [(.int c)]
    exact W.retI ok d_jdk_42_method_57_49 (Nat.le_of_ble_eq_true rfl) (Nat.le_of_ble_eq_true rfl) (fun x (q : x ∈ M) => q) (fun kp => ⟨rfl, rfl⟩)
set_option maxRecDepth 65536 in
set_option maxHeartbeats 4000000 in
theorem k_cpa3_2 (l : Launch) (Z : State) (a0 : Array Value) (hE : Ev Z a0) (t : Addr) (cs : List Int32) (iN : Nat) (c d : Int32) (h : Heap) (A : ArI Z h t .byte (wide cs)) (hr : ∀ c ∈ cs, 0 ≤ c.toInt ∧ c.toInt ≤ 65535) (hl : cs.length < 1000000) (hi : cs[iN]? = some c) (hj : cs[iN + 1]? = some d) (hc : Hi c) (hd : Lo d) : Con l Z false (⟨"java/lang/StringUTF16", "codePointAt", "([BII)I"⟩ : MethodName) jdk_52_method_8_code 3 (some .int) ({ frames := 2, cells := 0, slots := 0, locals := 30 } : Room) [(.ref t), (.int iN.toInt32), (.int cs.length.toInt32)] h [] false (fun M v h' => v = some (.int (tcp c d)) ∧ h' = h) := by
  have hw := hE.1
  refine Con.intro (L0 := #[.val (.ref t), .val (.int iN.toInt32), .val (.int cs.length.toInt32)]) (by decide +kernel) (fun m => ef_of rfl) ?_
  intro B M hwsM ok
  refine W.aloadN ok (pc' := 1) d_jdk_52_method_8_0 rfl rfl rfl ?_
  refine W.iloadN ok (pc' := 2) d_jdk_52_method_8_1 rfl rfl ?_
  refine W.iloadN ok (pc' := 3) d_jdk_52_method_8_2 rfl rfl ?_
  refine W.iconst ok (pc' := 4) (0 : Int32) d_jdk_52_method_8_3 rfl rfl ?_
  refine W.callS ok (rest := []) (cl' := (true, [])) (pc' := 7) (w175 hw) (w176 hw) (w35 hw) (w177 hw) (by decide) pd_13 rfl (k_cpa4_2 l Z a0 hE t cs iN c d h A hr hl hi hj hc hd) (fun _ q => (nomatch q)) (fun q => ⟨q, fun _ q => (nomatch q)⟩) rfl rfl (Nat.le_of_ble_eq_true rfl) (Nat.le_of_ble_eq_true rfl) (Nat.le_of_ble_eq_true rfl) (Nat.le_of_ble_eq_true rfl) d_jdk_52_method_8_4 rfl rfl (pureK ?_)
  show W B h 0 0 M (true, []) 7 #[.val (.ref t), .val (.int iN.toInt32), .val (.int cs.length.toInt32)] [(.int (tcp c d))]
  exact W.retI ok d_jdk_52_method_8_7 (Nat.le_of_ble_eq_true rfl) (Nat.le_of_ble_eq_true rfl) (fun x (q : x ∈ M) => q) (fun kp => ⟨rfl, rfl⟩)
set_option maxRecDepth 65536 in
set_option maxHeartbeats 4000000 in
theorem k_cpaS_2 (l : Launch) (Z : State) (a0 : Array Value) (hE : Ev Z a0) (a : Addr) (cs : List Int32) (iN : Nat) (c d : Int32) (h : Heap) (S : Str Z h a cs) (hl : cs.length < 1000000) (hi : cs[iN]? = some c) (hj : cs[iN + 1]? = some d) (hc : Hi c) (hd : Lo d) : Con l Z false (⟨"java/lang/String", "codePointAt", "(I)I"⟩ : MethodName) jdk_42_method_57_code 3 (some .int) ({ frames := 3, cells := 0, slots := 0, locals := 44 } : Room) [(.ref a), (.int iN.toInt32)] h [] false (fun M v h' => v = some (.int (tcp c d)) ∧ h' = h) := by
  have hw := hE.1
  refine Con.intro (L0 := #[.val (.ref a), .val (.int iN.toInt32), .unset]) (by decide +kernel) (fun m => ef_of rfl) ?_
  intro B M hwsM ok
  have S' := S
  obtain ⟨t, cd, bs, X, F1, F2, A, hcc⟩ := S'
  have hr := hcc.rng
  have li := lt_of_at hi
  have m0 : ¬ iN.toInt32 < 0 := i32_nn (by omega)
  rcases hcc with ⟨rfl, rfl, hcc⟩ | ⟨rfl, rfl, hcc, hx⟩
  · exact absurd (hcc c (mem_of_at hi)).2 (by omega)
  · have e2 : (wide cs).length.toInt32 >>> ((1 : Int32) &&& 31) = cs.length.toInt32 := by rw [wide_length]; exact shr1_nat (by omega)
    refine W.aloadN ok (pc' := 1) d_jdk_42_method_57_0 rfl rfl rfl ?_
    refine W.callV ok (rest := []) (cl' := (true, [])) (pc' := 4) (w82 hw) (w83 hw) (w85 hw) (w84 hw) (w21 hw) (w86 hw) (by decide) X pd_16 rfl (k_isLatW l Z a0 hE a h F2) (fun _ q => (nomatch q)) (fun q => ⟨q, fun _ q => (nomatch q)⟩) rfl rfl (Nat.le_of_ble_eq_true rfl) (Nat.le_of_ble_eq_true rfl) (Nat.le_of_ble_eq_true rfl) (Nat.le_of_ble_eq_true rfl) d_jdk_42_method_57_1 rfl rfl (pureK ?_)
    show W B h 0 0 M (true, []) 4 #[.val (.ref a), .val (.int iN.toInt32), .unset] [(.int 0)]
    refine W.ifeq ok (pcY := 27) (pcN := 7) d_jdk_42_method_57_4 rfl (by decide) rfl (fun _ => ?_) (fun q => absurd rfl q)
    refine W.aloadN ok (pc' := 28) d_jdk_42_method_57_27 rfl rfl rfl ?_
    refine W.getF ok (pc' := 31) (w46 hw) Via.refl F1 d_jdk_42_method_57_28 rfl ?_
    refine W.lenI ok (pc' := 32) A ((wide cs).length.toInt32) rfl d_jdk_42_method_57_31 rfl ?_
    refine W.iconst ok (pc' := 33) (1 : Int32) d_jdk_42_method_57_32 rfl rfl ?_
    refine W.ishr ok (pc' := 34) d_jdk_42_method_57_33 rfl ?_
    rw [e2]
    refine W.istoreN ok (pc' := 35) (L' := #[.val (.ref a), .val (.int iN.toInt32), .val (.int cs.length.toInt32)]) d_jdk_42_method_57_34 rfl rfl ?_
    refine W.iloadN ok (pc' := 36) d_jdk_42_method_57_35 rfl rfl ?_
    refine W.iloadN ok (pc' := 37) d_jdk_42_method_57_36 rfl rfl ?_
    refine W.callS ok (rest := []) (cl' := (true, [])) (pc' := 40) (w95 hw) (w96 hw) (w21 hw) (w97 hw) (by decide) pd_19 rfl (k_sCheck l Z a0 hE (iN.toInt32) cs.length.toInt32 h m0 ((i32_lt (by omega) (by omega)).mpr li)) (fun _ q => (nomatch q)) (fun q => ⟨q, fun _ q => (nomatch q)⟩) rfl rfl (Nat.le_of_ble_eq_true rfl) (Nat.le_of_ble_eq_true rfl) (Nat.le_of_ble_eq_true rfl) (Nat.le_of_ble_eq_true rfl) d_jdk_42_method_57_37 rfl rfl (pureK0 ?_)
    show W B h 0 0 M (true, []) 40 #[.val (.ref a), .val (.int iN.toInt32), .val (.int cs.length.toInt32)] []
    refine W.aloadN ok (pc' := 41) d_jdk_42_method_57_40 rfl rfl rfl ?_
    refine W.getF ok (pc' := 44) (w46 hw) Via.refl F1 d_jdk_42_method_57_41 rfl ?_
    refine W.iloadN ok (pc' := 45) d_jdk_42_method_57_44 rfl rfl ?_
    refine W.iloadN ok (pc' := 46) d_jdk_42_method_57_45 rfl rfl ?_
    refine W.callS ok (rest := []) (cl' := (true, [])) (pc' := 49) (w172 hw) (w173 hw) (w35 hw) (w174 hw) (by decide) pd_17 rfl (k_cpa3_2 l Z a0 hE t cs iN c d h A hr hl hi hj hc hd) (fun _ q => (nomatch q)) (fun q => ⟨q, fun _ q => (nomatch q)⟩) rfl rfl (Nat.le_of_ble_eq_true rfl) (Nat.le_of_ble_eq_true rfl) (Nat.le_of_ble_eq_true rfl) (Nat.le_of_ble_eq_true rfl) d_jdk_42_method_57_46 rfl rfl (pureK ?_)
    show W B h 0 0 M (true, []) 49 #[.val (.ref a), .val (.int iN.toInt32), .val (.int cs.length.toInt32)] [(.int (tcp c d))]
    exact W.retI ok d_jdk_42_method_57_49 (Nat.le_of_ble_eq_true rfl) (Nat.le_of_ble_eq_true rfl) (fun x (q : x ∈ M) => q) (fun kp => ⟨rfl, rfl⟩)
set_option maxRecDepth 65536 in
set_option maxHeartbeats 4000000 in
theorem k_iou (l : Launch) (Z : State) (a0 : Array Value) (hE : Ev Z a0) (a : Addr) (cs : List Int32) (p : Nat) (h : Heap) (S : Str Z h a cs) (hW : Wf cs p) (hl : cs.length < 1000000) : Con l Z false (⟨"com/example/bounded_lock/boundedlock/LockName", "indexOfUnpairedSurrogate", "(Ljava/lang/String;)I"⟩ : MethodName) prog_1_method_3_code 3 (some .int) ({ frames := 4, cells := 0, slots := 0, locals := 58 } : Room) [(.ref a)] h [] false (fun M v h' => v = some (.int (-1)) ∧ h' = h) := by
  have hw := hE.1
  refine Con.intro (L0 := #[.val (.ref a), .unset, .unset]) (by decide +kernel) (fun m => ef_of rfl) ?_
  intro B M hwsM ok
  have X := S.exa
  refine W.iconst ok (pc' := 1) (0 : Int32) d_prog_1_method_3_0 rfl rfl ?_
  refine W.istoreN ok (pc' := 2) (L' := #[.val (.ref a), .val (.int (0 : Int32)), .unset]) d_prog_1_method_3_1 rfl rfl ?_
  have loop : ∀ (suf : List Int32) (m : Nat), Wf suf m → ∀ (i : Nat) (s2 : Slot), cs.drop i = suf → i ≤ cs.length → One s2 → W B h 0 0 M (true, []) 2 #[.val (.ref a), .val (.int i.toInt32), s2] [] := by
    intro suf m hW
    refine Wf.ind (P := fun suf m => ∀ (i : Nat) (s2 : Slot), cs.drop i = suf → i ≤ cs.length → One s2 → W B h 0 0 M (true, []) 2 #[.val (.ref a), .val (.int i.toInt32), s2] []) ?_ ?_ ?_ suf m hW
    ·
      intro i s2 hd hi h2
      have ei := drop_nil hd hi
      refine W.iloadN ok (pc' := 3) d_prog_1_method_3_2 rfl rfl ?_
      refine W.aloadN ok (pc' := 4) d_prog_1_method_3_3 rfl rfl rfl ?_
      refine W.callV ok (rest := [(.int i.toInt32)]) (cl' := (true, [])) (pc' := 7) (w59 hw) (w60 hw) (w62 hw) (w61 hw) (w21 hw) (w63 hw) (by decide) X pd_14 rfl (k_length l Z a0 hE a cs h S hl) (fun _ q => (nomatch q)) (fun q => ⟨q, fun _ q => (nomatch q)⟩) rfl rfl (Nat.le_of_ble_eq_true rfl) (Nat.le_of_ble_eq_true rfl) (Nat.le_of_ble_eq_true rfl) (Nat.le_of_ble_eq_true rfl) d_prog_1_method_3_4 rfl rfl (pureK ?_)
      show W B h 0 0 M (true, []) 7 #[.val (.ref a), .val (.int i.toInt32), s2] [(.int cs.length.toInt32), (.int i.toInt32)]
      refine W.icmpge ok (pcY := 40) (pcN := 10) d_prog_1_method_3_7 rfl (by decide) rfl (fun q => absurd q (by rw [i32_lt (by omega) (by omega)]; omega)) (fun _ => ?_)
      refine W.iconst ok (pc' := 41) ((-1) : Int32) d_prog_1_method_3_40 rfl rfl ?_
      exact W.retI ok d_prog_1_method_3_41 (Nat.le_of_ble_eq_true rfl) (Nat.le_of_ble_eq_true rfl) (fun x (q : x ∈ M) => q) (fun kp => ⟨rfl, rfl⟩)
    ·
      intro c r n0 a1 a2 a3 ih i s2 hd hi h2
      obtain ⟨d1, d2, d3⟩ := drop_hd hd
      have rc := S.rng c (mem_of_at d1)
      refine W.iloadN ok (pc' := 3) d_prog_1_method_3_2 rfl rfl ?_
      refine W.aloadN ok (pc' := 4) d_prog_1_method_3_3 rfl rfl rfl ?_
      refine W.callV ok (rest := [(.int i.toInt32)]) (cl' := (true, [])) (pc' := 7) (w59 hw) (w60 hw) (w62 hw) (w61 hw) (w21 hw) (w63 hw) (by decide) X pd_14 rfl (k_length l Z a0 hE a cs h S hl) (fun _ q => (nomatch q)) (fun q => ⟨q, fun _ q => (nomatch q)⟩) rfl rfl (Nat.le_of_ble_eq_true rfl) (Nat.le_of_ble_eq_true rfl) (Nat.le_of_ble_eq_true rfl) (Nat.le_of_ble_eq_true rfl) d_prog_1_method_3_4 rfl rfl (pureK ?_)
      show W B h 0 0 M (true, []) 7 #[.val (.ref a), .val (.int i.toInt32), s2] [(.int cs.length.toInt32), (.int i.toInt32)]
      refine W.icmpge ok (pcY := 40) (pcN := 10) d_prog_1_method_3_7 rfl (by decide) rfl (fun _ => ?_) (fun q => absurd ((i32_lt (by omega) (by omega)).mpr (by omega)) q)
      refine W.aloadN ok (pc' := 11) d_prog_1_method_3_10 rfl rfl rfl ?_
      refine W.iloadN ok (pc' := 12) d_prog_1_method_3_11 rfl rfl ?_
      refine W.callV ok (rest := []) (cl' := (true, [])) (pc' := 15) (w90 hw) (w91 hw) (w93 hw) (w92 hw) (w21 hw) (w94 hw) (by decide) X pd_3 rfl (k_cpaS_1 l Z a0 hE a cs i c h S hl d1 a1) (fun _ q => (nomatch q)) (fun q => ⟨q, fun _ q => (nomatch q)⟩) rfl rfl (Nat.le_of_ble_eq_true rfl) (Nat.le_of_ble_eq_true rfl) (Nat.le_of_ble_eq_true rfl) (Nat.le_of_ble_eq_true rfl) d_prog_1_method_3_12 rfl rfl (pureK ?_)
      show W B h 0 0 M (true, []) 15 #[.val (.ref a), .val (.int i.toInt32), s2] [(.int c)]
      refine W.istoreNS ok (pc' := 16) (L' := #[.val (.ref a), .val (.int i.toInt32), .val (.int c)]) d_prog_1_method_3_15 rfl rfl h2 rfl ?_
      refine W.iloadN ok (pc' := 17) d_prog_1_method_3_16 rfl rfl ?_
      refine W.ldcI ok (pc' := 19) (w102 hw) d_prog_1_method_3_17 rfl ?_
      refine W.icmplt ok (pcY := 30) (pcN := 22) d_prog_1_method_3_19 rfl (by decide) rfl (fun c1 => ?_) (fun c1 => ?_)
      · refine W.iloadN ok (pc' := 31) d_prog_1_method_3_30 rfl rfl ?_
        refine W.iloadN ok (pc' := 32) d_prog_1_method_3_31 rfl rfl ?_
        refine W.callS ok (rest := [(.int i.toInt32)]) (cl' := (true, [])) (pc' := 35) (w103 hw) (w104 hw) (w105 hw) (w106 hw) (by decide) pd_3 rfl (k_cc1 l Z a0 hE c h (by omega)) (fun _ q => (nomatch q)) (fun q => ⟨q, fun _ q => (nomatch q)⟩) rfl rfl (Nat.le_of_ble_eq_true rfl) (Nat.le_of_ble_eq_true rfl) (Nat.le_of_ble_eq_true rfl) (Nat.le_of_ble_eq_true rfl) d_prog_1_method_3_32 rfl rfl (pureK ?_)
        show W B h 0 0 M (true, []) 35 #[.val (.ref a), .val (.int i.toInt32), .val (.int c)] [(.int (1 : Int32)), (.int i.toInt32)]
        refine W.iadd ok (pc' := 36) d_prog_1_method_3_35 rfl ?_
        refine W.istoreN ok (pc' := 37) (L' := #[.val (.ref a), .val (.int (i.toInt32 + (1 : Int32))), .val (.int c)]) d_prog_1_method_3_36 rfl rfl ?_
        refine W.goto ok (pc' := 2) d_prog_1_method_3_37 (by decide) rfl ?_
        rw [i32_succ]
        exact ih (i + 1) _ d2 (by omega) (One.val rfl)
      · rw [ltc (n := 55296) rfl] at c1
        refine W.iloadN ok (pc' := 23) d_prog_1_method_3_22 rfl rfl ?_
        refine W.ldcI ok (pc' := 25) (w178 hw) d_prog_1_method_3_23 rfl ?_
        refine W.icmpgt ok (pcY := 30) (pcN := 28) d_prog_1_method_3_25 rfl (by decide) rfl (fun _ => ?_) (fun q => absurd (by rw [gtc (n := 57343) rfl]; omega) q)
        refine W.iloadN ok (pc' := 31) d_prog_1_method_3_30 rfl rfl ?_
        refine W.iloadN ok (pc' := 32) d_prog_1_method_3_31 rfl rfl ?_
        refine W.callS ok (rest := [(.int i.toInt32)]) (cl' := (true, [])) (pc' := 35) (w103 hw) (w104 hw) (w105 hw) (w106 hw) (by decide) pd_3 rfl (k_cc1 l Z a0 hE c h (by omega)) (fun _ q => (nomatch q)) (fun q => ⟨q, fun _ q => (nomatch q)⟩) rfl rfl (Nat.le_of_ble_eq_true rfl) (Nat.le_of_ble_eq_true rfl) (Nat.le_of_ble_eq_true rfl) (Nat.le_of_ble_eq_true rfl) d_prog_1_method_3_32 rfl rfl (pureK ?_)
        show W B h 0 0 M (true, []) 35 #[.val (.ref a), .val (.int i.toInt32), .val (.int c)] [(.int (1 : Int32)), (.int i.toInt32)]
        refine W.iadd ok (pc' := 36) d_prog_1_method_3_35 rfl ?_
        refine W.istoreN ok (pc' := 37) (L' := #[.val (.ref a), .val (.int (i.toInt32 + (1 : Int32))), .val (.int c)]) d_prog_1_method_3_36 rfl rfl ?_
        refine W.goto ok (pc' := 2) d_prog_1_method_3_37 (by decide) rfl ?_
        rw [i32_succ]
        exact ih (i + 1) _ d2 (by omega) (One.val rfl)
    ·
      intro c d r n0 a1 a2 a3 ih i s2 hd hi h2
      obtain ⟨d1, d2, d3⟩ := drop_hd hd
      obtain ⟨g1, g2, g3⟩ := drop_hd d2
      have ge := tcp_ge a1 a2
      refine W.iloadN ok (pc' := 3) d_prog_1_method_3_2 rfl rfl ?_
      refine W.aloadN ok (pc' := 4) d_prog_1_method_3_3 rfl rfl rfl ?_
      refine W.callV ok (rest := [(.int i.toInt32)]) (cl' := (true, [])) (pc' := 7) (w59 hw) (w60 hw) (w62 hw) (w61 hw) (w21 hw) (w63 hw) (by decide) X pd_14 rfl (k_length l Z a0 hE a cs h S hl) (fun _ q => (nomatch q)) (fun q => ⟨q, fun _ q => (nomatch q)⟩) rfl rfl (Nat.le_of_ble_eq_true rfl) (Nat.le_of_ble_eq_true rfl) (Nat.le_of_ble_eq_true rfl) (Nat.le_of_ble_eq_true rfl) d_prog_1_method_3_4 rfl rfl (pureK ?_)
      show W B h 0 0 M (true, []) 7 #[.val (.ref a), .val (.int i.toInt32), s2] [(.int cs.length.toInt32), (.int i.toInt32)]
      refine W.icmpge ok (pcY := 40) (pcN := 10) d_prog_1_method_3_7 rfl (by decide) rfl (fun _ => ?_) (fun q => absurd ((i32_lt (by omega) (by omega)).mpr (by omega)) q)
      refine W.aloadN ok (pc' := 11) d_prog_1_method_3_10 rfl rfl rfl ?_
      refine W.iloadN ok (pc' := 12) d_prog_1_method_3_11 rfl rfl ?_
      refine W.callV ok (rest := []) (cl' := (true, [])) (pc' := 15) (w90 hw) (w91 hw) (w93 hw) (w92 hw) (w21 hw) (w94 hw) (by decide) X pd_3 rfl (k_cpaS_2 l Z a0 hE a cs i c d h S hl d1 g1 a1 a2) (fun _ q => (nomatch q)) (fun q => ⟨q, fun _ q => (nomatch q)⟩) rfl rfl (Nat.le_of_ble_eq_true rfl) (Nat.le_of_ble_eq_true rfl) (Nat.le_of_ble_eq_true rfl) (Nat.le_of_ble_eq_true rfl) d_prog_1_method_3_12 rfl rfl (pureK ?_)
      show W B h 0 0 M (true, []) 15 #[.val (.ref a), .val (.int i.toInt32), s2] [(.int (tcp c d))]
      refine W.istoreNS ok (pc' := 16) (L' := #[.val (.ref a), .val (.int i.toInt32), .val (.int (tcp c d))]) d_prog_1_method_3_15 rfl rfl h2 rfl ?_
      refine W.iloadN ok (pc' := 17) d_prog_1_method_3_16 rfl rfl ?_
      refine W.ldcI ok (pc' := 19) (w102 hw) d_prog_1_method_3_17 rfl ?_
      refine W.icmplt ok (pcY := 30) (pcN := 22) d_prog_1_method_3_19 rfl (by decide) rfl (fun q => absurd q (by rw [ltc (n := 55296) rfl]; omega)) (fun _ => ?_)
      refine W.iloadN ok (pc' := 23) d_prog_1_method_3_22 rfl rfl ?_
      refine W.ldcI ok (pc' := 25) (w178 hw) d_prog_1_method_3_23 rfl ?_
      refine W.icmpgt ok (pcY := 30) (pcN := 28) d_prog_1_method_3_25 rfl (by decide) rfl (fun _ => ?_) (fun q => absurd (by rw [gtc (n := 57343) rfl]; omega) q)
      refine W.iloadN ok (pc' := 31) d_prog_1_method_3_30 rfl rfl ?_
      refine W.iloadN ok (pc' := 32) d_prog_1_method_3_31 rfl rfl ?_
      refine W.callS ok (rest := [(.int i.toInt32)]) (cl' := (true, [])) (pc' := 35) (w103 hw) (w104 hw) (w105 hw) (w106 hw) (by decide) pd_3 rfl (k_cc2 l Z a0 hE (tcp c d) h ge) (fun _ q => (nomatch q)) (fun q => ⟨q, fun _ q => (nomatch q)⟩) rfl rfl (Nat.le_of_ble_eq_true rfl) (Nat.le_of_ble_eq_true rfl) (Nat.le_of_ble_eq_true rfl) (Nat.le_of_ble_eq_true rfl) d_prog_1_method_3_32 rfl rfl (pureK ?_)
      show W B h 0 0 M (true, []) 35 #[.val (.ref a), .val (.int i.toInt32), .val (.int (tcp c d))] [(.int (2 : Int32)), (.int i.toInt32)]
      refine W.iadd ok (pc' := 36) d_prog_1_method_3_35 rfl ?_
      refine W.istoreN ok (pc' := 37) (L' := #[.val (.ref a), .val (.int (i.toInt32 + (2 : Int32))), .val (.int (tcp c d))]) d_prog_1_method_3_36 rfl rfl ?_
      refine W.goto ok (pc' := 2) d_prog_1_method_3_37 (by decide) rfl ?_
      rw [i32_add2]
      exact ih (i + 2) _ g2 (by omega) (One.val rfl)
  exact loop cs p hW 0 .unset rfl (Nat.zero_le _) One.u
set_option maxRecDepth 65536 in
set_option maxHeartbeats 4000000 in
theorem k_lnI (l : Launch) (Z : State) (a0 : Array Value) (hE : Ev Z a0) (a s : Addr) (h : Heap) (X : Exa Z h a "com/example/bounded_lock/boundedlock/LockName") (F : Fld Z h a "com/example/bounded_lock/boundedlock/LockName" "value" "Ljava/lang/String;" .null) : Con l Z false (⟨"com/example/bounded_lock/boundedlock/LockName", "<init>", "(Ljava/lang/String;)V"⟩ : MethodName) prog_1_method_1_code 2 none ({ frames := 1, cells := 0, slots := 0, locals := 12 } : Room) [(.ref a), (.ref s)] h [a] false (fun M v h' => v = none ∧ Fld Z h' a "com/example/bounded_lock/boundedlock/LockName" "value" "Ljava/lang/String;" (.ref s)) := by
  have hw := hE.1
  refine Con.intro (L0 := #[.val (.ref a), .val (.ref s)]) (by decide +kernel) (fun m => ef_of rfl) ?_
  intro B M hwsM ok
  refine W.aloadN ok (pc' := 1) d_prog_1_method_1_0 rfl rfl rfl ?_
  refine W.initO ok (pc' := 4) (w113 hw) (w30 hw) (w31 hw) rfl (Nat.le_of_ble_eq_true rfl) (Nat.le_of_ble_eq_true rfl) d_prog_1_method_1_1 rfl ?_
  refine W.aloadN ok (pc' := 5) d_prog_1_method_1_4 rfl rfl rfl ?_
  refine W.aloadN ok (pc' := 6) d_prog_1_method_1_5 rfl rfl rfl ?_
  refine W.putF ok (pc' := 9) (cl' := (false, [])) (w114 hw) Via.refl F X (Or.inr ⟨(w115 hw), rfl, rfl⟩) (w109 hw) (ty := (.object "java/lang/String")) (by decide) rfl rfl (hwsM _ (List.mem_of_getElem? (i := 0) rfl)) (Or.inl (List.mem_of_getElem? (i := 0) rfl)) (fun q => by cases q) rfl d_prog_1_method_1_6 rfl (fun h1 W2 => ?_)
  exact W.retV ok d_prog_1_method_1_9 (Nat.le_of_ble_eq_true rfl) (Nat.le_of_ble_eq_true rfl) (fun x (q : x ∈ M) => q) (fun kp => ⟨rfl, F.same W2⟩)
set_option maxRecDepth 65536 in
set_option maxHeartbeats 4000000 in
theorem k_val (l : Launch) (Z : State) (a0 : Array Value) (hE : Ev Z a0) (a s : Addr) (h : Heap) (F : Fld Z h a "com/example/bounded_lock/boundedlock/LockName" "value" "Ljava/lang/String;" (.ref s)) : Con l Z false (⟨"com/example/bounded_lock/boundedlock/LockName", "value", "()Ljava/lang/String;"⟩ : MethodName) prog_1_method_4_code 1 (some (.object "java/lang/String")) ({ frames := 0, cells := 0, slots := 0, locals := 0 } : Room) [(.ref a)] h [] false (fun M v h' => v = some (.ref s) ∧ h' = h) := by
  have hw := hE.1
  refine Con.intro (L0 := #[.val (.ref a)]) (by decide +kernel) (fun m => ef_of rfl) ?_
  intro B M hwsM ok
  refine W.aloadN ok (pc' := 1) d_prog_1_method_4_0 rfl rfl rfl ?_
  refine W.getF ok (pc' := 4) (w114 hw) Via.refl F d_prog_1_method_4_1 rfl ?_
  exact W.retA ok d_prog_1_method_4_4 rfl rfl (Nat.le_of_ble_eq_true rfl) (Nat.le_of_ble_eq_true rfl) (fun x (q : x ∈ M) => q) (fun kp => ⟨rfl, rfl⟩)
set_option maxRecDepth 65536 in
set_option maxHeartbeats 4000000 in
theorem k_lnE (l : Launch) (Z : State) (a0 : Array Value) (hE : Ev Z a0) (a b s t : Addr) (cs : List Int32) (h : Heap) (X2 : Exa Z h b "com/example/bounded_lock/boundedlock/LockName") (F : Fld Z h a "com/example/bounded_lock/boundedlock/LockName" "value" "Ljava/lang/String;" (.ref s)) (F2 : Fld Z h b "com/example/bounded_lock/boundedlock/LockName" "value" "Ljava/lang/String;" (.ref t)) (S : Str Z h s cs) (T : Str Z h t cs) (hl : cs.length < 1000000) : Con l Z false (⟨"com/example/bounded_lock/boundedlock/LockName", "equals", "(Ljava/lang/Object;)Z"⟩ : MethodName) prog_1_method_5_code 3 (some .boolean) ({ frames := 2, cells := 0, slots := 0, locals := 28 } : Room) [(.ref a), (.ref b)] h [] false (fun M v h' => v = some (.int 1) ∧ h' = h) := by
  have hw := hE.1
  refine Con.intro (L0 := #[.val (.ref a), .val (.ref b), .unset]) (by decide +kernel) (fun m => ef_of rfl) ?_
  intro B M hwsM ok
  refine W.aloadN ok (pc' := 1) d_prog_1_method_5_0 rfl rfl rfl ?_
  refine W.instY ok (pc' := 4) (w108 hw) (Ins.self X2) d_prog_1_method_5_1 rfl ?_
  refine W.ifeq ok (pcY := 30) (pcN := 7) d_prog_1_method_5_4 rfl (by decide) rfl (fun q => absurd q (by decide)) (fun _ => ?_)
  refine W.aloadN ok (pc' := 8) d_prog_1_method_5_7 rfl rfl rfl ?_
  refine W.cast ok (pc' := 11) (w108 hw) (Ins.self X2) d_prog_1_method_5_8 rfl ?_
  refine W.astoreN ok (pc' := 12) (L' := #[.val (.ref a), .val (.ref b), .val (.ref b)]) d_prog_1_method_5_11 rfl rfl rfl ?_
  refine W.aloadN ok (pc' := 13) d_prog_1_method_5_12 rfl rfl rfl ?_
  refine W.getF ok (pc' := 16) (w114 hw) Via.refl F d_prog_1_method_5_13 rfl ?_
  refine W.aloadN ok (pc' := 17) d_prog_1_method_5_16 rfl rfl rfl ?_
  refine W.getF ok (pc' := 20) (w114 hw) Via.refl F2 d_prog_1_method_5_17 rfl ?_
  refine W.callV ok (rest := []) (cl' := (true, [])) (pc' := 23) (w138 hw) (w122 hw) (w124 hw) (w123 hw) (w21 hw) (w125 hw) (by decide) S.exa pd_20 rfl (k_eqS l Z a0 hE s t cs cs h S T hl hl) (fun _ q => (nomatch q)) (fun q => ⟨q, fun _ q => (nomatch q)⟩) rfl rfl (Nat.le_of_ble_eq_true rfl) (Nat.le_of_ble_eq_true rfl) (Nat.le_of_ble_eq_true rfl) (Nat.le_of_ble_eq_true rfl) d_prog_1_method_5_20 rfl rfl (pureK ?_)
  show W B h 0 0 M (true, []) 23 #[.val (.ref a), .val (.ref b), .val (.ref b)] [(.int (if cs = cs then 1 else 0))]
  rw [if_pos rfl]
  refine W.ifeq ok (pcY := 30) (pcN := 26) d_prog_1_method_5_23 rfl (by decide) rfl (fun q => absurd q (by decide)) (fun _ => ?_)
  refine W.iconst ok (pc' := 27) (1 : Int32) d_prog_1_method_5_26 rfl rfl ?_
  refine W.goto ok (pc' := 31) d_prog_1_method_5_27 (by decide) rfl ?_
  exact W.retZ ok d_prog_1_method_5_31 rfl (Nat.le_of_ble_eq_true rfl) (Nat.le_of_ble_eq_true rfl) (fun x (q : x ∈ M) => q) (fun kp => ⟨rfl, rfl⟩)
set_option maxRecDepth 65536 in
set_option maxHeartbeats 4000000 in
theorem k_of (l : Launch) (Z : State) (a0 : Array Value) (hE : Ev Z a0) (a : Addr) (cs : List Int32) (p : Nat) (h : Heap) (S : Str Z h a cs) (hW : Wf cs p) (h1 : 1 ≤ p) (h2 : p ≤ 200) (hl : cs.length < 1000000) : Con l Z false (⟨"com/example/bounded_lock/boundedlock/LockName", "of", "(Ljava/lang/String;)Lcom/example/bounded_lock/boundedlock/LockName;"⟩ : MethodName) prog_1_method_2_code 3 (some (.object "com/example/bounded_lock/boundedlock/LockName")) ({ frames := 5, cells := 3, slots := 21, locals := 72 } : Room) [(.ref a)] h [] false (fun M v h' => ∃ r, v = some (.ref r) ∧ h.size ≤ r ∧ Exa Z h' r "com/example/bounded_lock/boundedlock/LockName" ∧ Fld Z h' r "com/example/bounded_lock/boundedlock/LockName" "value" "Ljava/lang/String;" (.ref a)) := by
  have hw := hE.1
  refine Con.intro (L0 := #[.val (.ref a), .unset, .unset]) (by decide +kernel) (fun m => ef_of rfl) ?_
  intro B M hwsM ok
  have hne : 1 ≤ cs.length := by have := hW.le; omega
  refine W.aloadN ok (pc' := 1) d_prog_1_method_2_0 rfl rfl rfl ?_
  refine W.ldcU ok (pc' := 3) rfl (text := "name") (sz := 16) (w52 hw) (fun d hd => hw d ((by decide +kernel : ∀ d ∈ Bundle.stringAtoms, d ∈ tables_1) d hd)) (by decide) (Or.inl rfl) (by decide) (by decide) d_prog_1_method_2_1 rfl (Nat.le_of_ble_eq_true rfl) (Nat.le_of_ble_eq_true rfl) (fun a1 h2 E3 => ?_)
  refine W.callS ok (rest := []) (cl' := (true, ("com/example/bounded_lock/boundedlock/LockName", 13) :: [])) (pc' := 6) (w55 hw) (w56 hw) (w57 hw) (w58 hw) (by decide) pd_21 rfl (k_rnn l Z a0 hE a a1 h2) (fun _ q => (nomatch q)) (fun q => ⟨q, fun _ q => (nomatch q)⟩) rfl rfl (Nat.le_of_ble_eq_true rfl) (Nat.le_of_ble_eq_true rfl) (Nat.le_of_ble_eq_true rfl) (Nat.le_of_ble_eq_true rfl) d_prog_1_method_2_3 rfl rfl (pureK ?_)
  show W B h2 2 20 M (true, ("com/example/bounded_lock/boundedlock/LockName", 13) :: []) 6 #[.val (.ref a), .unset, .unset] [(.ref a)]
  have T := S.ext E3
  have X := T.exa
  refine W.pop1 ok (pc' := 7) d_prog_1_method_2_6 rfl rfl ?_
  refine W.aloadN ok (pc' := 8) d_prog_1_method_2_7 rfl rfl rfl ?_
  refine W.iconst ok (pc' := 9) (0 : Int32) d_prog_1_method_2_8 rfl rfl ?_
  refine W.aloadN ok (pc' := 10) d_prog_1_method_2_9 rfl rfl rfl ?_
  refine W.callV ok (rest := [(.int (0 : Int32)), (.ref a)]) (cl' := (true, ("com/example/bounded_lock/boundedlock/LockName", 13) :: [])) (pc' := 13) (w59 hw) (w60 hw) (w62 hw) (w61 hw) (w21 hw) (w63 hw) (by decide) X pd_14 rfl (k_length l Z a0 hE a cs h2 T hl) (fun _ q => (nomatch q)) (fun q => ⟨q, fun _ q => (nomatch q)⟩) rfl rfl (Nat.le_of_ble_eq_true rfl) (Nat.le_of_ble_eq_true rfl) (Nat.le_of_ble_eq_true rfl) (Nat.le_of_ble_eq_true rfl) d_prog_1_method_2_10 rfl rfl (pureK ?_)
  show W B h2 2 20 M (true, ("com/example/bounded_lock/boundedlock/LockName", 13) :: []) 13 #[.val (.ref a), .unset, .unset] [(.int cs.length.toInt32), (.int (0 : Int32)), (.ref a)]
  refine W.callV ok (rest := []) (cl' := (true, ("com/example/bounded_lock/boundedlock/LockName", 13) :: [])) (pc' := 16) (w69 hw) (w70 hw) (w72 hw) (w71 hw) (w21 hw) (w73 hw) (by decide) X pd_22 rfl (k_cpcS l Z a0 hE a cs p h2 T hW hne hl) (fun _ q => (nomatch q)) (fun q => ⟨q, fun _ q => (nomatch q)⟩) rfl rfl (Nat.le_of_ble_eq_true rfl) (Nat.le_of_ble_eq_true rfl) (Nat.le_of_ble_eq_true rfl) (Nat.le_of_ble_eq_true rfl) d_prog_1_method_2_13 rfl rfl (pureK ?_)
  show W B h2 2 20 M (true, ("com/example/bounded_lock/boundedlock/LockName", 13) :: []) 16 #[.val (.ref a), .unset, .unset] [(.int p.toInt32)]
  refine W.istoreN ok (pc' := 17) (L' := #[.val (.ref a), .val (.int p.toInt32), .unset]) d_prog_1_method_2_16 rfl rfl ?_
  refine W.iloadN ok (pc' := 18) d_prog_1_method_2_17 rfl rfl ?_
  refine W.iconst ok (pc' := 19) (1 : Int32) d_prog_1_method_2_18 rfl rfl ?_
  refine W.icmplt ok (pcY := 29) (pcN := 22) d_prog_1_method_2_19 rfl (by decide) rfl (fun q => absurd q (by rw [show (1 : Int32) = (1 : Nat).toInt32 from rfl, i32_lt (by omega) (by omega)]; omega)) (fun _ => ?_)
  refine W.iloadN ok (pc' := 23) d_prog_1_method_2_22 rfl rfl ?_
  refine W.sipush ok (pc' := 26) (200 : Int32) d_prog_1_method_2_23 rfl rfl ?_
  refine W.icmple ok (pcY := 43) (pcN := 29) d_prog_1_method_2_26 rfl (by decide) rfl (fun q => absurd q (by rw [show (200 : Int32) = (200 : Nat).toInt32 from rfl, i32_lt (by omega) (by omega)]; omega)) (fun _ => ?_)
  refine W.aloadN ok (pc' := 44) d_prog_1_method_2_43 rfl rfl rfl ?_
  refine W.callS ok (rest := []) (cl' := (true, ("com/example/bounded_lock/boundedlock/LockName", 13) :: [])) (pc' := 47) (w87 hw) (w88 hw) (w50 hw) (w89 hw) (by decide) pd_23 rfl (k_iou l Z a0 hE a cs p h2 T hW hl) (fun _ q => (nomatch q)) (fun q => ⟨q, fun _ q => (nomatch q)⟩) rfl rfl (Nat.le_of_ble_eq_true rfl) (Nat.le_of_ble_eq_true rfl) (Nat.le_of_ble_eq_true rfl) (Nat.le_of_ble_eq_true rfl) d_prog_1_method_2_44 rfl rfl (pureK ?_)
  show W B h2 2 20 M (true, ("com/example/bounded_lock/boundedlock/LockName", 13) :: []) 47 #[.val (.ref a), .val (.int p.toInt32), .unset] [(.int (-1))]
  refine W.istoreN ok (pc' := 48) (L' := #[.val (.ref a), .val (.int p.toInt32), .val (.int (-1))]) d_prog_1_method_2_47 rfl rfl ?_
  refine W.iloadN ok (pc' := 49) d_prog_1_method_2_48 rfl rfl ?_
  refine W.iflt ok (pcY := 66) (pcN := 52) d_prog_1_method_2_49 rfl (by decide) rfl (fun _ => ?_) (fun q => absurd (by decide) q)
  refine W.new ok (pc' := 69) (w108 hw) (w109 hw) (w50 hw) d_prog_1_method_2_66 rfl (Nat.le_of_ble_eq_true rfl) (Nat.le_of_ble_eq_true rfl) (fun a4 h5 z6 ea7 E8 X9 D10 U11 => ?_)
  refine W.dup ok (pc' := 70) d_prog_1_method_2_69 rfl rfl ?_
  refine W.aloadN ok (pc' := 71) d_prog_1_method_2_70 rfl rfl rfl ?_
  refine W.callI ok (rest := [(.ref a4)]) (cl' := (true, ("com/example/bounded_lock/boundedlock/LockName", 13) :: [])) (pc' := 74) rfl (w110 hw) (w111 hw) (w50 hw) (w112 hw) (by decide) pd_24 rfl (k_lnI l Z a0 hE a4 a h5 X9 (D10 (Or.inr (w115 hw)) (ty := (.object "java/lang/String")) (by decide))) (fun w q => by simp only [List.mem_cons, List.not_mem_nil, or_false] at q; subst q; exact ⟨(List.mem_cons_self ..), (Or.inr z6)⟩) (fun q => ⟨q, fun w q => by simp only [List.mem_cons, List.not_mem_nil, or_false] at q; subst q; exact z6⟩) rfl rfl (Nat.le_of_ble_eq_true rfl) (Nat.le_of_ble_eq_true rfl) (Nat.le_of_ble_eq_true rfl) (Nat.le_of_ble_eq_true rfl) d_prog_1_method_2_71 rfl rfl (oldK fun v h12 hq K13 => ?_)
  obtain ⟨rfl, F⟩ := hq
  show W B h12 3 21 (a4 :: M) (true, ("com/example/bounded_lock/boundedlock/LockName", 13) :: []) 74 #[.val (.ref a), .val (.int p.toInt32), .val (.int (-1))] [(.ref a4)]
  have le1 := E3.1
  exact W.retA ok d_prog_1_method_2_74 rfl rfl (Nat.le_of_ble_eq_true rfl) (Nat.le_of_ble_eq_true rfl) (fun x (q : x ∈ M) => (List.mem_cons_of_mem _ q)) (fun kp => ⟨a4, rfl, by omega, X9.keep K13, F⟩)
set_option maxRecDepth 65536 in
set_option maxHeartbeats 4000000 in
theorem k_draw (l : Launch) (Z : State) (a0 : Array Value) (hE : Ev Z a0) (p : Int32) (h : Heap)  : Con l Z false (⟨"com/example/bounded_lock/boundedlock/LockNameOfPinLaw", "draw", "(I)C"⟩ : MethodName) method_2_code 3 (some .char) ({ frames := 0, cells := 0, slots := 0, locals := 0 } : Room) [(.int p)] h [] false (fun M v h' => v = some (.int (dr p)) ∧ h' = h) := by
  have hw := hE.1
  refine Con.intro (L0 := #[.val (.int p), .unset, .unset]) (by decide +kernel) (fun m => ef_of rfl) ?_
  intro B M hwsM ok
  refine W.iloadN ok (pc' := 1) d_method_2_0 rfl rfl ?_
  refine W.bipush ok (pc' := 3) (7 : Int32) d_method_2_1 rfl rfl ?_
  refine W.iand ok (pc' := 4) d_method_2_3 rfl ?_
  refine W.istoreN ok (pc' := 5) (L' := #[.val (.int p), .val (.int (p &&& (7 : Int32))), .unset]) d_method_2_4 rfl rfl ?_
  refine W.iloadN ok (pc' := 6) d_method_2_5 rfl rfl ?_
  refine W.iconst ok (pc' := 7) (3 : Int32) d_method_2_6 rfl rfl ?_
  refine W.iushr ok (pc' := 8) d_method_2_7 rfl ?_
  refine W.istoreN ok (pc' := 9) (L' := #[.val (.int p), .val (.int (p &&& (7 : Int32))), .val (.int (XT.ushr p (3 : Int32)))]) d_method_2_8 rfl rfl ?_
  refine W.iloadN ok (pc' := 10) d_method_2_9 rfl rfl ?_
  refine W.iconst ok (pc' := 11) (4 : Int32) d_method_2_10 rfl rfl ?_
  refine W.icmpge ok (pcY := 21) (pcN := 14) d_method_2_11 rfl (by decide) rfl (fun c1 => ?_) (fun c1 => ?_)
  · refine W.iloadN ok (pc' := 15) d_method_2_14 rfl rfl ?_
    refine W.sipush ok (pc' := 18) (255 : Int32) d_method_2_15 rfl rfl ?_
    refine W.iand ok (pc' := 19) d_method_2_18 rfl ?_
    refine W.i2c ok (pc' := 20) d_method_2_19 rfl ?_
    exact W.retC ok d_method_2_20 (c16_c16 _) (Nat.le_of_ble_eq_true rfl) (Nat.le_of_ble_eq_true rfl) (fun x (q : x ∈ M) => q) (fun kp => ⟨by rw [dr, if_pos c1], rfl⟩)
  · refine W.iloadN ok (pc' := 22) d_method_2_21 rfl rfl ?_
    refine W.iconst ok (pc' := 23) (4 : Int32) d_method_2_22 rfl rfl ?_
    refine W.icmpne ok (pcY := 36) (pcN := 26) d_method_2_23 rfl (by decide) rfl (fun c2 => ?_) (fun c2 => ?_)
    · refine W.ldcI ok (pc' := 28) (w11 hw) d_method_2_26 rfl ?_
      refine W.iloadN ok (pc' := 29) d_method_2_28 rfl rfl ?_
      refine W.sipush ok (pc' := 32) (1023 : Int32) d_method_2_29 rfl rfl ?_
      refine W.iand ok (pc' := 33) d_method_2_32 rfl ?_
      refine W.iadd ok (pc' := 34) d_method_2_33 rfl ?_
      refine W.i2c ok (pc' := 35) d_method_2_34 rfl ?_
      exact W.retC ok d_method_2_35 (c16_c16 _) (Nat.le_of_ble_eq_true rfl) (Nat.le_of_ble_eq_true rfl) (fun x (q : x ∈ M) => q) (fun kp => ⟨by rw [dr, if_neg c1, if_pos c2], rfl⟩)
    · refine W.iloadN ok (pc' := 37) d_method_2_36 rfl rfl ?_
      refine W.iconst ok (pc' := 38) (5 : Int32) d_method_2_37 rfl rfl ?_
      refine W.icmpne ok (pcY := 51) (pcN := 41) d_method_2_38 rfl (by decide) rfl (fun c3 => ?_) (fun c3 => ?_)
      · refine W.ldcI ok (pc' := 43) (w15 hw) d_method_2_41 rfl ?_
        refine W.iloadN ok (pc' := 44) d_method_2_43 rfl rfl ?_
        refine W.sipush ok (pc' := 47) (1023 : Int32) d_method_2_44 rfl rfl ?_
        refine W.iand ok (pc' := 48) d_method_2_47 rfl ?_
        refine W.iadd ok (pc' := 49) d_method_2_48 rfl ?_
        refine W.i2c ok (pc' := 50) d_method_2_49 rfl ?_
        exact W.retC ok d_method_2_50 (c16_c16 _) (Nat.le_of_ble_eq_true rfl) (Nat.le_of_ble_eq_true rfl) (fun x (q : x ∈ M) => q) (fun kp => ⟨by rw [dr, if_neg c1, if_neg c2, if_pos c3], rfl⟩)
      · refine W.iloadN ok (pc' := 52) d_method_2_51 rfl rfl ?_
        refine W.ldcI ok (pc' := 54) (w139 hw) d_method_2_52 rfl ?_
        refine W.iand ok (pc' := 55) d_method_2_54 rfl ?_
        refine W.i2c ok (pc' := 56) d_method_2_55 rfl ?_
        exact W.retC ok d_method_2_56 (c16_c16 _) (Nat.le_of_ble_eq_true rfl) (Nat.le_of_ble_eq_true rfl) (fun x (q : x ∈ M) => q) (fun kp => ⟨by rw [dr, if_neg c1, if_neg c2, if_neg c3], rfl⟩)
set_option maxRecDepth 65536 in
set_option maxHeartbeats 4000000 in
theorem k_okAt (l : Launch) (Z : State) (a0 : Array Value) (hE : Ev Z a0) (ch : Addr) (xs : List Int32) (i n : Nat) (h : Heap) (A : ArI Z h ch .char xs) (hn : n ≤ xs.length) (hxl : xs.length < 1000) (hi : i < 1000) : Con l Z false (⟨"com/example/bounded_lock/boundedlock/LockNameOfPinLaw", "okAt", "([CII)Z"⟩ : MethodName) method_5_code 3 (some .boolean) ({ frames := 1, cells := 0, slots := 0, locals := 12 } : Room) [(.ref ch), (.int i.toInt32), (.int n.toInt32)] h [] false (fun M v h' => v = some (.int 0) ∨ (v = some (.int 1) ∧ OkA xs i n)) := by
  have hw := hE.1
  refine Con.intro (L0 := #[.val (.ref ch), .val (.int i.toInt32), .val (.int n.toInt32)]) (by decide +kernel) (fun m => ef_of rfl) ?_
  intro B M hwsM ok
  refine W.iloadN ok (pc' := 1) d_method_5_0 rfl rfl ?_
  refine W.iloadN ok (pc' := 2) d_method_5_1 rfl rfl ?_
  refine W.icmplt ok (pcY := 7) (pcN := 5) d_method_5_2 rfl (by decide) rfl (fun c0 => ?_) (fun c0 => ?_)
  · have c0' : i < n := (i32_lt (by omega) (by omega)).mp c0
    obtain ⟨x, hx⟩ := at_lt (cs := xs) (i := i) (by omega)
    refine W.aloadN ok (pc' := 8) d_method_5_7 rfl rfl rfl ?_
    refine W.iloadN ok (pc' := 9) d_method_5_8 rfl rfl ?_
    refine W.caload ok (pc' := 10) A x (i32_nn (by omega)) (by rw [nat_i32 (by omega)]; exact hx) d_method_5_9 rfl ?_
    by_cases hX : Hi x
    · refine W.callS ok (rest := []) (cl' := (true, [])) (pc' := 13) (w8 hw) (w9 hw) (w3 hw) (w10 hw) (by decide) pd_12 rfl (k_hiY l Z a0 hE x h hX) (fun _ q => (nomatch q)) (fun q => ⟨q, fun _ q => (nomatch q)⟩) rfl rfl (Nat.le_of_ble_eq_true rfl) (Nat.le_of_ble_eq_true rfl) (Nat.le_of_ble_eq_true rfl) (Nat.le_of_ble_eq_true rfl) d_method_5_10 rfl rfl (pureK ?_)
      show W B h 0 0 M (true, []) 13 #[.val (.ref ch), .val (.int i.toInt32), .val (.int n.toInt32)] [(.int (1 : Int32))]
      refine W.ifeq ok (pcY := 40) (pcN := 16) d_method_5_13 rfl (by decide) rfl (fun q => absurd q (by decide)) (fun _ => ?_)
      refine W.iloadN ok (pc' := 17) d_method_5_16 rfl rfl ?_
      refine W.iconst ok (pc' := 18) (1 : Int32) d_method_5_17 rfl rfl ?_
      refine W.iadd ok (pc' := 19) d_method_5_18 rfl ?_
      rw [i32_succ]
      refine W.iloadN ok (pc' := 20) d_method_5_19 rfl rfl ?_
      refine W.icmpge ok (pcY := 38) (pcN := 23) d_method_5_20 rfl (by decide) rfl (fun c1 => ?_) (fun c1 => ?_)
      · have c1' : i + 1 < n := (i32_lt (by omega) (by omega)).mp c1
        obtain ⟨y, hy⟩ := at_lt (cs := xs) (i := i + 1) (by omega)
        refine W.aloadN ok (pc' := 24) d_method_5_23 rfl rfl rfl ?_
        refine W.iloadN ok (pc' := 25) d_method_5_24 rfl rfl ?_
        refine W.iconst ok (pc' := 26) (1 : Int32) d_method_5_25 rfl rfl ?_
        refine W.iadd ok (pc' := 27) d_method_5_26 rfl ?_
        rw [i32_succ]
        refine W.caload ok (pc' := 28) A y (i32_nn (by omega)) (by rw [nat_i32 (by omega)]; exact hy) d_method_5_27 rfl ?_
        by_cases hY : Lo y
        · refine W.callS ok (rest := []) (cl' := (true, [])) (pc' := 31) (w12 hw) (w13 hw) (w3 hw) (w14 hw) (by decide) pd_12 rfl (k_loY l Z a0 hE y h hY) (fun _ q => (nomatch q)) (fun q => ⟨q, fun _ q => (nomatch q)⟩) rfl rfl (Nat.le_of_ble_eq_true rfl) (Nat.le_of_ble_eq_true rfl) (Nat.le_of_ble_eq_true rfl) (Nat.le_of_ble_eq_true rfl) d_method_5_28 rfl rfl (pureK ?_)
          show W B h 0 0 M (true, []) 31 #[.val (.ref ch), .val (.int i.toInt32), .val (.int n.toInt32)] [(.int (1 : Int32))]
          refine W.ifeq ok (pcY := 38) (pcN := 34) d_method_5_31 rfl (by decide) rfl (fun q => absurd q (by decide)) (fun _ => ?_)
          refine W.iconst ok (pc' := 35) (1 : Int32) d_method_5_34 rfl rfl ?_
          refine W.goto ok (pc' := 39) d_method_5_35 (by decide) rfl ?_
          exact W.retZ ok d_method_5_39 rfl (Nat.le_of_ble_eq_true rfl) (Nat.le_of_ble_eq_true rfl) (fun x (q : x ∈ M) => q) (fun kp => Or.inr ⟨rfl, fun _ x' hx' => by cases hx.symm.trans hx'; exact ⟨fun _ => ⟨c1', y, hy, hY⟩, fun q => by omega⟩⟩)
        · refine W.callS ok (rest := []) (cl' := (true, [])) (pc' := 31) (w12 hw) (w13 hw) (w3 hw) (w14 hw) (by decide) pd_12 rfl (k_loN l Z a0 hE y h hY) (fun _ q => (nomatch q)) (fun q => ⟨q, fun _ q => (nomatch q)⟩) rfl rfl (Nat.le_of_ble_eq_true rfl) (Nat.le_of_ble_eq_true rfl) (Nat.le_of_ble_eq_true rfl) (Nat.le_of_ble_eq_true rfl) d_method_5_28 rfl rfl (pureK ?_)
          show W B h 0 0 M (true, []) 31 #[.val (.ref ch), .val (.int i.toInt32), .val (.int n.toInt32)] [(.int (0 : Int32))]
          refine W.ifeq ok (pcY := 38) (pcN := 34) d_method_5_31 rfl (by decide) rfl (fun _ => ?_) (fun q => absurd rfl q)
          refine W.iconst ok (pc' := 39) (0 : Int32) d_method_5_38 rfl rfl ?_
          exact W.retZ ok d_method_5_39 rfl (Nat.le_of_ble_eq_true rfl) (Nat.le_of_ble_eq_true rfl) (fun x (q : x ∈ M) => q) (fun kp => Or.inl rfl)
      · refine W.iconst ok (pc' := 39) (0 : Int32) d_method_5_38 rfl rfl ?_
        exact W.retZ ok d_method_5_39 rfl (Nat.le_of_ble_eq_true rfl) (Nat.le_of_ble_eq_true rfl) (fun x (q : x ∈ M) => q) (fun kp => Or.inl rfl)
    · refine W.callS ok (rest := []) (cl' := (true, [])) (pc' := 13) (w8 hw) (w9 hw) (w3 hw) (w10 hw) (by decide) pd_12 rfl (k_hiN l Z a0 hE x h hX) (fun _ q => (nomatch q)) (fun q => ⟨q, fun _ q => (nomatch q)⟩) rfl rfl (Nat.le_of_ble_eq_true rfl) (Nat.le_of_ble_eq_true rfl) (Nat.le_of_ble_eq_true rfl) (Nat.le_of_ble_eq_true rfl) d_method_5_10 rfl rfl (pureK ?_)
      show W B h 0 0 M (true, []) 13 #[.val (.ref ch), .val (.int i.toInt32), .val (.int n.toInt32)] [(.int (0 : Int32))]
      refine W.ifeq ok (pcY := 40) (pcN := 16) d_method_5_13 rfl (by decide) rfl (fun _ => ?_) (fun q => absurd rfl q)
      refine W.aloadN ok (pc' := 41) d_method_5_40 rfl rfl rfl ?_
      refine W.iloadN ok (pc' := 42) d_method_5_41 rfl rfl ?_
      refine W.caload ok (pc' := 43) A x (i32_nn (by omega)) (by rw [nat_i32 (by omega)]; exact hx) d_method_5_42 rfl ?_
      by_cases hL : Lo x
      · refine W.callS ok (rest := []) (cl' := (true, [])) (pc' := 46) (w12 hw) (w13 hw) (w3 hw) (w14 hw) (by decide) pd_12 rfl (k_loY l Z a0 hE x h hL) (fun _ q => (nomatch q)) (fun q => ⟨q, fun _ q => (nomatch q)⟩) rfl rfl (Nat.le_of_ble_eq_true rfl) (Nat.le_of_ble_eq_true rfl) (Nat.le_of_ble_eq_true rfl) (Nat.le_of_ble_eq_true rfl) d_method_5_43 rfl rfl (pureK ?_)
        show W B h 0 0 M (true, []) 46 #[.val (.ref ch), .val (.int i.toInt32), .val (.int n.toInt32)] [(.int (1 : Int32))]
        refine W.ifeq ok (pcY := 70) (pcN := 49) d_method_5_46 rfl (by decide) rfl (fun q => absurd q (by decide)) (fun _ => ?_)
        refine W.iloadN ok (pc' := 50) d_method_5_49 rfl rfl ?_
        refine W.ifle ok (pcY := 68) (pcN := 53) d_method_5_50 rfl (by decide) rfl (fun c2 => ?_) (fun c2 => ?_)
        · have c2' : 0 < i := (i32_lt (a := 0) (by omega) (by omega)).mp c2
          obtain ⟨y, hy⟩ := at_lt (cs := xs) (i := i - 1) (by omega)
          have es : i.toInt32 - 1 = (i - 1).toInt32 := i32_sub (a := i) (b := 1) c2' (by omega)
          refine W.aloadN ok (pc' := 54) d_method_5_53 rfl rfl rfl ?_
          refine W.iloadN ok (pc' := 55) d_method_5_54 rfl rfl ?_
          refine W.iconst ok (pc' := 56) (1 : Int32) d_method_5_55 rfl rfl ?_
          refine W.isub ok (pc' := 57) d_method_5_56 rfl ?_
          rw [es]
          refine W.caload ok (pc' := 58) A y (i32_nn (by omega)) (by rw [nat_i32 (by omega)]; exact hy) d_method_5_57 rfl ?_
          by_cases hY : Hi y
          · refine W.callS ok (rest := []) (cl' := (true, [])) (pc' := 61) (w8 hw) (w9 hw) (w3 hw) (w10 hw) (by decide) pd_12 rfl (k_hiY l Z a0 hE y h hY) (fun _ q => (nomatch q)) (fun q => ⟨q, fun _ q => (nomatch q)⟩) rfl rfl (Nat.le_of_ble_eq_true rfl) (Nat.le_of_ble_eq_true rfl) (Nat.le_of_ble_eq_true rfl) (Nat.le_of_ble_eq_true rfl) d_method_5_58 rfl rfl (pureK ?_)
            show W B h 0 0 M (true, []) 61 #[.val (.ref ch), .val (.int i.toInt32), .val (.int n.toInt32)] [(.int (1 : Int32))]
            refine W.ifeq ok (pcY := 68) (pcN := 64) d_method_5_61 rfl (by decide) rfl (fun q => absurd q (by decide)) (fun _ => ?_)
            refine W.iconst ok (pc' := 65) (1 : Int32) d_method_5_64 rfl rfl ?_
            refine W.goto ok (pc' := 69) d_method_5_65 (by decide) rfl ?_
            exact W.retZ ok d_method_5_69 rfl (Nat.le_of_ble_eq_true rfl) (Nat.le_of_ble_eq_true rfl) (fun x (q : x ∈ M) => q) (fun kp => Or.inr ⟨rfl, fun _ x' hx' => by cases hx.symm.trans hx'; exact ⟨fun q => absurd q hX, fun _ => ⟨c2', y, hy, hY⟩⟩⟩)
          · refine W.callS ok (rest := []) (cl' := (true, [])) (pc' := 61) (w8 hw) (w9 hw) (w3 hw) (w10 hw) (by decide) pd_12 rfl (k_hiN l Z a0 hE y h hY) (fun _ q => (nomatch q)) (fun q => ⟨q, fun _ q => (nomatch q)⟩) rfl rfl (Nat.le_of_ble_eq_true rfl) (Nat.le_of_ble_eq_true rfl) (Nat.le_of_ble_eq_true rfl) (Nat.le_of_ble_eq_true rfl) d_method_5_58 rfl rfl (pureK ?_)
            show W B h 0 0 M (true, []) 61 #[.val (.ref ch), .val (.int i.toInt32), .val (.int n.toInt32)] [(.int (0 : Int32))]
            refine W.ifeq ok (pcY := 68) (pcN := 64) d_method_5_61 rfl (by decide) rfl (fun _ => ?_) (fun q => absurd rfl q)
            refine W.iconst ok (pc' := 69) (0 : Int32) d_method_5_68 rfl rfl ?_
            exact W.retZ ok d_method_5_69 rfl (Nat.le_of_ble_eq_true rfl) (Nat.le_of_ble_eq_true rfl) (fun x (q : x ∈ M) => q) (fun kp => Or.inl rfl)
        · refine W.iconst ok (pc' := 69) (0 : Int32) d_method_5_68 rfl rfl ?_
          exact W.retZ ok d_method_5_69 rfl (Nat.le_of_ble_eq_true rfl) (Nat.le_of_ble_eq_true rfl) (fun x (q : x ∈ M) => q) (fun kp => Or.inl rfl)
      · refine W.callS ok (rest := []) (cl' := (true, [])) (pc' := 46) (w12 hw) (w13 hw) (w3 hw) (w14 hw) (by decide) pd_12 rfl (k_loN l Z a0 hE x h hL) (fun _ q => (nomatch q)) (fun q => ⟨q, fun _ q => (nomatch q)⟩) rfl rfl (Nat.le_of_ble_eq_true rfl) (Nat.le_of_ble_eq_true rfl) (Nat.le_of_ble_eq_true rfl) (Nat.le_of_ble_eq_true rfl) d_method_5_43 rfl rfl (pureK ?_)
        show W B h 0 0 M (true, []) 46 #[.val (.ref ch), .val (.int i.toInt32), .val (.int n.toInt32)] [(.int (0 : Int32))]
        refine W.ifeq ok (pcY := 70) (pcN := 49) d_method_5_46 rfl (by decide) rfl (fun _ => ?_) (fun q => absurd rfl q)
        refine W.iconst ok (pc' := 71) (1 : Int32) d_method_5_70 rfl rfl ?_
        exact W.retZ ok d_method_5_71 rfl (Nat.le_of_ble_eq_true rfl) (Nat.le_of_ble_eq_true rfl) (fun x (q : x ∈ M) => q) (fun kp => Or.inr ⟨rfl, fun _ x' hx' => by cases hx.symm.trans hx'; exact ⟨fun q => absurd q hX, fun q => absurd q hL⟩⟩)
  · have c0' : ¬ i < n := fun q => c0 ((i32_lt (by omega) (by omega)).mpr q)
    refine W.iconst ok (pc' := 6) (1 : Int32) d_method_5_5 rfl rfl ?_
    exact W.retZ ok d_method_5_6 rfl (Nat.le_of_ble_eq_true rfl) (Nat.le_of_ble_eq_true rfl) (fun x (q : x ∈ M) => q) (fun kp => Or.inr ⟨rfl, fun q => absurd q c0'⟩)
set_option maxRecDepth 65536 in
set_option maxHeartbeats 4000000 in
theorem k_highY (l : Launch) (Z : State) (a0 : Array Value) (hE : Ev Z a0) (ch : Addr) (xs : List Int32) (i n : Nat) (x : Int32) (h : Heap) (A : ArI Z h ch .char xs) (hx : xs[i]? = some x) (hin : i < n) (hn : n < 1000) : Con l Z false (⟨"com/example/bounded_lock/boundedlock/LockNameOfPinLaw", "highAt", "([CII)I"⟩ : MethodName) method_6_code 3 (some .int) ({ frames := 1, cells := 0, slots := 0, locals := 12 } : Room) [(.ref ch), (.int i.toInt32), (.int n.toInt32)] h [] false (fun M v h' => v = some (.int (hb x).toInt32) ∧ h' = h) := by
  have hw := hE.1
  refine Con.intro (L0 := #[.val (.ref ch), .val (.int i.toInt32), .val (.int n.toInt32)]) (by decide +kernel) (fun m => ef_of rfl) ?_
  intro B M hwsM ok
  have li := lt_of_at hx
  refine W.iloadN ok (pc' := 1) d_method_6_0 rfl rfl ?_
  refine W.iloadN ok (pc' := 2) d_method_6_1 rfl rfl ?_
  refine W.icmpge ok (pcY := 18) (pcN := 5) d_method_6_2 rfl (by decide) rfl (fun _ => ?_) (fun q => absurd ((i32_lt (by omega) (by omega)).mpr hin) q)
  refine W.aloadN ok (pc' := 6) d_method_6_5 rfl rfl rfl ?_
  refine W.iloadN ok (pc' := 7) d_method_6_6 rfl rfl ?_
  refine W.caload ok (pc' := 8) A x (i32_nn (by omega)) (by rw [nat_i32 (by omega)]; exact hx) d_method_6_7 rfl ?_
  by_cases hX : Hi x
  · refine W.callS ok (rest := []) (cl' := (true, [])) (pc' := 11) (w8 hw) (w9 hw) (w3 hw) (w10 hw) (by decide) pd_12 rfl (k_hiY l Z a0 hE x h hX) (fun _ q => (nomatch q)) (fun q => ⟨q, fun _ q => (nomatch q)⟩) rfl rfl (Nat.le_of_ble_eq_true rfl) (Nat.le_of_ble_eq_true rfl) (Nat.le_of_ble_eq_true rfl) (Nat.le_of_ble_eq_true rfl) d_method_6_8 rfl rfl (pureK ?_)
    show W B h 0 0 M (true, []) 11 #[.val (.ref ch), .val (.int i.toInt32), .val (.int n.toInt32)] [(.int (1 : Int32))]
    refine W.ifeq ok (pcY := 18) (pcN := 14) d_method_6_11 rfl (by decide) rfl (fun q => absurd q (by decide)) (fun _ => ?_)
    refine W.iconst ok (pc' := 15) (1 : Int32) d_method_6_14 rfl rfl ?_
    refine W.goto ok (pc' := 19) d_method_6_15 (by decide) rfl ?_
    exact W.retI ok d_method_6_19 (Nat.le_of_ble_eq_true rfl) (Nat.le_of_ble_eq_true rfl) (fun x (q : x ∈ M) => q) (fun kp => ⟨by rw [hb_y hX]; rfl, rfl⟩)
  · refine W.callS ok (rest := []) (cl' := (true, [])) (pc' := 11) (w8 hw) (w9 hw) (w3 hw) (w10 hw) (by decide) pd_12 rfl (k_hiN l Z a0 hE x h hX) (fun _ q => (nomatch q)) (fun q => ⟨q, fun _ q => (nomatch q)⟩) rfl rfl (Nat.le_of_ble_eq_true rfl) (Nat.le_of_ble_eq_true rfl) (Nat.le_of_ble_eq_true rfl) (Nat.le_of_ble_eq_true rfl) d_method_6_8 rfl rfl (pureK ?_)
    show W B h 0 0 M (true, []) 11 #[.val (.ref ch), .val (.int i.toInt32), .val (.int n.toInt32)] [(.int (0 : Int32))]
    refine W.ifeq ok (pcY := 18) (pcN := 14) d_method_6_11 rfl (by decide) rfl (fun _ => ?_) (fun q => absurd rfl q)
    refine W.iconst ok (pc' := 19) (0 : Int32) d_method_6_18 rfl rfl ?_
    exact W.retI ok d_method_6_19 (Nat.le_of_ble_eq_true rfl) (Nat.le_of_ble_eq_true rfl) (fun x (q : x ∈ M) => q) (fun kp => ⟨by rw [hb_n hX]; rfl, rfl⟩)
set_option maxRecDepth 65536 in
set_option maxHeartbeats 4000000 in
theorem k_highN (l : Launch) (Z : State) (a0 : Array Value) (hE : Ev Z a0) (ch : Addr) (i n : Nat) (h : Heap) (hin : n ≤ i) (hi : i < 1000) : Con l Z false (⟨"com/example/bounded_lock/boundedlock/LockNameOfPinLaw", "highAt", "([CII)I"⟩ : MethodName) method_6_code 3 (some .int) ({ frames := 0, cells := 0, slots := 0, locals := 0 } : Room) [(.ref ch), (.int i.toInt32), (.int n.toInt32)] h [] false (fun M v h' => v = some (.int 0) ∧ h' = h) := by
  have hw := hE.1
  refine Con.intro (L0 := #[.val (.ref ch), .val (.int i.toInt32), .val (.int n.toInt32)]) (by decide +kernel) (fun m => ef_of rfl) ?_
  intro B M hwsM ok
  refine W.iloadN ok (pc' := 1) d_method_6_0 rfl rfl ?_
  refine W.iloadN ok (pc' := 2) d_method_6_1 rfl rfl ?_
  refine W.icmpge ok (pcY := 18) (pcN := 5) d_method_6_2 rfl (by decide) rfl (fun q => absurd q (by rw [i32_lt (by omega) (by omega)]; omega)) (fun _ => ?_)
  refine W.iconst ok (pc' := 19) (0 : Int32) d_method_6_18 rfl rfl ?_
  exact W.retI ok d_method_6_19 (Nat.le_of_ble_eq_true rfl) (Nat.le_of_ble_eq_true rfl) (fun x (q : x ∈ M) => q) (fun kp => ⟨rfl, rfl⟩)
set_option maxRecDepth 65536 in
set_option maxHeartbeats 4000000 in
theorem k_law (l : Launch) (Z : State) (a0 : Array Value) (hE : Ev Z a0) (p0 p1 p2 p3 p4 : Int32) (h : Heap)  : Con l Z false (⟨"com/example/bounded_lock/boundedlock/LockNameOfPinLaw", "law", "(IIIII)Z"⟩ : MethodName) code 16 (some .boolean) ({ frames := 9, cells := 32, slots := 3968, locals := 208 } : Room) [(.int p0), (.int p1), (.int p2), (.int p3), (.int p4)] h [] false (fun M v h' => v = some (.int 1)) := by
  have hw := hE.1
  refine Con.intro (L0 := #[.val (.int p0), .val (.int p1), .val (.int p2), .val (.int p3), .val (.int p4), .unset, .unset, .unset, .unset, .unset, .unset, .unset, .unset, .unset, .unset, .unset]) (by decide +kernel) (fun m => ef_of rfl) ?_
  intro B M hwsM ok
  refine W.iconst ok (pc' := 1) (4 : Int32) at_0 rfl rfl ?_
  refine W.newC ok (pc' := 3) (cap := 4) (w0 hw) (by decide) (by decide) (by decide) at_1 rfl (Nat.le_of_ble_eq_true rfl) (Nat.le_of_ble_eq_true rfl) (fun a1 h2 z3 ea4 E5 A6 => ?_)
  replace A6 := A6.cast (cs' := [0, 0, 0, 0]) rfl
  refine W.dup ok (pc' := 4) at_3 rfl rfl ?_
  refine W.iconst ok (pc' := 5) (0 : Int32) at_4 rfl rfl ?_
  refine W.iloadN ok (pc' := 6) at_5 rfl rfl ?_
  refine W.callS ok (rest := [(.int (0 : Int32)), (.ref a1), (.ref a1)]) (cl' := (true, [])) (pc' := 9) (w1 hw) (w2 hw) (w3 hw) (w4 hw) (by decide) pd_25 rfl (k_draw l Z a0 hE p0 h2) (fun _ q => (nomatch q)) (fun q => ⟨q, fun _ q => (nomatch q)⟩) rfl rfl (Nat.le_of_ble_eq_true rfl) (Nat.le_of_ble_eq_true rfl) (Nat.le_of_ble_eq_true rfl) (Nat.le_of_ble_eq_true rfl) at_6 rfl rfl (pureK ?_)
  show W B h2 1 4 (a1 :: M) (true, []) 9 #[.val (.int p0), .val (.int p1), .val (.int p2), .val (.int p3), .val (.int p4), .unset, .unset, .unset, .unset, .unset, .unset, .unset, .unset, .unset, .unset, .unset] [(.int (dr p0)), (.int (0 : Int32)), (.ref a1), (.ref a1)]
  generalize hx0 : (dr p0) = x0
  have r0 : 0 ≤ x0.toInt ∧ x0.toInt ≤ 65535 := by rw [← hx0]; exact dr_rng _
  refine W.castore ok (pc' := 10) (cl' := (true, [])) A6 (by decide) (Nat.le_of_ble_eq_true rfl) (List.mem_cons_self ..) (Or.inr z3) (fun q => ⟨q, z3⟩) rfl at_9 rfl (fun h7 Wr8 A9 => ?_)
  replace A9 := A9.cast (cs' := [x0, 0, 0, 0]) (by rw [c16_of r0]; rfl)
  refine W.dup ok (pc' := 11) at_10 rfl rfl ?_
  refine W.iconst ok (pc' := 12) (1 : Int32) at_11 rfl rfl ?_
  refine W.iloadN ok (pc' := 13) at_12 rfl rfl ?_
  refine W.callS ok (rest := [(.int (1 : Int32)), (.ref a1), (.ref a1)]) (cl' := (true, [])) (pc' := 16) (w1 hw) (w2 hw) (w3 hw) (w4 hw) (by decide) pd_25 rfl (k_draw l Z a0 hE p1 h7) (fun _ q => (nomatch q)) (fun q => ⟨q, fun _ q => (nomatch q)⟩) rfl rfl (Nat.le_of_ble_eq_true rfl) (Nat.le_of_ble_eq_true rfl) (Nat.le_of_ble_eq_true rfl) (Nat.le_of_ble_eq_true rfl) at_13 rfl rfl (pureK ?_)
  show W B h7 1 4 (a1 :: M) (true, []) 16 #[.val (.int p0), .val (.int p1), .val (.int p2), .val (.int p3), .val (.int p4), .unset, .unset, .unset, .unset, .unset, .unset, .unset, .unset, .unset, .unset, .unset] [(.int (dr p1)), (.int (1 : Int32)), (.ref a1), (.ref a1)]
  generalize hx1 : (dr p1) = x1
  have r1 : 0 ≤ x1.toInt ∧ x1.toInt ≤ 65535 := by rw [← hx1]; exact dr_rng _
  refine W.castore ok (pc' := 17) (cl' := (true, [])) A9 (by decide) (Nat.le_of_ble_eq_true rfl) (List.mem_cons_self ..) (Or.inr z3) (fun q => ⟨q, z3⟩) rfl at_16 rfl (fun h10 Wr11 A12 => ?_)
  replace A12 := A12.cast (cs' := [x0, x1, 0, 0]) (by rw [c16_of r1]; rfl)
  refine W.dup ok (pc' := 18) at_17 rfl rfl ?_
  refine W.iconst ok (pc' := 19) (2 : Int32) at_18 rfl rfl ?_
  refine W.iloadN ok (pc' := 20) at_19 rfl rfl ?_
  refine W.callS ok (rest := [(.int (2 : Int32)), (.ref a1), (.ref a1)]) (cl' := (true, [])) (pc' := 23) (w1 hw) (w2 hw) (w3 hw) (w4 hw) (by decide) pd_25 rfl (k_draw l Z a0 hE p2 h10) (fun _ q => (nomatch q)) (fun q => ⟨q, fun _ q => (nomatch q)⟩) rfl rfl (Nat.le_of_ble_eq_true rfl) (Nat.le_of_ble_eq_true rfl) (Nat.le_of_ble_eq_true rfl) (Nat.le_of_ble_eq_true rfl) at_20 rfl rfl (pureK ?_)
  show W B h10 1 4 (a1 :: M) (true, []) 23 #[.val (.int p0), .val (.int p1), .val (.int p2), .val (.int p3), .val (.int p4), .unset, .unset, .unset, .unset, .unset, .unset, .unset, .unset, .unset, .unset, .unset] [(.int (dr p2)), (.int (2 : Int32)), (.ref a1), (.ref a1)]
  generalize hx2 : (dr p2) = x2
  have r2 : 0 ≤ x2.toInt ∧ x2.toInt ≤ 65535 := by rw [← hx2]; exact dr_rng _
  refine W.castore ok (pc' := 24) (cl' := (true, [])) A12 (by decide) (Nat.le_of_ble_eq_true rfl) (List.mem_cons_self ..) (Or.inr z3) (fun q => ⟨q, z3⟩) rfl at_23 rfl (fun h13 Wr14 A15 => ?_)
  replace A15 := A15.cast (cs' := [x0, x1, x2, 0]) (by rw [c16_of r2]; rfl)
  refine W.dup ok (pc' := 25) at_24 rfl rfl ?_
  refine W.iconst ok (pc' := 26) (3 : Int32) at_25 rfl rfl ?_
  refine W.iloadN ok (pc' := 27) at_26 rfl rfl ?_
  refine W.callS ok (rest := [(.int (3 : Int32)), (.ref a1), (.ref a1)]) (cl' := (true, [])) (pc' := 30) (w1 hw) (w2 hw) (w3 hw) (w4 hw) (by decide) pd_25 rfl (k_draw l Z a0 hE p3 h13) (fun _ q => (nomatch q)) (fun q => ⟨q, fun _ q => (nomatch q)⟩) rfl rfl (Nat.le_of_ble_eq_true rfl) (Nat.le_of_ble_eq_true rfl) (Nat.le_of_ble_eq_true rfl) (Nat.le_of_ble_eq_true rfl) at_27 rfl rfl (pureK ?_)
  show W B h13 1 4 (a1 :: M) (true, []) 30 #[.val (.int p0), .val (.int p1), .val (.int p2), .val (.int p3), .val (.int p4), .unset, .unset, .unset, .unset, .unset, .unset, .unset, .unset, .unset, .unset, .unset] [(.int (dr p3)), (.int (3 : Int32)), (.ref a1), (.ref a1)]
  generalize hx3 : (dr p3) = x3
  have r3 : 0 ≤ x3.toInt ∧ x3.toInt ≤ 65535 := by rw [← hx3]; exact dr_rng _
  refine W.castore ok (pc' := 31) (cl' := (true, [])) A15 (by decide) (Nat.le_of_ble_eq_true rfl) (List.mem_cons_self ..) (Or.inr z3) (fun q => ⟨q, z3⟩) rfl at_30 rfl (fun h16 Wr17 A18 => ?_)
  replace A18 := A18.cast (cs' := [x0, x1, x2, x3]) (by rw [c16_of r3]; rfl)
  refine W.astore ok (pc' := 33) (L' := #[.val (.int p0), .val (.int p1), .val (.int p2), .val (.int p3), .val (.int p4), .val (.ref a1), .unset, .unset, .unset, .unset, .unset, .unset, .unset, .unset, .unset, .unset]) at_31 rfl rfl rfl ?_
  refine W.iload ok (pc' := 35) at_33 rfl rfl ?_
  refine W.iconst ok (pc' := 36) (4 : Int32) at_35 rfl rfl ?_
  have tail : ∀ (hh : Heap) (ar : Addr) (cs : List Int32) (p : Nat) (z6 z7 z8 z9 z10 : Int32), ArI Z hh ar .char cs → Wf cs p → 1 ≤ p → p ≤ 200 → cs.length ≤ 201 → W B hh 2 205 (ar :: a1 :: M) (true, []) 367 #[.val (.int p0), .val (.int p1), .val (.int p2), .val (.int p3), .val (.int p4), .val (.ref a1), .val (.int z6), .val (.int z7), .val (.int z8), .val (.int z9), .val (.int z10), .val (.ref ar), .unset, .unset, .unset, .unset] [] := by
    intro hh ar cs p z6 z7 z8 z9 z10 Ab hW h1 h2 hl
    refine W.old ok fun _ le0 => ?_
    have hne : cs ≠ [] := fun e => by subst e; have := hW.le; simp at this; omega
    have lb := Ab.gt
    refine W.new ok (pc' := 370) (w19 hw) (w20 hw) (w21 hw) at_367 rfl (Nat.le_of_ble_eq_true rfl) (Nat.le_of_ble_eq_true rfl) (fun a19 h20 z21 ea22 E23 X24 D25 U26 => ?_)
    refine W.dup ok (pc' := 371) at_370 rfl rfl ?_
    refine W.aload ok (pc' := 373) at_371 rfl rfl rfl ?_
    have la := gtE X24
    refine W.callI ok (rest := [(.ref a19)]) (cl' := (true, [])) (pc' := 376) rfl (w22 hw) (w23 hw) (w21 hw) (w24 hw) (by decide) pd_26 rfl (k_initC l Z a0 hE a19 ar cs h20 X24 (D25 (Or.inr (w47 hw)) (ty := (.array .byte)) (by decide)) (D25 (Or.inr (w45 hw)) (ty := .byte) (by decide)) (Ab.ext E23) hl hne) (fun w q => by simp only [List.mem_cons, List.not_mem_nil, or_false] at q; subst q; exact ⟨(List.mem_cons_self ..), (Or.inr z21)⟩) (fun q => ⟨q, fun w q => by simp only [List.mem_cons, List.not_mem_nil, or_false] at q; subst q; exact z21⟩) rfl rfl (Nat.le_of_ble_eq_true rfl) (Nat.le_of_ble_eq_true rfl) (Nat.le_of_ble_eq_true rfl) (Nat.le_of_ble_eq_true rfl) at_373 rfl rfl (oldK fun v h27 hq K28 => ?_)
    obtain ⟨rfl, tt, cd, bs, g1, g2, g3, g4, g5⟩ := hq
    show W B h27 5 812 (a19 :: (ar :: (a1 :: M))) (true, []) 376 #[.val (.int p0), .val (.int p1), .val (.int p2), .val (.int p3), .val (.int p4), .val (.ref a1), .val (.int z6), .val (.int z7), .val (.int z8), .val (.int z9), .val (.int z10), .val (.ref ar), .unset, .unset, .unset, .unset] [(.ref a19)]
    have S1 : Str Z h27 a19 cs := ⟨tt, cd, bs, X24.keep K28, g2, g3, g4, g5⟩
    have lE1 := E23.1
    have A1 := (Ab.ext E23).keep K28 (nin1 (by omega))
    have lb1 := A1.gt
    refine W.astore ok (pc' := 378) (L' := #[.val (.int p0), .val (.int p1), .val (.int p2), .val (.int p3), .val (.int p4), .val (.ref a1), .val (.int z6), .val (.int z7), .val (.int z8), .val (.int z9), .val (.int z10), .val (.ref ar), .val (.ref a19), .unset, .unset, .unset]) at_376 rfl rfl rfl ?_
    refine W.new ok (pc' := 381) (w19 hw) (w20 hw) (w21 hw) at_378 rfl (Nat.le_of_ble_eq_true rfl) (Nat.le_of_ble_eq_true rfl) (fun a29 h30 z31 ea32 E33 X34 D35 U36 => ?_)
    refine W.dup ok (pc' := 382) at_381 rfl rfl ?_
    refine W.aload ok (pc' := 384) at_382 rfl rfl rfl ?_
    have lE2 := E33.1
    refine W.callI ok (rest := [(.ref a29)]) (cl' := (true, [])) (pc' := 387) rfl (w22 hw) (w23 hw) (w21 hw) (w24 hw) (by decide) pd_26 rfl (k_initC l Z a0 hE a29 ar cs h30 X34 (D35 (Or.inr (w47 hw)) (ty := (.array .byte)) (by decide)) (D35 (Or.inr (w45 hw)) (ty := .byte) (by decide)) (A1.ext E33) hl hne) (fun w q => by simp only [List.mem_cons, List.not_mem_nil, or_false] at q; subst q; exact ⟨(List.mem_cons_self ..), (Or.inr z31)⟩) (fun q => ⟨q, fun w q => by simp only [List.mem_cons, List.not_mem_nil, or_false] at q; subst q; exact z31⟩) rfl rfl (Nat.le_of_ble_eq_true rfl) (Nat.le_of_ble_eq_true rfl) (Nat.le_of_ble_eq_true rfl) (Nat.le_of_ble_eq_true rfl) at_384 rfl rfl (oldK fun v h37 hq K38 => ?_)
    obtain ⟨rfl, t2, cd2, bs2, k1, k2, k3, k4, k5⟩ := hq
    show W B h37 8 1419 (a29 :: (a19 :: (ar :: (a1 :: M)))) (true, []) 387 #[.val (.int p0), .val (.int p1), .val (.int p2), .val (.int p3), .val (.int p4), .val (.ref a1), .val (.int z6), .val (.int z7), .val (.int z8), .val (.int z9), .val (.int z10), .val (.ref ar), .val (.ref a19), .unset, .unset, .unset] [(.ref a29)]
    have S2 : Str Z h37 a29 cs := ⟨t2, cd2, bs2, X34.keep K38, k2, k3, k4, k5⟩
    have EE := ExtK E33 K38 (fun w q => by rw [List.mem_singleton.mp q]; exact Nat.le_of_eq ea32)
    have S1b := S1.ext EE
    have A2 := A1.ext EE
    refine W.astore ok (pc' := 389) (L' := #[.val (.int p0), .val (.int p1), .val (.int p2), .val (.int p3), .val (.int p4), .val (.ref a1), .val (.int z6), .val (.int z7), .val (.int z8), .val (.int z9), .val (.int z10), .val (.ref ar), .val (.ref a19), .val (.ref a29), .unset, .unset]) at_387 rfl rfl rfl ?_
    refine W.aload ok (pc' := 391) at_389 rfl rfl rfl ?_
    refine W.callS ok (rest := []) (cl' := (true, [])) (pc' := 394) (w48 hw) (w49 hw) (w50 hw) (w51 hw) (by decide) pd_27 rfl (k_of l Z a0 hE a19 cs p h37 S1b hW h1 h2 (by omega)) (fun _ q => (nomatch q)) (fun q => ⟨q, fun _ q => (nomatch q)⟩) rfl rfl (Nat.le_of_ble_eq_true rfl) (Nat.le_of_ble_eq_true rfl) (Nat.le_of_ble_eq_true rfl) (Nat.le_of_ble_eq_true rfl) at_391 rfl rfl (oldK fun v h39 hq K40 => ?_)
    obtain ⟨x, rfl, hx, Xx, Fx⟩ := hq
    show W B h39 11 1440 (a29 :: (a19 :: (ar :: (a1 :: M)))) (true, []) 394 #[.val (.int p0), .val (.int p1), .val (.int p2), .val (.int p3), .val (.int p4), .val (.ref a1), .val (.int z6), .val (.int z7), .val (.int z8), .val (.int z9), .val (.int z10), .val (.ref ar), .val (.ref a19), .val (.ref a29), .unset, .unset] [(.ref x)]
    refine W.astore ok (pc' := 396) (L' := #[.val (.int p0), .val (.int p1), .val (.int p2), .val (.int p3), .val (.int p4), .val (.ref a1), .val (.int z6), .val (.int z7), .val (.int z8), .val (.int z9), .val (.int z10), .val (.ref ar), .val (.ref a19), .val (.ref a29), .val (.ref x), .unset]) at_394 rfl rfl rfl ?_
    refine W.aload ok (pc' := 398) at_396 rfl rfl rfl ?_
    have S2c := S2.ext (ext_keep K40)
    refine W.callS ok (rest := []) (cl' := (true, [])) (pc' := 401) (w48 hw) (w49 hw) (w50 hw) (w51 hw) (by decide) pd_27 rfl (k_of l Z a0 hE a29 cs p h39 S2c hW h1 h2 (by omega)) (fun _ q => (nomatch q)) (fun q => ⟨q, fun _ q => (nomatch q)⟩) rfl rfl (Nat.le_of_ble_eq_true rfl) (Nat.le_of_ble_eq_true rfl) (Nat.le_of_ble_eq_true rfl) (Nat.le_of_ble_eq_true rfl) at_398 rfl rfl (oldK fun v h41 hq K42 => ?_)
    obtain ⟨y, rfl, hy, Xy, Fy⟩ := hq
    show W B h41 14 1461 (a29 :: (a19 :: (ar :: (a1 :: M)))) (true, []) 401 #[.val (.int p0), .val (.int p1), .val (.int p2), .val (.int p3), .val (.int p4), .val (.ref a1), .val (.int z6), .val (.int z7), .val (.int z8), .val (.int z9), .val (.int z10), .val (.ref ar), .val (.ref a19), .val (.ref a29), .val (.ref x), .unset] [(.ref y)]
    have EF := ExtT (ext_keep K40) (ext_keep K42)
    have S1f := S1b.ext EF
    have S2f := S2c.ext (ext_keep K42)
    have Xf := Xx.ext (ext_keep K42)
    have Ff := Fx.ext (ext_keep K42)
    have Af := A2.ext EF
    refine W.astore ok (pc' := 403) (L' := #[.val (.int p0), .val (.int p1), .val (.int p2), .val (.int p3), .val (.int p4), .val (.ref a1), .val (.int z6), .val (.int z7), .val (.int z8), .val (.int z9), .val (.int z10), .val (.ref ar), .val (.ref a19), .val (.ref a29), .val (.ref x), .val (.ref y)]) at_401 rfl rfl rfl ?_
    refine W.aload ok (pc' := 405) at_403 rfl rfl rfl ?_
    refine W.callV ok (rest := []) (cl' := (true, [])) (pc' := 408) (w116 hw) (w117 hw) (w119 hw) (w118 hw) (w50 hw) (w120 hw) (by decide) Xf pd_28 rfl (k_val l Z a0 hE x a19 h41 Ff) (fun _ q => (nomatch q)) (fun q => ⟨q, fun _ q => (nomatch q)⟩) rfl rfl (Nat.le_of_ble_eq_true rfl) (Nat.le_of_ble_eq_true rfl) (Nat.le_of_ble_eq_true rfl) (Nat.le_of_ble_eq_true rfl) at_405 rfl rfl (pureK ?_)
    show W B h41 14 1461 (a29 :: (a19 :: (ar :: (a1 :: M)))) (true, []) 408 #[.val (.int p0), .val (.int p1), .val (.int p2), .val (.int p3), .val (.int p4), .val (.ref a1), .val (.int z6), .val (.int z7), .val (.int z8), .val (.int z9), .val (.int z10), .val (.ref ar), .val (.ref a19), .val (.ref a29), .val (.ref x), .val (.ref y)] [(.ref a19)]
    refine W.aload ok (pc' := 410) at_408 rfl rfl rfl ?_
    refine W.callV ok (rest := []) (cl' := (true, [])) (pc' := 413) (w121 hw) (w122 hw) (w124 hw) (w123 hw) (w21 hw) (w125 hw) (by decide) S1f.exa pd_20 rfl (k_eqS l Z a0 hE a19 a19 cs cs h41 S1f S1f (by omega) (by omega)) (fun _ q => (nomatch q)) (fun q => ⟨q, fun _ q => (nomatch q)⟩) rfl rfl (Nat.le_of_ble_eq_true rfl) (Nat.le_of_ble_eq_true rfl) (Nat.le_of_ble_eq_true rfl) (Nat.le_of_ble_eq_true rfl) at_410 rfl rfl (pureK ?_)
    show W B h41 14 1461 (a29 :: (a19 :: (ar :: (a1 :: M)))) (true, []) 413 #[.val (.int p0), .val (.int p1), .val (.int p2), .val (.int p3), .val (.int p4), .val (.ref a1), .val (.int z6), .val (.int z7), .val (.int z8), .val (.int z9), .val (.int z10), .val (.ref ar), .val (.ref a19), .val (.ref a29), .val (.ref x), .val (.ref y)] [(.int (if cs = cs then 1 else 0))]
    rw [if_pos rfl]
    refine W.ifeq ok (pcY := 457) (pcN := 416) at_413 rfl (by decide) rfl (fun q => absurd q (by decide)) (fun _ => ?_)
    refine W.aload ok (pc' := 418) at_416 rfl rfl rfl ?_
    refine W.callV ok (rest := []) (cl' := (true, [])) (pc' := 421) (w116 hw) (w117 hw) (w119 hw) (w118 hw) (w50 hw) (w120 hw) (by decide) Xf pd_28 rfl (k_val l Z a0 hE x a19 h41 Ff) (fun _ q => (nomatch q)) (fun q => ⟨q, fun _ q => (nomatch q)⟩) rfl rfl (Nat.le_of_ble_eq_true rfl) (Nat.le_of_ble_eq_true rfl) (Nat.le_of_ble_eq_true rfl) (Nat.le_of_ble_eq_true rfl) at_418 rfl rfl (pureK ?_)
    show W B h41 14 1461 (a29 :: (a19 :: (ar :: (a1 :: M)))) (true, []) 421 #[.val (.int p0), .val (.int p1), .val (.int p2), .val (.int p3), .val (.int p4), .val (.ref a1), .val (.int z6), .val (.int z7), .val (.int z8), .val (.int z9), .val (.int z10), .val (.ref ar), .val (.ref a19), .val (.ref a29), .val (.ref x), .val (.ref y)] [(.ref a19)]
    refine W.aload ok (pc' := 423) at_421 rfl rfl rfl ?_
    refine W.callV ok (rest := []) (cl' := (true, [])) (pc' := 426) (w121 hw) (w122 hw) (w124 hw) (w123 hw) (w21 hw) (w125 hw) (by decide) S1f.exa pd_20 rfl (k_eqS l Z a0 hE a19 a29 cs cs h41 S1f S2f (by omega) (by omega)) (fun _ q => (nomatch q)) (fun q => ⟨q, fun _ q => (nomatch q)⟩) rfl rfl (Nat.le_of_ble_eq_true rfl) (Nat.le_of_ble_eq_true rfl) (Nat.le_of_ble_eq_true rfl) (Nat.le_of_ble_eq_true rfl) at_423 rfl rfl (pureK ?_)
    show W B h41 14 1461 (a29 :: (a19 :: (ar :: (a1 :: M)))) (true, []) 426 #[.val (.int p0), .val (.int p1), .val (.int p2), .val (.int p3), .val (.int p4), .val (.ref a1), .val (.int z6), .val (.int z7), .val (.int z8), .val (.int z9), .val (.int z10), .val (.ref ar), .val (.ref a19), .val (.ref a29), .val (.ref x), .val (.ref y)] [(.int (if cs = cs then 1 else 0))]
    rw [if_pos rfl]
    refine W.ifeq ok (pcY := 457) (pcN := 429) at_426 rfl (by decide) rfl (fun q => absurd q (by decide)) (fun _ => ?_)
    refine W.aload ok (pc' := 431) at_429 rfl rfl rfl ?_
    refine W.callV ok (rest := []) (cl' := (true, [])) (pc' := 434) (w116 hw) (w117 hw) (w119 hw) (w118 hw) (w50 hw) (w120 hw) (by decide) Xf pd_28 rfl (k_val l Z a0 hE x a19 h41 Ff) (fun _ q => (nomatch q)) (fun q => ⟨q, fun _ q => (nomatch q)⟩) rfl rfl (Nat.le_of_ble_eq_true rfl) (Nat.le_of_ble_eq_true rfl) (Nat.le_of_ble_eq_true rfl) (Nat.le_of_ble_eq_true rfl) at_431 rfl rfl (pureK ?_)
    show W B h41 14 1461 (a29 :: (a19 :: (ar :: (a1 :: M)))) (true, []) 434 #[.val (.int p0), .val (.int p1), .val (.int p2), .val (.int p3), .val (.int p4), .val (.ref a1), .val (.int z6), .val (.int z7), .val (.int z8), .val (.int z9), .val (.int z10), .val (.ref ar), .val (.ref a19), .val (.ref a29), .val (.ref x), .val (.ref y)] [(.ref a19)]
    refine W.callV ok (rest := []) (cl' := (true, [])) (pc' := 437) (w131 hw) (w60 hw) (w62 hw) (w61 hw) (w21 hw) (w63 hw) (by decide) S1f.exa pd_14 rfl (k_length l Z a0 hE a19 cs h41 S1f (by omega)) (fun _ q => (nomatch q)) (fun q => ⟨q, fun _ q => (nomatch q)⟩) rfl rfl (Nat.le_of_ble_eq_true rfl) (Nat.le_of_ble_eq_true rfl) (Nat.le_of_ble_eq_true rfl) (Nat.le_of_ble_eq_true rfl) at_434 rfl rfl (pureK ?_)
    show W B h41 14 1461 (a29 :: (a19 :: (ar :: (a1 :: M)))) (true, []) 437 #[.val (.int p0), .val (.int p1), .val (.int p2), .val (.int p3), .val (.int p4), .val (.ref a1), .val (.int z6), .val (.int z7), .val (.int z8), .val (.int z9), .val (.int z10), .val (.ref ar), .val (.ref a19), .val (.ref a29), .val (.ref x), .val (.ref y)] [(.int cs.length.toInt32)]
    refine W.aload ok (pc' := 439) at_437 rfl rfl rfl ?_
    refine W.lenI ok (pc' := 440) Af cs.length.toInt32 rfl at_439 rfl ?_
    refine W.icmpne ok (pcY := 457) (pcN := 443) at_440 rfl (by decide) rfl (fun _ => ?_) (fun q => absurd rfl q)
    refine W.aload ok (pc' := 445) at_443 rfl rfl rfl ?_
    refine W.aload ok (pc' := 447) at_445 rfl rfl rfl ?_
    refine W.callV ok (rest := []) (cl' := (true, [])) (pc' := 450) (w132 hw) (w133 hw) (w135 hw) (w134 hw) (w50 hw) (w136 hw) (by decide) Xf pd_20 rfl (k_lnE l Z a0 hE x y a19 a29 cs h41 Xy Ff Fy S1f S2f (by omega)) (fun _ q => (nomatch q)) (fun q => ⟨q, fun _ q => (nomatch q)⟩) rfl rfl (Nat.le_of_ble_eq_true rfl) (Nat.le_of_ble_eq_true rfl) (Nat.le_of_ble_eq_true rfl) (Nat.le_of_ble_eq_true rfl) at_447 rfl rfl (pureK ?_)
    show W B h41 14 1461 (a29 :: (a19 :: (ar :: (a1 :: M)))) (true, []) 450 #[.val (.int p0), .val (.int p1), .val (.int p2), .val (.int p3), .val (.int p4), .val (.ref a1), .val (.int z6), .val (.int z7), .val (.int z8), .val (.int z9), .val (.int z10), .val (.ref ar), .val (.ref a19), .val (.ref a29), .val (.ref x), .val (.ref y)] [(.int (1 : Int32))]
    refine W.ifeq ok (pcY := 457) (pcN := 453) at_450 rfl (by decide) rfl (fun q => absurd q (by decide)) (fun _ => ?_)
    refine W.iconst ok (pc' := 454) (1 : Int32) at_453 rfl rfl ?_
    refine W.goto ok (pc' := 458) at_454 (by decide) rfl ?_
    exact W.retZ ok at_458 rfl (Nat.le_of_ble_eq_true rfl) (Nat.le_of_ble_eq_true rfl) (fun x (q : x ∈ M) => (List.mem_cons_of_mem _ (List.mem_cons_of_mem _ (List.mem_cons_of_mem _ (List.mem_cons_of_mem _ q))))) (fun kp => rfl)
  refine W.iand ok (pc' := 37) at_36 rfl ?_
  refine W.ifeq ok (pcY := 44) (pcN := 40) at_37 rfl (by decide) rfl (fun s4 => ?_) (fun s4 => ?_)
  · refine W.iconst ok (pc' := 45) (0 : Int32) at_44 rfl rfl ?_
    refine W.istore ok (pc' := 47) (L' := #[.val (.int p0), .val (.int p1), .val (.int p2), .val (.int p3), .val (.int p4), .val (.ref a1), .val (.int (0 : Int32)), .unset, .unset, .unset, .unset, .unset, .unset, .unset, .unset, .unset]) at_45 rfl rfl ?_
    refine W.iload ok (pc' := 49) at_47 rfl rfl ?_
    refine W.ifeq ok (pcY := 56) (pcN := 52) at_49 rfl (by decide) rfl (fun _ => ?_) (fun q => absurd rfl q)
    refine W.iload ok (pc' := 58) at_56 rfl rfl ?_
    refine W.iconst ok (pc' := 59) (3 : Int32) at_58 rfl rfl ?_
    refine W.iand ok (pc' := 60) at_59 rfl ?_
    generalize hmz : (p4 &&& (3 : Int32)) = mz
    have rm : 0 ≤ mz.toInt ∧ mz.toInt < 4 := by have m1 := maskI p4 3 2 (by decide) (by decide); rw [hmz] at m1; exact m1
    have cas : mz = 0 ∨ mz = 1 ∨ mz = 2 ∨ mz = 3 := by
      have e0 : (0 : Int32).toInt = 0 := rfl
      have e1 : (1 : Int32).toInt = 1 := rfl
      have e2 : (2 : Int32).toInt = 2 := rfl
      have e3 : (3 : Int32).toInt = 3 := rfl
      simp only [← Int32.toInt_inj, e0, e1, e2, e3]
      omega
    rcases cas with rfl | rfl | rfl | rfl
    · refine W.iconst ok (pc' := 61) (1 : Int32) at_60 rfl rfl ?_
      refine W.iadd ok (pc' := 62) at_61 rfl ?_
      rw [show ((0 : Int32) + (1 : Int32)) = (1 : Int32) from by decide]
      refine W.istore ok (pc' := 64) (L' := #[.val (.int p0), .val (.int p1), .val (.int p2), .val (.int p3), .val (.int p4), .val (.ref a1), .val (.int (0 : Int32)), .val (.int (1 : Int32)), .unset, .unset, .unset, .unset, .unset, .unset, .unset, .unset]) at_62 rfl rfl ?_
      refine W.aload ok (pc' := 66) at_64 rfl rfl rfl ?_
      refine W.iconst ok (pc' := 67) (0 : Int32) at_66 rfl rfl ?_
      refine W.iload ok (pc' := 69) at_67 rfl rfl ?_
      refine W.callS ok (rest := []) (cl' := (true, [])) (pc' := 72) (w5 hw) (w6 hw) (w3 hw) (w7 hw) (by decide) pd_29 rfl (k_okAt l Z a0 hE a1 [x0, x1, x2, x3] 0 1 h16 A18 (by simp) (by simp) (by omega)) (fun _ q => (nomatch q)) (fun q => ⟨q, fun _ q => (nomatch q)⟩) rfl rfl (Nat.le_of_ble_eq_true rfl) (Nat.le_of_ble_eq_true rfl) (Nat.le_of_ble_eq_true rfl) (Nat.le_of_ble_eq_true rfl) at_69 rfl rfl (oldK fun v h43 hq K44 => ?_)
      rcases hq with rfl | ⟨rfl, o0⟩
      · show W B h43 1 4 (a1 :: M) (true, []) 72 #[.val (.int p0), .val (.int p1), .val (.int p2), .val (.int p3), .val (.int p4), .val (.ref a1), .val (.int (0 : Int32)), .val (.int (1 : Int32)), .unset, .unset, .unset, .unset, .unset, .unset, .unset, .unset] [(.int (0 : Int32))]
        refine W.ifeq ok (pcY := 112) (pcN := 75) at_72 rfl (by decide) rfl (fun _ => ?_) (fun q => absurd rfl q)
        refine W.iconst ok (pc' := 113) (0 : Int32) at_112 rfl rfl ?_
        refine W.istore ok (pc' := 115) (L' := #[.val (.int p0), .val (.int p1), .val (.int p2), .val (.int p3), .val (.int p4), .val (.ref a1), .val (.int (0 : Int32)), .val (.int (1 : Int32)), .val (.int (0 : Int32)), .unset, .unset, .unset, .unset, .unset, .unset, .unset]) at_113 rfl rfl ?_
        refine W.iload ok (pc' := 117) at_115 rfl rfl ?_
        refine W.ifne ok (pcY := 122) (pcN := 120) at_117 rfl (by decide) rfl (fun _ => ?_) (fun q => absurd rfl q)
        refine W.iconst ok (pc' := 121) (1 : Int32) at_120 rfl rfl ?_
        exact W.retZ ok at_121 rfl (Nat.le_of_ble_eq_true rfl) (Nat.le_of_ble_eq_true rfl) (fun x (q : x ∈ M) => (List.mem_cons_of_mem _ q)) (fun kp => rfl)
      · show W B h43 1 4 (a1 :: M) (true, []) 72 #[.val (.int p0), .val (.int p1), .val (.int p2), .val (.int p3), .val (.int p4), .val (.ref a1), .val (.int (0 : Int32)), .val (.int (1 : Int32)), .unset, .unset, .unset, .unset, .unset, .unset, .unset, .unset] [(.int (1 : Int32))]
        have A45 := A18.ext (ext_keep K44)
        refine W.ifeq ok (pcY := 112) (pcN := 75) at_72 rfl (by decide) rfl (fun q => absurd q (by decide)) (fun _ => ?_)
        refine W.aload ok (pc' := 77) at_75 rfl rfl rfl ?_
        refine W.iconst ok (pc' := 78) (1 : Int32) at_77 rfl rfl ?_
        refine W.iload ok (pc' := 80) at_78 rfl rfl ?_
        refine W.callS ok (rest := []) (cl' := (true, [])) (pc' := 83) (w5 hw) (w6 hw) (w3 hw) (w7 hw) (by decide) pd_29 rfl (k_okAt l Z a0 hE a1 [x0, x1, x2, x3] 1 1 h43 A45 (by simp) (by simp) (by omega)) (fun _ q => (nomatch q)) (fun q => ⟨q, fun _ q => (nomatch q)⟩) rfl rfl (Nat.le_of_ble_eq_true rfl) (Nat.le_of_ble_eq_true rfl) (Nat.le_of_ble_eq_true rfl) (Nat.le_of_ble_eq_true rfl) at_80 rfl rfl (oldK fun v h46 hq K47 => ?_)
        rcases hq with rfl | ⟨rfl, o1⟩
        · show W B h46 1 4 (a1 :: M) (true, []) 83 #[.val (.int p0), .val (.int p1), .val (.int p2), .val (.int p3), .val (.int p4), .val (.ref a1), .val (.int (0 : Int32)), .val (.int (1 : Int32)), .unset, .unset, .unset, .unset, .unset, .unset, .unset, .unset] [(.int (0 : Int32))]
          refine W.ifeq ok (pcY := 112) (pcN := 86) at_83 rfl (by decide) rfl (fun _ => ?_) (fun q => absurd rfl q)
          refine W.iconst ok (pc' := 113) (0 : Int32) at_112 rfl rfl ?_
          refine W.istore ok (pc' := 115) (L' := #[.val (.int p0), .val (.int p1), .val (.int p2), .val (.int p3), .val (.int p4), .val (.ref a1), .val (.int (0 : Int32)), .val (.int (1 : Int32)), .val (.int (0 : Int32)), .unset, .unset, .unset, .unset, .unset, .unset, .unset]) at_113 rfl rfl ?_
          refine W.iload ok (pc' := 117) at_115 rfl rfl ?_
          refine W.ifne ok (pcY := 122) (pcN := 120) at_117 rfl (by decide) rfl (fun _ => ?_) (fun q => absurd rfl q)
          refine W.iconst ok (pc' := 121) (1 : Int32) at_120 rfl rfl ?_
          exact W.retZ ok at_121 rfl (Nat.le_of_ble_eq_true rfl) (Nat.le_of_ble_eq_true rfl) (fun x (q : x ∈ M) => (List.mem_cons_of_mem _ q)) (fun kp => rfl)
        · show W B h46 1 4 (a1 :: M) (true, []) 83 #[.val (.int p0), .val (.int p1), .val (.int p2), .val (.int p3), .val (.int p4), .val (.ref a1), .val (.int (0 : Int32)), .val (.int (1 : Int32)), .unset, .unset, .unset, .unset, .unset, .unset, .unset, .unset] [(.int (1 : Int32))]
          have A48 := A45.ext (ext_keep K47)
          refine W.ifeq ok (pcY := 112) (pcN := 86) at_83 rfl (by decide) rfl (fun q => absurd q (by decide)) (fun _ => ?_)
          refine W.aload ok (pc' := 88) at_86 rfl rfl rfl ?_
          refine W.iconst ok (pc' := 89) (2 : Int32) at_88 rfl rfl ?_
          refine W.iload ok (pc' := 91) at_89 rfl rfl ?_
          refine W.callS ok (rest := []) (cl' := (true, [])) (pc' := 94) (w5 hw) (w6 hw) (w3 hw) (w7 hw) (by decide) pd_29 rfl (k_okAt l Z a0 hE a1 [x0, x1, x2, x3] 2 1 h46 A48 (by simp) (by simp) (by omega)) (fun _ q => (nomatch q)) (fun q => ⟨q, fun _ q => (nomatch q)⟩) rfl rfl (Nat.le_of_ble_eq_true rfl) (Nat.le_of_ble_eq_true rfl) (Nat.le_of_ble_eq_true rfl) (Nat.le_of_ble_eq_true rfl) at_91 rfl rfl (oldK fun v h49 hq K50 => ?_)
          rcases hq with rfl | ⟨rfl, o2⟩
          · show W B h49 1 4 (a1 :: M) (true, []) 94 #[.val (.int p0), .val (.int p1), .val (.int p2), .val (.int p3), .val (.int p4), .val (.ref a1), .val (.int (0 : Int32)), .val (.int (1 : Int32)), .unset, .unset, .unset, .unset, .unset, .unset, .unset, .unset] [(.int (0 : Int32))]
            refine W.ifeq ok (pcY := 112) (pcN := 97) at_94 rfl (by decide) rfl (fun _ => ?_) (fun q => absurd rfl q)
            refine W.iconst ok (pc' := 113) (0 : Int32) at_112 rfl rfl ?_
            refine W.istore ok (pc' := 115) (L' := #[.val (.int p0), .val (.int p1), .val (.int p2), .val (.int p3), .val (.int p4), .val (.ref a1), .val (.int (0 : Int32)), .val (.int (1 : Int32)), .val (.int (0 : Int32)), .unset, .unset, .unset, .unset, .unset, .unset, .unset]) at_113 rfl rfl ?_
            refine W.iload ok (pc' := 117) at_115 rfl rfl ?_
            refine W.ifne ok (pcY := 122) (pcN := 120) at_117 rfl (by decide) rfl (fun _ => ?_) (fun q => absurd rfl q)
            refine W.iconst ok (pc' := 121) (1 : Int32) at_120 rfl rfl ?_
            exact W.retZ ok at_121 rfl (Nat.le_of_ble_eq_true rfl) (Nat.le_of_ble_eq_true rfl) (fun x (q : x ∈ M) => (List.mem_cons_of_mem _ q)) (fun kp => rfl)
          · show W B h49 1 4 (a1 :: M) (true, []) 94 #[.val (.int p0), .val (.int p1), .val (.int p2), .val (.int p3), .val (.int p4), .val (.ref a1), .val (.int (0 : Int32)), .val (.int (1 : Int32)), .unset, .unset, .unset, .unset, .unset, .unset, .unset, .unset] [(.int (1 : Int32))]
            have A51 := A48.ext (ext_keep K50)
            refine W.ifeq ok (pcY := 112) (pcN := 97) at_94 rfl (by decide) rfl (fun q => absurd q (by decide)) (fun _ => ?_)
            refine W.aload ok (pc' := 99) at_97 rfl rfl rfl ?_
            refine W.iconst ok (pc' := 100) (3 : Int32) at_99 rfl rfl ?_
            refine W.iload ok (pc' := 102) at_100 rfl rfl ?_
            refine W.callS ok (rest := []) (cl' := (true, [])) (pc' := 105) (w5 hw) (w6 hw) (w3 hw) (w7 hw) (by decide) pd_29 rfl (k_okAt l Z a0 hE a1 [x0, x1, x2, x3] 3 1 h49 A51 (by simp) (by simp) (by omega)) (fun _ q => (nomatch q)) (fun q => ⟨q, fun _ q => (nomatch q)⟩) rfl rfl (Nat.le_of_ble_eq_true rfl) (Nat.le_of_ble_eq_true rfl) (Nat.le_of_ble_eq_true rfl) (Nat.le_of_ble_eq_true rfl) at_102 rfl rfl (oldK fun v h52 hq K53 => ?_)
            rcases hq with rfl | ⟨rfl, o3⟩
            · show W B h52 1 4 (a1 :: M) (true, []) 105 #[.val (.int p0), .val (.int p1), .val (.int p2), .val (.int p3), .val (.int p4), .val (.ref a1), .val (.int (0 : Int32)), .val (.int (1 : Int32)), .unset, .unset, .unset, .unset, .unset, .unset, .unset, .unset] [(.int (0 : Int32))]
              refine W.ifeq ok (pcY := 112) (pcN := 108) at_105 rfl (by decide) rfl (fun _ => ?_) (fun q => absurd rfl q)
              refine W.iconst ok (pc' := 113) (0 : Int32) at_112 rfl rfl ?_
              refine W.istore ok (pc' := 115) (L' := #[.val (.int p0), .val (.int p1), .val (.int p2), .val (.int p3), .val (.int p4), .val (.ref a1), .val (.int (0 : Int32)), .val (.int (1 : Int32)), .val (.int (0 : Int32)), .unset, .unset, .unset, .unset, .unset, .unset, .unset]) at_113 rfl rfl ?_
              refine W.iload ok (pc' := 117) at_115 rfl rfl ?_
              refine W.ifne ok (pcY := 122) (pcN := 120) at_117 rfl (by decide) rfl (fun _ => ?_) (fun q => absurd rfl q)
              refine W.iconst ok (pc' := 121) (1 : Int32) at_120 rfl rfl ?_
              exact W.retZ ok at_121 rfl (Nat.le_of_ble_eq_true rfl) (Nat.le_of_ble_eq_true rfl) (fun x (q : x ∈ M) => (List.mem_cons_of_mem _ q)) (fun kp => rfl)
            · show W B h52 1 4 (a1 :: M) (true, []) 105 #[.val (.int p0), .val (.int p1), .val (.int p2), .val (.int p3), .val (.int p4), .val (.ref a1), .val (.int (0 : Int32)), .val (.int (1 : Int32)), .unset, .unset, .unset, .unset, .unset, .unset, .unset, .unset] [(.int (1 : Int32))]
              have A54 := A51.ext (ext_keep K53)
              refine W.ifeq ok (pcY := 112) (pcN := 108) at_105 rfl (by decide) rfl (fun q => absurd q (by decide)) (fun _ => ?_)
              refine W.iconst ok (pc' := 109) (1 : Int32) at_108 rfl rfl ?_
              refine W.goto ok (pc' := 113) at_109 (by decide) rfl ?_
              refine W.istore ok (pc' := 115) (L' := #[.val (.int p0), .val (.int p1), .val (.int p2), .val (.int p3), .val (.int p4), .val (.ref a1), .val (.int (0 : Int32)), .val (.int (1 : Int32)), .val (.int (1 : Int32)), .unset, .unset, .unset, .unset, .unset, .unset, .unset]) at_113 rfl rfl ?_
              refine W.iload ok (pc' := 117) at_115 rfl rfl ?_
              refine W.ifne ok (pcY := 122) (pcN := 120) at_117 rfl (by decide) rfl (fun q => absurd q (by decide)) (fun _ => ?_)
              refine W.aload ok (pc' := 124) at_122 rfl rfl rfl ?_
              refine W.iconst ok (pc' := 125) (0 : Int32) at_124 rfl rfl ?_
              refine W.iload ok (pc' := 127) at_125 rfl rfl ?_
              refine W.callS ok (rest := []) (cl' := (true, [])) (pc' := 130) (w16 hw) (w17 hw) (w3 hw) (w18 hw) (by decide) pd_30 rfl (k_highY l Z a0 hE a1 [x0, x1, x2, x3] 0 1 x0 h52 A54 rfl (by omega) (by omega)) (fun _ q => (nomatch q)) (fun q => ⟨q, fun _ q => (nomatch q)⟩) rfl rfl (Nat.le_of_ble_eq_true rfl) (Nat.le_of_ble_eq_true rfl) (Nat.le_of_ble_eq_true rfl) (Nat.le_of_ble_eq_true rfl) at_127 rfl rfl (pureK ?_)
              show W B h52 1 4 (a1 :: M) (true, []) 130 #[.val (.int p0), .val (.int p1), .val (.int p2), .val (.int p3), .val (.int p4), .val (.ref a1), .val (.int (0 : Int32)), .val (.int (1 : Int32)), .val (.int (1 : Int32)), .unset, .unset, .unset, .unset, .unset, .unset, .unset] [(.int ((hb x0).toInt32))]
              refine W.aload ok (pc' := 132) at_130 rfl rfl rfl ?_
              refine W.iconst ok (pc' := 133) (1 : Int32) at_132 rfl rfl ?_
              refine W.iload ok (pc' := 135) at_133 rfl rfl ?_
              refine W.callS ok (rest := [(.int ((hb x0).toInt32))]) (cl' := (true, [])) (pc' := 138) (w16 hw) (w17 hw) (w3 hw) (w18 hw) (by decide) pd_30 rfl (k_highN l Z a0 hE a1 1 1 h52 (by omega) (by omega)) (fun _ q => (nomatch q)) (fun q => ⟨q, fun _ q => (nomatch q)⟩) rfl rfl (Nat.le_of_ble_eq_true rfl) (Nat.le_of_ble_eq_true rfl) (Nat.le_of_ble_eq_true rfl) (Nat.le_of_ble_eq_true rfl) at_135 rfl rfl (pureK ?_)
              show W B h52 1 4 (a1 :: M) (true, []) 138 #[.val (.int p0), .val (.int p1), .val (.int p2), .val (.int p3), .val (.int p4), .val (.ref a1), .val (.int (0 : Int32)), .val (.int (1 : Int32)), .val (.int (1 : Int32)), .unset, .unset, .unset, .unset, .unset, .unset, .unset] [(.int (0 : Int32)), (.int ((hb x0).toInt32))]
              refine W.iadd ok (pc' := 139) at_138 rfl ?_
              refine W.aload ok (pc' := 141) at_139 rfl rfl rfl ?_
              refine W.iconst ok (pc' := 142) (2 : Int32) at_141 rfl rfl ?_
              refine W.iload ok (pc' := 144) at_142 rfl rfl ?_
              refine W.callS ok (rest := [(.int (((hb x0).toInt32) + (0 : Int32)))]) (cl' := (true, [])) (pc' := 147) (w16 hw) (w17 hw) (w3 hw) (w18 hw) (by decide) pd_30 rfl (k_highN l Z a0 hE a1 2 1 h52 (by omega) (by omega)) (fun _ q => (nomatch q)) (fun q => ⟨q, fun _ q => (nomatch q)⟩) rfl rfl (Nat.le_of_ble_eq_true rfl) (Nat.le_of_ble_eq_true rfl) (Nat.le_of_ble_eq_true rfl) (Nat.le_of_ble_eq_true rfl) at_144 rfl rfl (pureK ?_)
              show W B h52 1 4 (a1 :: M) (true, []) 147 #[.val (.int p0), .val (.int p1), .val (.int p2), .val (.int p3), .val (.int p4), .val (.ref a1), .val (.int (0 : Int32)), .val (.int (1 : Int32)), .val (.int (1 : Int32)), .unset, .unset, .unset, .unset, .unset, .unset, .unset] [(.int (0 : Int32)), (.int (((hb x0).toInt32) + (0 : Int32)))]
              refine W.iadd ok (pc' := 148) at_147 rfl ?_
              refine W.aload ok (pc' := 150) at_148 rfl rfl rfl ?_
              refine W.iconst ok (pc' := 151) (3 : Int32) at_150 rfl rfl ?_
              refine W.iload ok (pc' := 153) at_151 rfl rfl ?_
              refine W.callS ok (rest := [(.int ((((hb x0).toInt32) + (0 : Int32)) + (0 : Int32)))]) (cl' := (true, [])) (pc' := 156) (w16 hw) (w17 hw) (w3 hw) (w18 hw) (by decide) pd_30 rfl (k_highN l Z a0 hE a1 3 1 h52 (by omega) (by omega)) (fun _ q => (nomatch q)) (fun q => ⟨q, fun _ q => (nomatch q)⟩) rfl rfl (Nat.le_of_ble_eq_true rfl) (Nat.le_of_ble_eq_true rfl) (Nat.le_of_ble_eq_true rfl) (Nat.le_of_ble_eq_true rfl) at_153 rfl rfl (pureK ?_)
              show W B h52 1 4 (a1 :: M) (true, []) 156 #[.val (.int p0), .val (.int p1), .val (.int p2), .val (.int p3), .val (.int p4), .val (.ref a1), .val (.int (0 : Int32)), .val (.int (1 : Int32)), .val (.int (1 : Int32)), .unset, .unset, .unset, .unset, .unset, .unset, .unset] [(.int (0 : Int32)), (.int ((((hb x0).toInt32) + (0 : Int32)) + (0 : Int32)))]
              refine W.iadd ok (pc' := 157) at_156 rfl ?_
              refine W.istore ok (pc' := 159) (L' := #[.val (.int p0), .val (.int p1), .val (.int p2), .val (.int p3), .val (.int p4), .val (.ref a1), .val (.int (0 : Int32)), .val (.int (1 : Int32)), .val (.int (1 : Int32)), .val (.int (((((hb x0).toInt32) + (0 : Int32)) + (0 : Int32)) + (0 : Int32))), .unset, .unset, .unset, .unset, .unset, .unset]) at_157 rfl rfl ?_
              refine W.iload ok (pc' := 161) at_159 rfl rfl ?_
              obtain ⟨m, hW, hm⟩ := Cn.wf 4 [x0] (by simp) (cn1 o0)
              simp only [hs, List.length_cons, List.length_nil] at hm
              refine W.ifeq ok (pcY := 170) (pcN := 164) at_161 rfl (by decide) rfl (fun _ => ?_) (fun q => absurd rfl q)
              refine W.iconst ok (pc' := 171) (0 : Int32) at_170 rfl rfl ?_
              refine W.iload ok (pc' := 173) at_171 rfl rfl ?_
              refine W.iadd ok (pc' := 174) at_173 rfl ?_
              refine W.iload ok (pc' := 176) at_174 rfl rfl ?_
              refine W.isub ok (pc' := 177) at_176 rfl ?_
              generalize hcz : (((0 : Int32) + (1 : Int32)) - (((((hb x0).toInt32) + (0 : Int32)) + (0 : Int32)) + (0 : Int32))) = cz
              have ecz : cz = (0 + m).toInt32 := by
                rw [← hcz]
                show ((0 : Nat).toInt32 + (1 : Nat).toInt32) - ((hb x0).toInt32 + (0 : Nat).toInt32 + (0 : Nat).toInt32 + (0 : Nat).toInt32) = _
                rw [i32_add, i32_add, i32_add, i32_add, i32_sub (by omega) (by omega)]
                congr 1
                omega
              subst ecz
              have hml : m ≤ 4 := by omega
              refine W.istore ok (pc' := 179) (L' := #[.val (.int p0), .val (.int p1), .val (.int p2), .val (.int p3), .val (.int p4), .val (.ref a1), .val (.int (0 : Int32)), .val (.int (1 : Int32)), .val (.int (1 : Int32)), .val (.int (((((hb x0).toInt32) + (0 : Int32)) + (0 : Int32)) + (0 : Int32))), .val (.int ((0 + m).toInt32)), .unset, .unset, .unset, .unset, .unset]) at_177 rfl rfl ?_
              refine W.iload ok (pc' := 181) at_179 rfl rfl ?_
              refine W.iconst ok (pc' := 182) (1 : Int32) at_181 rfl rfl ?_
              refine W.icmplt ok (pcY := 193) (pcN := 185) at_182 rfl (by decide) rfl (fun d1 => ?_) (fun d1 => ?_)
              · refine W.iconst ok (pc' := 194) (1 : Int32) at_193 rfl rfl ?_
                exact W.retZ ok at_194 rfl (Nat.le_of_ble_eq_true rfl) (Nat.le_of_ble_eq_true rfl) (fun x (q : x ∈ M) => (List.mem_cons_of_mem _ q)) (fun kp => rfl)
              · have d1' : 1 ≤ 0 + m := by
                  rcases Nat.lt_or_ge (0 + m) 1 with q | q
                  · exact absurd ((i32_lt (a := 0 + m) (b := 1) (by omega) (by omega)).mpr q) d1
                  · exact q
                refine W.iload ok (pc' := 187) at_185 rfl rfl ?_
                refine W.sipush ok (pc' := 190) (200 : Int32) at_187 rfl rfl ?_
                refine W.icmple ok (pcY := 195) (pcN := 193) at_190 rfl (by decide) rfl (fun d2 => ?_) (fun d2 => ?_)
                · refine W.iconst ok (pc' := 194) (1 : Int32) at_193 rfl rfl ?_
                  exact W.retZ ok at_194 rfl (Nat.le_of_ble_eq_true rfl) (Nat.le_of_ble_eq_true rfl) (fun x (q : x ∈ M) => (List.mem_cons_of_mem _ q)) (fun kp => rfl)
                · have d2' : 0 + m ≤ 200 := by
                    rcases Nat.lt_or_ge 200 (0 + m) with q | q
                    · exact absurd ((i32_lt (a := 200) (b := 0 + m) (by omega) (by omega)).mpr q) d2
                    · exact q
                  refine W.iload ok (pc' := 197) at_195 rfl rfl ?_
                  refine W.ifeq ok (pcY := 250) (pcN := 200) at_197 rfl (by decide) rfl (fun _ => ?_) (fun q => absurd rfl q)
                  refine W.iload ok (pc' := 252) at_250 rfl rfl ?_
                  refine W.iconst ok (pc' := 253) (1 : Int32) at_252 rfl rfl ?_
                  refine W.icmpne ok (pcY := 271) (pcN := 256) at_253 rfl (by decide) rfl (fun _ => ?_) (fun q => absurd rfl q)
                  refine W.iconst ok (pc' := 257) (1 : Int32) at_256 rfl rfl ?_
                  refine W.newC ok (pc' := 259) (cap := 1) (w0 hw) (by decide) (by decide) (by decide) at_257 rfl (Nat.le_of_ble_eq_true rfl) (Nat.le_of_ble_eq_true rfl) (fun a55 h56 z57 ea58 E59 A60 => ?_)
                  replace A60 := A60.cast (cs' := [0]) rfl
                  have lc := A54.gt
                  have nc61 : a1 ≠ a55 := ane (by omega)
                  refine W.dup ok (pc' := 260) at_259 rfl rfl ?_
                  refine W.iconst ok (pc' := 261) (0 : Int32) at_260 rfl rfl ?_
                  refine W.aload ok (pc' := 263) at_261 rfl rfl rfl ?_
                  refine W.iconst ok (pc' := 264) (0 : Int32) at_263 rfl rfl ?_
                  refine W.caload ok (pc' := 265) (A54.ext E59) x0 (by decide) rfl at_264 rfl ?_
                  refine W.castore ok (pc' := 266) (cl' := (true, [])) A60 (by decide) (Nat.le_of_ble_eq_true rfl) (List.mem_cons_self ..) (Or.inr z57) (fun q => ⟨q, z57⟩) rfl at_265 rfl (fun h62 Wr63 A64 => ?_)
                  replace A64 := A64.cast (cs' := [x0]) (by rw [c16_of r0]; rfl)
                  have A65 := (A54.ext E59).other Wr63 nc61
                  refine W.astore ok (pc' := 268) (L' := #[.val (.int p0), .val (.int p1), .val (.int p2), .val (.int p3), .val (.int p4), .val (.ref a1), .val (.int (0 : Int32)), .val (.int (1 : Int32)), .val (.int (1 : Int32)), .val (.int (((((hb x0).toInt32) + (0 : Int32)) + (0 : Int32)) + (0 : Int32))), .val (.int ((0 + m).toInt32)), .val (.ref a55), .unset, .unset, .unset, .unset]) at_266 rfl rfl rfl ?_
                  refine W.goto ok (pc' := 367) at_268 (by decide) rfl ?_
                  refine W.weaken (k' := 2) (n' := 205) (cl' := (true, [])) (by decide) (by decide) (fun q => q) (fun e q => by first | exact q | (nomatch q)) ?_
                  exact tail _ a55 [x0] (0 + m) _ _ _ _ _ A64 (by rw [Nat.zero_add]; exact hW) d1' d2' (by simp)
    · refine W.iconst ok (pc' := 61) (1 : Int32) at_60 rfl rfl ?_
      refine W.iadd ok (pc' := 62) at_61 rfl ?_
      rw [show ((1 : Int32) + (1 : Int32)) = (2 : Int32) from by decide]
      refine W.istore ok (pc' := 64) (L' := #[.val (.int p0), .val (.int p1), .val (.int p2), .val (.int p3), .val (.int p4), .val (.ref a1), .val (.int (0 : Int32)), .val (.int (2 : Int32)), .unset, .unset, .unset, .unset, .unset, .unset, .unset, .unset]) at_62 rfl rfl ?_
      refine W.aload ok (pc' := 66) at_64 rfl rfl rfl ?_
      refine W.iconst ok (pc' := 67) (0 : Int32) at_66 rfl rfl ?_
      refine W.iload ok (pc' := 69) at_67 rfl rfl ?_
      refine W.callS ok (rest := []) (cl' := (true, [])) (pc' := 72) (w5 hw) (w6 hw) (w3 hw) (w7 hw) (by decide) pd_29 rfl (k_okAt l Z a0 hE a1 [x0, x1, x2, x3] 0 2 h16 A18 (by simp) (by simp) (by omega)) (fun _ q => (nomatch q)) (fun q => ⟨q, fun _ q => (nomatch q)⟩) rfl rfl (Nat.le_of_ble_eq_true rfl) (Nat.le_of_ble_eq_true rfl) (Nat.le_of_ble_eq_true rfl) (Nat.le_of_ble_eq_true rfl) at_69 rfl rfl (oldK fun v h66 hq K67 => ?_)
      rcases hq with rfl | ⟨rfl, o0⟩
      · show W B h66 1 4 (a1 :: M) (true, []) 72 #[.val (.int p0), .val (.int p1), .val (.int p2), .val (.int p3), .val (.int p4), .val (.ref a1), .val (.int (0 : Int32)), .val (.int (2 : Int32)), .unset, .unset, .unset, .unset, .unset, .unset, .unset, .unset] [(.int (0 : Int32))]
        refine W.ifeq ok (pcY := 112) (pcN := 75) at_72 rfl (by decide) rfl (fun _ => ?_) (fun q => absurd rfl q)
        refine W.iconst ok (pc' := 113) (0 : Int32) at_112 rfl rfl ?_
        refine W.istore ok (pc' := 115) (L' := #[.val (.int p0), .val (.int p1), .val (.int p2), .val (.int p3), .val (.int p4), .val (.ref a1), .val (.int (0 : Int32)), .val (.int (2 : Int32)), .val (.int (0 : Int32)), .unset, .unset, .unset, .unset, .unset, .unset, .unset]) at_113 rfl rfl ?_
        refine W.iload ok (pc' := 117) at_115 rfl rfl ?_
        refine W.ifne ok (pcY := 122) (pcN := 120) at_117 rfl (by decide) rfl (fun _ => ?_) (fun q => absurd rfl q)
        refine W.iconst ok (pc' := 121) (1 : Int32) at_120 rfl rfl ?_
        exact W.retZ ok at_121 rfl (Nat.le_of_ble_eq_true rfl) (Nat.le_of_ble_eq_true rfl) (fun x (q : x ∈ M) => (List.mem_cons_of_mem _ q)) (fun kp => rfl)
      · show W B h66 1 4 (a1 :: M) (true, []) 72 #[.val (.int p0), .val (.int p1), .val (.int p2), .val (.int p3), .val (.int p4), .val (.ref a1), .val (.int (0 : Int32)), .val (.int (2 : Int32)), .unset, .unset, .unset, .unset, .unset, .unset, .unset, .unset] [(.int (1 : Int32))]
        have A68 := A18.ext (ext_keep K67)
        refine W.ifeq ok (pcY := 112) (pcN := 75) at_72 rfl (by decide) rfl (fun q => absurd q (by decide)) (fun _ => ?_)
        refine W.aload ok (pc' := 77) at_75 rfl rfl rfl ?_
        refine W.iconst ok (pc' := 78) (1 : Int32) at_77 rfl rfl ?_
        refine W.iload ok (pc' := 80) at_78 rfl rfl ?_
        refine W.callS ok (rest := []) (cl' := (true, [])) (pc' := 83) (w5 hw) (w6 hw) (w3 hw) (w7 hw) (by decide) pd_29 rfl (k_okAt l Z a0 hE a1 [x0, x1, x2, x3] 1 2 h66 A68 (by simp) (by simp) (by omega)) (fun _ q => (nomatch q)) (fun q => ⟨q, fun _ q => (nomatch q)⟩) rfl rfl (Nat.le_of_ble_eq_true rfl) (Nat.le_of_ble_eq_true rfl) (Nat.le_of_ble_eq_true rfl) (Nat.le_of_ble_eq_true rfl) at_80 rfl rfl (oldK fun v h69 hq K70 => ?_)
        rcases hq with rfl | ⟨rfl, o1⟩
        · show W B h69 1 4 (a1 :: M) (true, []) 83 #[.val (.int p0), .val (.int p1), .val (.int p2), .val (.int p3), .val (.int p4), .val (.ref a1), .val (.int (0 : Int32)), .val (.int (2 : Int32)), .unset, .unset, .unset, .unset, .unset, .unset, .unset, .unset] [(.int (0 : Int32))]
          refine W.ifeq ok (pcY := 112) (pcN := 86) at_83 rfl (by decide) rfl (fun _ => ?_) (fun q => absurd rfl q)
          refine W.iconst ok (pc' := 113) (0 : Int32) at_112 rfl rfl ?_
          refine W.istore ok (pc' := 115) (L' := #[.val (.int p0), .val (.int p1), .val (.int p2), .val (.int p3), .val (.int p4), .val (.ref a1), .val (.int (0 : Int32)), .val (.int (2 : Int32)), .val (.int (0 : Int32)), .unset, .unset, .unset, .unset, .unset, .unset, .unset]) at_113 rfl rfl ?_
          refine W.iload ok (pc' := 117) at_115 rfl rfl ?_
          refine W.ifne ok (pcY := 122) (pcN := 120) at_117 rfl (by decide) rfl (fun _ => ?_) (fun q => absurd rfl q)
          refine W.iconst ok (pc' := 121) (1 : Int32) at_120 rfl rfl ?_
          exact W.retZ ok at_121 rfl (Nat.le_of_ble_eq_true rfl) (Nat.le_of_ble_eq_true rfl) (fun x (q : x ∈ M) => (List.mem_cons_of_mem _ q)) (fun kp => rfl)
        · show W B h69 1 4 (a1 :: M) (true, []) 83 #[.val (.int p0), .val (.int p1), .val (.int p2), .val (.int p3), .val (.int p4), .val (.ref a1), .val (.int (0 : Int32)), .val (.int (2 : Int32)), .unset, .unset, .unset, .unset, .unset, .unset, .unset, .unset] [(.int (1 : Int32))]
          have A71 := A68.ext (ext_keep K70)
          refine W.ifeq ok (pcY := 112) (pcN := 86) at_83 rfl (by decide) rfl (fun q => absurd q (by decide)) (fun _ => ?_)
          refine W.aload ok (pc' := 88) at_86 rfl rfl rfl ?_
          refine W.iconst ok (pc' := 89) (2 : Int32) at_88 rfl rfl ?_
          refine W.iload ok (pc' := 91) at_89 rfl rfl ?_
          refine W.callS ok (rest := []) (cl' := (true, [])) (pc' := 94) (w5 hw) (w6 hw) (w3 hw) (w7 hw) (by decide) pd_29 rfl (k_okAt l Z a0 hE a1 [x0, x1, x2, x3] 2 2 h69 A71 (by simp) (by simp) (by omega)) (fun _ q => (nomatch q)) (fun q => ⟨q, fun _ q => (nomatch q)⟩) rfl rfl (Nat.le_of_ble_eq_true rfl) (Nat.le_of_ble_eq_true rfl) (Nat.le_of_ble_eq_true rfl) (Nat.le_of_ble_eq_true rfl) at_91 rfl rfl (oldK fun v h72 hq K73 => ?_)
          rcases hq with rfl | ⟨rfl, o2⟩
          · show W B h72 1 4 (a1 :: M) (true, []) 94 #[.val (.int p0), .val (.int p1), .val (.int p2), .val (.int p3), .val (.int p4), .val (.ref a1), .val (.int (0 : Int32)), .val (.int (2 : Int32)), .unset, .unset, .unset, .unset, .unset, .unset, .unset, .unset] [(.int (0 : Int32))]
            refine W.ifeq ok (pcY := 112) (pcN := 97) at_94 rfl (by decide) rfl (fun _ => ?_) (fun q => absurd rfl q)
            refine W.iconst ok (pc' := 113) (0 : Int32) at_112 rfl rfl ?_
            refine W.istore ok (pc' := 115) (L' := #[.val (.int p0), .val (.int p1), .val (.int p2), .val (.int p3), .val (.int p4), .val (.ref a1), .val (.int (0 : Int32)), .val (.int (2 : Int32)), .val (.int (0 : Int32)), .unset, .unset, .unset, .unset, .unset, .unset, .unset]) at_113 rfl rfl ?_
            refine W.iload ok (pc' := 117) at_115 rfl rfl ?_
            refine W.ifne ok (pcY := 122) (pcN := 120) at_117 rfl (by decide) rfl (fun _ => ?_) (fun q => absurd rfl q)
            refine W.iconst ok (pc' := 121) (1 : Int32) at_120 rfl rfl ?_
            exact W.retZ ok at_121 rfl (Nat.le_of_ble_eq_true rfl) (Nat.le_of_ble_eq_true rfl) (fun x (q : x ∈ M) => (List.mem_cons_of_mem _ q)) (fun kp => rfl)
          · show W B h72 1 4 (a1 :: M) (true, []) 94 #[.val (.int p0), .val (.int p1), .val (.int p2), .val (.int p3), .val (.int p4), .val (.ref a1), .val (.int (0 : Int32)), .val (.int (2 : Int32)), .unset, .unset, .unset, .unset, .unset, .unset, .unset, .unset] [(.int (1 : Int32))]
            have A74 := A71.ext (ext_keep K73)
            refine W.ifeq ok (pcY := 112) (pcN := 97) at_94 rfl (by decide) rfl (fun q => absurd q (by decide)) (fun _ => ?_)
            refine W.aload ok (pc' := 99) at_97 rfl rfl rfl ?_
            refine W.iconst ok (pc' := 100) (3 : Int32) at_99 rfl rfl ?_
            refine W.iload ok (pc' := 102) at_100 rfl rfl ?_
            refine W.callS ok (rest := []) (cl' := (true, [])) (pc' := 105) (w5 hw) (w6 hw) (w3 hw) (w7 hw) (by decide) pd_29 rfl (k_okAt l Z a0 hE a1 [x0, x1, x2, x3] 3 2 h72 A74 (by simp) (by simp) (by omega)) (fun _ q => (nomatch q)) (fun q => ⟨q, fun _ q => (nomatch q)⟩) rfl rfl (Nat.le_of_ble_eq_true rfl) (Nat.le_of_ble_eq_true rfl) (Nat.le_of_ble_eq_true rfl) (Nat.le_of_ble_eq_true rfl) at_102 rfl rfl (oldK fun v h75 hq K76 => ?_)
            rcases hq with rfl | ⟨rfl, o3⟩
            · show W B h75 1 4 (a1 :: M) (true, []) 105 #[.val (.int p0), .val (.int p1), .val (.int p2), .val (.int p3), .val (.int p4), .val (.ref a1), .val (.int (0 : Int32)), .val (.int (2 : Int32)), .unset, .unset, .unset, .unset, .unset, .unset, .unset, .unset] [(.int (0 : Int32))]
              refine W.ifeq ok (pcY := 112) (pcN := 108) at_105 rfl (by decide) rfl (fun _ => ?_) (fun q => absurd rfl q)
              refine W.iconst ok (pc' := 113) (0 : Int32) at_112 rfl rfl ?_
              refine W.istore ok (pc' := 115) (L' := #[.val (.int p0), .val (.int p1), .val (.int p2), .val (.int p3), .val (.int p4), .val (.ref a1), .val (.int (0 : Int32)), .val (.int (2 : Int32)), .val (.int (0 : Int32)), .unset, .unset, .unset, .unset, .unset, .unset, .unset]) at_113 rfl rfl ?_
              refine W.iload ok (pc' := 117) at_115 rfl rfl ?_
              refine W.ifne ok (pcY := 122) (pcN := 120) at_117 rfl (by decide) rfl (fun _ => ?_) (fun q => absurd rfl q)
              refine W.iconst ok (pc' := 121) (1 : Int32) at_120 rfl rfl ?_
              exact W.retZ ok at_121 rfl (Nat.le_of_ble_eq_true rfl) (Nat.le_of_ble_eq_true rfl) (fun x (q : x ∈ M) => (List.mem_cons_of_mem _ q)) (fun kp => rfl)
            · show W B h75 1 4 (a1 :: M) (true, []) 105 #[.val (.int p0), .val (.int p1), .val (.int p2), .val (.int p3), .val (.int p4), .val (.ref a1), .val (.int (0 : Int32)), .val (.int (2 : Int32)), .unset, .unset, .unset, .unset, .unset, .unset, .unset, .unset] [(.int (1 : Int32))]
              have A77 := A74.ext (ext_keep K76)
              refine W.ifeq ok (pcY := 112) (pcN := 108) at_105 rfl (by decide) rfl (fun q => absurd q (by decide)) (fun _ => ?_)
              refine W.iconst ok (pc' := 109) (1 : Int32) at_108 rfl rfl ?_
              refine W.goto ok (pc' := 113) at_109 (by decide) rfl ?_
              refine W.istore ok (pc' := 115) (L' := #[.val (.int p0), .val (.int p1), .val (.int p2), .val (.int p3), .val (.int p4), .val (.ref a1), .val (.int (0 : Int32)), .val (.int (2 : Int32)), .val (.int (1 : Int32)), .unset, .unset, .unset, .unset, .unset, .unset, .unset]) at_113 rfl rfl ?_
              refine W.iload ok (pc' := 117) at_115 rfl rfl ?_
              refine W.ifne ok (pcY := 122) (pcN := 120) at_117 rfl (by decide) rfl (fun q => absurd q (by decide)) (fun _ => ?_)
              refine W.aload ok (pc' := 124) at_122 rfl rfl rfl ?_
              refine W.iconst ok (pc' := 125) (0 : Int32) at_124 rfl rfl ?_
              refine W.iload ok (pc' := 127) at_125 rfl rfl ?_
              refine W.callS ok (rest := []) (cl' := (true, [])) (pc' := 130) (w16 hw) (w17 hw) (w3 hw) (w18 hw) (by decide) pd_30 rfl (k_highY l Z a0 hE a1 [x0, x1, x2, x3] 0 2 x0 h75 A77 rfl (by omega) (by omega)) (fun _ q => (nomatch q)) (fun q => ⟨q, fun _ q => (nomatch q)⟩) rfl rfl (Nat.le_of_ble_eq_true rfl) (Nat.le_of_ble_eq_true rfl) (Nat.le_of_ble_eq_true rfl) (Nat.le_of_ble_eq_true rfl) at_127 rfl rfl (pureK ?_)
              show W B h75 1 4 (a1 :: M) (true, []) 130 #[.val (.int p0), .val (.int p1), .val (.int p2), .val (.int p3), .val (.int p4), .val (.ref a1), .val (.int (0 : Int32)), .val (.int (2 : Int32)), .val (.int (1 : Int32)), .unset, .unset, .unset, .unset, .unset, .unset, .unset] [(.int ((hb x0).toInt32))]
              refine W.aload ok (pc' := 132) at_130 rfl rfl rfl ?_
              refine W.iconst ok (pc' := 133) (1 : Int32) at_132 rfl rfl ?_
              refine W.iload ok (pc' := 135) at_133 rfl rfl ?_
              refine W.callS ok (rest := [(.int ((hb x0).toInt32))]) (cl' := (true, [])) (pc' := 138) (w16 hw) (w17 hw) (w3 hw) (w18 hw) (by decide) pd_30 rfl (k_highY l Z a0 hE a1 [x0, x1, x2, x3] 1 2 x1 h75 A77 rfl (by omega) (by omega)) (fun _ q => (nomatch q)) (fun q => ⟨q, fun _ q => (nomatch q)⟩) rfl rfl (Nat.le_of_ble_eq_true rfl) (Nat.le_of_ble_eq_true rfl) (Nat.le_of_ble_eq_true rfl) (Nat.le_of_ble_eq_true rfl) at_135 rfl rfl (pureK ?_)
              show W B h75 1 4 (a1 :: M) (true, []) 138 #[.val (.int p0), .val (.int p1), .val (.int p2), .val (.int p3), .val (.int p4), .val (.ref a1), .val (.int (0 : Int32)), .val (.int (2 : Int32)), .val (.int (1 : Int32)), .unset, .unset, .unset, .unset, .unset, .unset, .unset] [(.int ((hb x1).toInt32)), (.int ((hb x0).toInt32))]
              refine W.iadd ok (pc' := 139) at_138 rfl ?_
              refine W.aload ok (pc' := 141) at_139 rfl rfl rfl ?_
              refine W.iconst ok (pc' := 142) (2 : Int32) at_141 rfl rfl ?_
              refine W.iload ok (pc' := 144) at_142 rfl rfl ?_
              refine W.callS ok (rest := [(.int (((hb x0).toInt32) + ((hb x1).toInt32)))]) (cl' := (true, [])) (pc' := 147) (w16 hw) (w17 hw) (w3 hw) (w18 hw) (by decide) pd_30 rfl (k_highN l Z a0 hE a1 2 2 h75 (by omega) (by omega)) (fun _ q => (nomatch q)) (fun q => ⟨q, fun _ q => (nomatch q)⟩) rfl rfl (Nat.le_of_ble_eq_true rfl) (Nat.le_of_ble_eq_true rfl) (Nat.le_of_ble_eq_true rfl) (Nat.le_of_ble_eq_true rfl) at_144 rfl rfl (pureK ?_)
              show W B h75 1 4 (a1 :: M) (true, []) 147 #[.val (.int p0), .val (.int p1), .val (.int p2), .val (.int p3), .val (.int p4), .val (.ref a1), .val (.int (0 : Int32)), .val (.int (2 : Int32)), .val (.int (1 : Int32)), .unset, .unset, .unset, .unset, .unset, .unset, .unset] [(.int (0 : Int32)), (.int (((hb x0).toInt32) + ((hb x1).toInt32)))]
              refine W.iadd ok (pc' := 148) at_147 rfl ?_
              refine W.aload ok (pc' := 150) at_148 rfl rfl rfl ?_
              refine W.iconst ok (pc' := 151) (3 : Int32) at_150 rfl rfl ?_
              refine W.iload ok (pc' := 153) at_151 rfl rfl ?_
              refine W.callS ok (rest := [(.int ((((hb x0).toInt32) + ((hb x1).toInt32)) + (0 : Int32)))]) (cl' := (true, [])) (pc' := 156) (w16 hw) (w17 hw) (w3 hw) (w18 hw) (by decide) pd_30 rfl (k_highN l Z a0 hE a1 3 2 h75 (by omega) (by omega)) (fun _ q => (nomatch q)) (fun q => ⟨q, fun _ q => (nomatch q)⟩) rfl rfl (Nat.le_of_ble_eq_true rfl) (Nat.le_of_ble_eq_true rfl) (Nat.le_of_ble_eq_true rfl) (Nat.le_of_ble_eq_true rfl) at_153 rfl rfl (pureK ?_)
              show W B h75 1 4 (a1 :: M) (true, []) 156 #[.val (.int p0), .val (.int p1), .val (.int p2), .val (.int p3), .val (.int p4), .val (.ref a1), .val (.int (0 : Int32)), .val (.int (2 : Int32)), .val (.int (1 : Int32)), .unset, .unset, .unset, .unset, .unset, .unset, .unset] [(.int (0 : Int32)), (.int ((((hb x0).toInt32) + ((hb x1).toInt32)) + (0 : Int32)))]
              refine W.iadd ok (pc' := 157) at_156 rfl ?_
              refine W.istore ok (pc' := 159) (L' := #[.val (.int p0), .val (.int p1), .val (.int p2), .val (.int p3), .val (.int p4), .val (.ref a1), .val (.int (0 : Int32)), .val (.int (2 : Int32)), .val (.int (1 : Int32)), .val (.int (((((hb x0).toInt32) + ((hb x1).toInt32)) + (0 : Int32)) + (0 : Int32))), .unset, .unset, .unset, .unset, .unset, .unset]) at_157 rfl rfl ?_
              refine W.iload ok (pc' := 161) at_159 rfl rfl ?_
              obtain ⟨m, hW, hm⟩ := Cn.wf 4 [x0, x1] (by simp) (cn2 o0 o1)
              simp only [hs, List.length_cons, List.length_nil] at hm
              refine W.ifeq ok (pcY := 170) (pcN := 164) at_161 rfl (by decide) rfl (fun _ => ?_) (fun q => absurd rfl q)
              refine W.iconst ok (pc' := 171) (0 : Int32) at_170 rfl rfl ?_
              refine W.iload ok (pc' := 173) at_171 rfl rfl ?_
              refine W.iadd ok (pc' := 174) at_173 rfl ?_
              refine W.iload ok (pc' := 176) at_174 rfl rfl ?_
              refine W.isub ok (pc' := 177) at_176 rfl ?_
              generalize hcz : (((0 : Int32) + (2 : Int32)) - (((((hb x0).toInt32) + ((hb x1).toInt32)) + (0 : Int32)) + (0 : Int32))) = cz
              have ecz : cz = (0 + m).toInt32 := by
                rw [← hcz]
                show ((0 : Nat).toInt32 + (2 : Nat).toInt32) - ((hb x0).toInt32 + (hb x1).toInt32 + (0 : Nat).toInt32 + (0 : Nat).toInt32) = _
                rw [i32_add, i32_add, i32_add, i32_add, i32_sub (by omega) (by omega)]
                congr 1
                omega
              subst ecz
              have hml : m ≤ 4 := by omega
              refine W.istore ok (pc' := 179) (L' := #[.val (.int p0), .val (.int p1), .val (.int p2), .val (.int p3), .val (.int p4), .val (.ref a1), .val (.int (0 : Int32)), .val (.int (2 : Int32)), .val (.int (1 : Int32)), .val (.int (((((hb x0).toInt32) + ((hb x1).toInt32)) + (0 : Int32)) + (0 : Int32))), .val (.int ((0 + m).toInt32)), .unset, .unset, .unset, .unset, .unset]) at_177 rfl rfl ?_
              refine W.iload ok (pc' := 181) at_179 rfl rfl ?_
              refine W.iconst ok (pc' := 182) (1 : Int32) at_181 rfl rfl ?_
              refine W.icmplt ok (pcY := 193) (pcN := 185) at_182 rfl (by decide) rfl (fun d1 => ?_) (fun d1 => ?_)
              · refine W.iconst ok (pc' := 194) (1 : Int32) at_193 rfl rfl ?_
                exact W.retZ ok at_194 rfl (Nat.le_of_ble_eq_true rfl) (Nat.le_of_ble_eq_true rfl) (fun x (q : x ∈ M) => (List.mem_cons_of_mem _ q)) (fun kp => rfl)
              · have d1' : 1 ≤ 0 + m := by
                  rcases Nat.lt_or_ge (0 + m) 1 with q | q
                  · exact absurd ((i32_lt (a := 0 + m) (b := 1) (by omega) (by omega)).mpr q) d1
                  · exact q
                refine W.iload ok (pc' := 187) at_185 rfl rfl ?_
                refine W.sipush ok (pc' := 190) (200 : Int32) at_187 rfl rfl ?_
                refine W.icmple ok (pcY := 195) (pcN := 193) at_190 rfl (by decide) rfl (fun d2 => ?_) (fun d2 => ?_)
                · refine W.iconst ok (pc' := 194) (1 : Int32) at_193 rfl rfl ?_
                  exact W.retZ ok at_194 rfl (Nat.le_of_ble_eq_true rfl) (Nat.le_of_ble_eq_true rfl) (fun x (q : x ∈ M) => (List.mem_cons_of_mem _ q)) (fun kp => rfl)
                · have d2' : 0 + m ≤ 200 := by
                    rcases Nat.lt_or_ge 200 (0 + m) with q | q
                    · exact absurd ((i32_lt (a := 200) (b := 0 + m) (by omega) (by omega)).mpr q) d2
                    · exact q
                  refine W.iload ok (pc' := 197) at_195 rfl rfl ?_
                  refine W.ifeq ok (pcY := 250) (pcN := 200) at_197 rfl (by decide) rfl (fun _ => ?_) (fun q => absurd rfl q)
                  refine W.iload ok (pc' := 252) at_250 rfl rfl ?_
                  refine W.iconst ok (pc' := 253) (1 : Int32) at_252 rfl rfl ?_
                  refine W.icmpne ok (pcY := 271) (pcN := 256) at_253 rfl (by decide) rfl (fun q => absurd q (by decide)) (fun _ => ?_)
                  refine W.iload ok (pc' := 273) at_271 rfl rfl ?_
                  refine W.iconst ok (pc' := 274) (2 : Int32) at_273 rfl rfl ?_
                  refine W.icmpne ok (pcY := 299) (pcN := 277) at_274 rfl (by decide) rfl (fun _ => ?_) (fun q => absurd rfl q)
                  refine W.iconst ok (pc' := 278) (2 : Int32) at_277 rfl rfl ?_
                  refine W.newC ok (pc' := 280) (cap := 2) (w0 hw) (by decide) (by decide) (by decide) at_278 rfl (Nat.le_of_ble_eq_true rfl) (Nat.le_of_ble_eq_true rfl) (fun a78 h79 z80 ea81 E82 A83 => ?_)
                  replace A83 := A83.cast (cs' := [0, 0]) rfl
                  have lc := A77.gt
                  have nc84 : a1 ≠ a78 := ane (by omega)
                  refine W.dup ok (pc' := 281) at_280 rfl rfl ?_
                  refine W.iconst ok (pc' := 282) (0 : Int32) at_281 rfl rfl ?_
                  refine W.aload ok (pc' := 284) at_282 rfl rfl rfl ?_
                  refine W.iconst ok (pc' := 285) (0 : Int32) at_284 rfl rfl ?_
                  refine W.caload ok (pc' := 286) (A77.ext E82) x0 (by decide) rfl at_285 rfl ?_
                  refine W.castore ok (pc' := 287) (cl' := (true, [])) A83 (by decide) (Nat.le_of_ble_eq_true rfl) (List.mem_cons_self ..) (Or.inr z80) (fun q => ⟨q, z80⟩) rfl at_286 rfl (fun h85 Wr86 A87 => ?_)
                  replace A87 := A87.cast (cs' := [x0, 0]) (by rw [c16_of r0]; rfl)
                  have A88 := (A77.ext E82).other Wr86 nc84
                  refine W.dup ok (pc' := 288) at_287 rfl rfl ?_
                  refine W.iconst ok (pc' := 289) (1 : Int32) at_288 rfl rfl ?_
                  refine W.aload ok (pc' := 291) at_289 rfl rfl rfl ?_
                  refine W.iconst ok (pc' := 292) (1 : Int32) at_291 rfl rfl ?_
                  refine W.caload ok (pc' := 293) A88 x1 (by decide) rfl at_292 rfl ?_
                  refine W.castore ok (pc' := 294) (cl' := (true, [])) A87 (by decide) (Nat.le_of_ble_eq_true rfl) (List.mem_cons_self ..) (Or.inr z80) (fun q => ⟨q, z80⟩) rfl at_293 rfl (fun h89 Wr90 A91 => ?_)
                  replace A91 := A91.cast (cs' := [x0, x1]) (by rw [c16_of r1]; rfl)
                  have A92 := A88.other Wr90 nc84
                  refine W.astore ok (pc' := 296) (L' := #[.val (.int p0), .val (.int p1), .val (.int p2), .val (.int p3), .val (.int p4), .val (.ref a1), .val (.int (0 : Int32)), .val (.int (2 : Int32)), .val (.int (1 : Int32)), .val (.int (((((hb x0).toInt32) + ((hb x1).toInt32)) + (0 : Int32)) + (0 : Int32))), .val (.int ((0 + m).toInt32)), .val (.ref a78), .unset, .unset, .unset, .unset]) at_294 rfl rfl rfl ?_
                  refine W.goto ok (pc' := 367) at_296 (by decide) rfl ?_
                  refine W.weaken (k' := 2) (n' := 205) (cl' := (true, [])) (by decide) (by decide) (fun q => q) (fun e q => by first | exact q | (nomatch q)) ?_
                  exact tail _ a78 [x0, x1] (0 + m) _ _ _ _ _ A91 (by rw [Nat.zero_add]; exact hW) d1' d2' (by simp)
    · refine W.iconst ok (pc' := 61) (1 : Int32) at_60 rfl rfl ?_
      refine W.iadd ok (pc' := 62) at_61 rfl ?_
      rw [show ((2 : Int32) + (1 : Int32)) = (3 : Int32) from by decide]
      refine W.istore ok (pc' := 64) (L' := #[.val (.int p0), .val (.int p1), .val (.int p2), .val (.int p3), .val (.int p4), .val (.ref a1), .val (.int (0 : Int32)), .val (.int (3 : Int32)), .unset, .unset, .unset, .unset, .unset, .unset, .unset, .unset]) at_62 rfl rfl ?_
      refine W.aload ok (pc' := 66) at_64 rfl rfl rfl ?_
      refine W.iconst ok (pc' := 67) (0 : Int32) at_66 rfl rfl ?_
      refine W.iload ok (pc' := 69) at_67 rfl rfl ?_
      refine W.callS ok (rest := []) (cl' := (true, [])) (pc' := 72) (w5 hw) (w6 hw) (w3 hw) (w7 hw) (by decide) pd_29 rfl (k_okAt l Z a0 hE a1 [x0, x1, x2, x3] 0 3 h16 A18 (by simp) (by simp) (by omega)) (fun _ q => (nomatch q)) (fun q => ⟨q, fun _ q => (nomatch q)⟩) rfl rfl (Nat.le_of_ble_eq_true rfl) (Nat.le_of_ble_eq_true rfl) (Nat.le_of_ble_eq_true rfl) (Nat.le_of_ble_eq_true rfl) at_69 rfl rfl (oldK fun v h93 hq K94 => ?_)
      rcases hq with rfl | ⟨rfl, o0⟩
      · show W B h93 1 4 (a1 :: M) (true, []) 72 #[.val (.int p0), .val (.int p1), .val (.int p2), .val (.int p3), .val (.int p4), .val (.ref a1), .val (.int (0 : Int32)), .val (.int (3 : Int32)), .unset, .unset, .unset, .unset, .unset, .unset, .unset, .unset] [(.int (0 : Int32))]
        refine W.ifeq ok (pcY := 112) (pcN := 75) at_72 rfl (by decide) rfl (fun _ => ?_) (fun q => absurd rfl q)
        refine W.iconst ok (pc' := 113) (0 : Int32) at_112 rfl rfl ?_
        refine W.istore ok (pc' := 115) (L' := #[.val (.int p0), .val (.int p1), .val (.int p2), .val (.int p3), .val (.int p4), .val (.ref a1), .val (.int (0 : Int32)), .val (.int (3 : Int32)), .val (.int (0 : Int32)), .unset, .unset, .unset, .unset, .unset, .unset, .unset]) at_113 rfl rfl ?_
        refine W.iload ok (pc' := 117) at_115 rfl rfl ?_
        refine W.ifne ok (pcY := 122) (pcN := 120) at_117 rfl (by decide) rfl (fun _ => ?_) (fun q => absurd rfl q)
        refine W.iconst ok (pc' := 121) (1 : Int32) at_120 rfl rfl ?_
        exact W.retZ ok at_121 rfl (Nat.le_of_ble_eq_true rfl) (Nat.le_of_ble_eq_true rfl) (fun x (q : x ∈ M) => (List.mem_cons_of_mem _ q)) (fun kp => rfl)
      · show W B h93 1 4 (a1 :: M) (true, []) 72 #[.val (.int p0), .val (.int p1), .val (.int p2), .val (.int p3), .val (.int p4), .val (.ref a1), .val (.int (0 : Int32)), .val (.int (3 : Int32)), .unset, .unset, .unset, .unset, .unset, .unset, .unset, .unset] [(.int (1 : Int32))]
        have A95 := A18.ext (ext_keep K94)
        refine W.ifeq ok (pcY := 112) (pcN := 75) at_72 rfl (by decide) rfl (fun q => absurd q (by decide)) (fun _ => ?_)
        refine W.aload ok (pc' := 77) at_75 rfl rfl rfl ?_
        refine W.iconst ok (pc' := 78) (1 : Int32) at_77 rfl rfl ?_
        refine W.iload ok (pc' := 80) at_78 rfl rfl ?_
        refine W.callS ok (rest := []) (cl' := (true, [])) (pc' := 83) (w5 hw) (w6 hw) (w3 hw) (w7 hw) (by decide) pd_29 rfl (k_okAt l Z a0 hE a1 [x0, x1, x2, x3] 1 3 h93 A95 (by simp) (by simp) (by omega)) (fun _ q => (nomatch q)) (fun q => ⟨q, fun _ q => (nomatch q)⟩) rfl rfl (Nat.le_of_ble_eq_true rfl) (Nat.le_of_ble_eq_true rfl) (Nat.le_of_ble_eq_true rfl) (Nat.le_of_ble_eq_true rfl) at_80 rfl rfl (oldK fun v h96 hq K97 => ?_)
        rcases hq with rfl | ⟨rfl, o1⟩
        · show W B h96 1 4 (a1 :: M) (true, []) 83 #[.val (.int p0), .val (.int p1), .val (.int p2), .val (.int p3), .val (.int p4), .val (.ref a1), .val (.int (0 : Int32)), .val (.int (3 : Int32)), .unset, .unset, .unset, .unset, .unset, .unset, .unset, .unset] [(.int (0 : Int32))]
          refine W.ifeq ok (pcY := 112) (pcN := 86) at_83 rfl (by decide) rfl (fun _ => ?_) (fun q => absurd rfl q)
          refine W.iconst ok (pc' := 113) (0 : Int32) at_112 rfl rfl ?_
          refine W.istore ok (pc' := 115) (L' := #[.val (.int p0), .val (.int p1), .val (.int p2), .val (.int p3), .val (.int p4), .val (.ref a1), .val (.int (0 : Int32)), .val (.int (3 : Int32)), .val (.int (0 : Int32)), .unset, .unset, .unset, .unset, .unset, .unset, .unset]) at_113 rfl rfl ?_
          refine W.iload ok (pc' := 117) at_115 rfl rfl ?_
          refine W.ifne ok (pcY := 122) (pcN := 120) at_117 rfl (by decide) rfl (fun _ => ?_) (fun q => absurd rfl q)
          refine W.iconst ok (pc' := 121) (1 : Int32) at_120 rfl rfl ?_
          exact W.retZ ok at_121 rfl (Nat.le_of_ble_eq_true rfl) (Nat.le_of_ble_eq_true rfl) (fun x (q : x ∈ M) => (List.mem_cons_of_mem _ q)) (fun kp => rfl)
        · show W B h96 1 4 (a1 :: M) (true, []) 83 #[.val (.int p0), .val (.int p1), .val (.int p2), .val (.int p3), .val (.int p4), .val (.ref a1), .val (.int (0 : Int32)), .val (.int (3 : Int32)), .unset, .unset, .unset, .unset, .unset, .unset, .unset, .unset] [(.int (1 : Int32))]
          have A98 := A95.ext (ext_keep K97)
          refine W.ifeq ok (pcY := 112) (pcN := 86) at_83 rfl (by decide) rfl (fun q => absurd q (by decide)) (fun _ => ?_)
          refine W.aload ok (pc' := 88) at_86 rfl rfl rfl ?_
          refine W.iconst ok (pc' := 89) (2 : Int32) at_88 rfl rfl ?_
          refine W.iload ok (pc' := 91) at_89 rfl rfl ?_
          refine W.callS ok (rest := []) (cl' := (true, [])) (pc' := 94) (w5 hw) (w6 hw) (w3 hw) (w7 hw) (by decide) pd_29 rfl (k_okAt l Z a0 hE a1 [x0, x1, x2, x3] 2 3 h96 A98 (by simp) (by simp) (by omega)) (fun _ q => (nomatch q)) (fun q => ⟨q, fun _ q => (nomatch q)⟩) rfl rfl (Nat.le_of_ble_eq_true rfl) (Nat.le_of_ble_eq_true rfl) (Nat.le_of_ble_eq_true rfl) (Nat.le_of_ble_eq_true rfl) at_91 rfl rfl (oldK fun v h99 hq K100 => ?_)
          rcases hq with rfl | ⟨rfl, o2⟩
          · show W B h99 1 4 (a1 :: M) (true, []) 94 #[.val (.int p0), .val (.int p1), .val (.int p2), .val (.int p3), .val (.int p4), .val (.ref a1), .val (.int (0 : Int32)), .val (.int (3 : Int32)), .unset, .unset, .unset, .unset, .unset, .unset, .unset, .unset] [(.int (0 : Int32))]
            refine W.ifeq ok (pcY := 112) (pcN := 97) at_94 rfl (by decide) rfl (fun _ => ?_) (fun q => absurd rfl q)
            refine W.iconst ok (pc' := 113) (0 : Int32) at_112 rfl rfl ?_
            refine W.istore ok (pc' := 115) (L' := #[.val (.int p0), .val (.int p1), .val (.int p2), .val (.int p3), .val (.int p4), .val (.ref a1), .val (.int (0 : Int32)), .val (.int (3 : Int32)), .val (.int (0 : Int32)), .unset, .unset, .unset, .unset, .unset, .unset, .unset]) at_113 rfl rfl ?_
            refine W.iload ok (pc' := 117) at_115 rfl rfl ?_
            refine W.ifne ok (pcY := 122) (pcN := 120) at_117 rfl (by decide) rfl (fun _ => ?_) (fun q => absurd rfl q)
            refine W.iconst ok (pc' := 121) (1 : Int32) at_120 rfl rfl ?_
            exact W.retZ ok at_121 rfl (Nat.le_of_ble_eq_true rfl) (Nat.le_of_ble_eq_true rfl) (fun x (q : x ∈ M) => (List.mem_cons_of_mem _ q)) (fun kp => rfl)
          · show W B h99 1 4 (a1 :: M) (true, []) 94 #[.val (.int p0), .val (.int p1), .val (.int p2), .val (.int p3), .val (.int p4), .val (.ref a1), .val (.int (0 : Int32)), .val (.int (3 : Int32)), .unset, .unset, .unset, .unset, .unset, .unset, .unset, .unset] [(.int (1 : Int32))]
            have A101 := A98.ext (ext_keep K100)
            refine W.ifeq ok (pcY := 112) (pcN := 97) at_94 rfl (by decide) rfl (fun q => absurd q (by decide)) (fun _ => ?_)
            refine W.aload ok (pc' := 99) at_97 rfl rfl rfl ?_
            refine W.iconst ok (pc' := 100) (3 : Int32) at_99 rfl rfl ?_
            refine W.iload ok (pc' := 102) at_100 rfl rfl ?_
            refine W.callS ok (rest := []) (cl' := (true, [])) (pc' := 105) (w5 hw) (w6 hw) (w3 hw) (w7 hw) (by decide) pd_29 rfl (k_okAt l Z a0 hE a1 [x0, x1, x2, x3] 3 3 h99 A101 (by simp) (by simp) (by omega)) (fun _ q => (nomatch q)) (fun q => ⟨q, fun _ q => (nomatch q)⟩) rfl rfl (Nat.le_of_ble_eq_true rfl) (Nat.le_of_ble_eq_true rfl) (Nat.le_of_ble_eq_true rfl) (Nat.le_of_ble_eq_true rfl) at_102 rfl rfl (oldK fun v h102 hq K103 => ?_)
            rcases hq with rfl | ⟨rfl, o3⟩
            · show W B h102 1 4 (a1 :: M) (true, []) 105 #[.val (.int p0), .val (.int p1), .val (.int p2), .val (.int p3), .val (.int p4), .val (.ref a1), .val (.int (0 : Int32)), .val (.int (3 : Int32)), .unset, .unset, .unset, .unset, .unset, .unset, .unset, .unset] [(.int (0 : Int32))]
              refine W.ifeq ok (pcY := 112) (pcN := 108) at_105 rfl (by decide) rfl (fun _ => ?_) (fun q => absurd rfl q)
              refine W.iconst ok (pc' := 113) (0 : Int32) at_112 rfl rfl ?_
              refine W.istore ok (pc' := 115) (L' := #[.val (.int p0), .val (.int p1), .val (.int p2), .val (.int p3), .val (.int p4), .val (.ref a1), .val (.int (0 : Int32)), .val (.int (3 : Int32)), .val (.int (0 : Int32)), .unset, .unset, .unset, .unset, .unset, .unset, .unset]) at_113 rfl rfl ?_
              refine W.iload ok (pc' := 117) at_115 rfl rfl ?_
              refine W.ifne ok (pcY := 122) (pcN := 120) at_117 rfl (by decide) rfl (fun _ => ?_) (fun q => absurd rfl q)
              refine W.iconst ok (pc' := 121) (1 : Int32) at_120 rfl rfl ?_
              exact W.retZ ok at_121 rfl (Nat.le_of_ble_eq_true rfl) (Nat.le_of_ble_eq_true rfl) (fun x (q : x ∈ M) => (List.mem_cons_of_mem _ q)) (fun kp => rfl)
            · show W B h102 1 4 (a1 :: M) (true, []) 105 #[.val (.int p0), .val (.int p1), .val (.int p2), .val (.int p3), .val (.int p4), .val (.ref a1), .val (.int (0 : Int32)), .val (.int (3 : Int32)), .unset, .unset, .unset, .unset, .unset, .unset, .unset, .unset] [(.int (1 : Int32))]
              have A104 := A101.ext (ext_keep K103)
              refine W.ifeq ok (pcY := 112) (pcN := 108) at_105 rfl (by decide) rfl (fun q => absurd q (by decide)) (fun _ => ?_)
              refine W.iconst ok (pc' := 109) (1 : Int32) at_108 rfl rfl ?_
              refine W.goto ok (pc' := 113) at_109 (by decide) rfl ?_
              refine W.istore ok (pc' := 115) (L' := #[.val (.int p0), .val (.int p1), .val (.int p2), .val (.int p3), .val (.int p4), .val (.ref a1), .val (.int (0 : Int32)), .val (.int (3 : Int32)), .val (.int (1 : Int32)), .unset, .unset, .unset, .unset, .unset, .unset, .unset]) at_113 rfl rfl ?_
              refine W.iload ok (pc' := 117) at_115 rfl rfl ?_
              refine W.ifne ok (pcY := 122) (pcN := 120) at_117 rfl (by decide) rfl (fun q => absurd q (by decide)) (fun _ => ?_)
              refine W.aload ok (pc' := 124) at_122 rfl rfl rfl ?_
              refine W.iconst ok (pc' := 125) (0 : Int32) at_124 rfl rfl ?_
              refine W.iload ok (pc' := 127) at_125 rfl rfl ?_
              refine W.callS ok (rest := []) (cl' := (true, [])) (pc' := 130) (w16 hw) (w17 hw) (w3 hw) (w18 hw) (by decide) pd_30 rfl (k_highY l Z a0 hE a1 [x0, x1, x2, x3] 0 3 x0 h102 A104 rfl (by omega) (by omega)) (fun _ q => (nomatch q)) (fun q => ⟨q, fun _ q => (nomatch q)⟩) rfl rfl (Nat.le_of_ble_eq_true rfl) (Nat.le_of_ble_eq_true rfl) (Nat.le_of_ble_eq_true rfl) (Nat.le_of_ble_eq_true rfl) at_127 rfl rfl (pureK ?_)
              show W B h102 1 4 (a1 :: M) (true, []) 130 #[.val (.int p0), .val (.int p1), .val (.int p2), .val (.int p3), .val (.int p4), .val (.ref a1), .val (.int (0 : Int32)), .val (.int (3 : Int32)), .val (.int (1 : Int32)), .unset, .unset, .unset, .unset, .unset, .unset, .unset] [(.int ((hb x0).toInt32))]
              refine W.aload ok (pc' := 132) at_130 rfl rfl rfl ?_
              refine W.iconst ok (pc' := 133) (1 : Int32) at_132 rfl rfl ?_
              refine W.iload ok (pc' := 135) at_133 rfl rfl ?_
              refine W.callS ok (rest := [(.int ((hb x0).toInt32))]) (cl' := (true, [])) (pc' := 138) (w16 hw) (w17 hw) (w3 hw) (w18 hw) (by decide) pd_30 rfl (k_highY l Z a0 hE a1 [x0, x1, x2, x3] 1 3 x1 h102 A104 rfl (by omega) (by omega)) (fun _ q => (nomatch q)) (fun q => ⟨q, fun _ q => (nomatch q)⟩) rfl rfl (Nat.le_of_ble_eq_true rfl) (Nat.le_of_ble_eq_true rfl) (Nat.le_of_ble_eq_true rfl) (Nat.le_of_ble_eq_true rfl) at_135 rfl rfl (pureK ?_)
              show W B h102 1 4 (a1 :: M) (true, []) 138 #[.val (.int p0), .val (.int p1), .val (.int p2), .val (.int p3), .val (.int p4), .val (.ref a1), .val (.int (0 : Int32)), .val (.int (3 : Int32)), .val (.int (1 : Int32)), .unset, .unset, .unset, .unset, .unset, .unset, .unset] [(.int ((hb x1).toInt32)), (.int ((hb x0).toInt32))]
              refine W.iadd ok (pc' := 139) at_138 rfl ?_
              refine W.aload ok (pc' := 141) at_139 rfl rfl rfl ?_
              refine W.iconst ok (pc' := 142) (2 : Int32) at_141 rfl rfl ?_
              refine W.iload ok (pc' := 144) at_142 rfl rfl ?_
              refine W.callS ok (rest := [(.int (((hb x0).toInt32) + ((hb x1).toInt32)))]) (cl' := (true, [])) (pc' := 147) (w16 hw) (w17 hw) (w3 hw) (w18 hw) (by decide) pd_30 rfl (k_highY l Z a0 hE a1 [x0, x1, x2, x3] 2 3 x2 h102 A104 rfl (by omega) (by omega)) (fun _ q => (nomatch q)) (fun q => ⟨q, fun _ q => (nomatch q)⟩) rfl rfl (Nat.le_of_ble_eq_true rfl) (Nat.le_of_ble_eq_true rfl) (Nat.le_of_ble_eq_true rfl) (Nat.le_of_ble_eq_true rfl) at_144 rfl rfl (pureK ?_)
              show W B h102 1 4 (a1 :: M) (true, []) 147 #[.val (.int p0), .val (.int p1), .val (.int p2), .val (.int p3), .val (.int p4), .val (.ref a1), .val (.int (0 : Int32)), .val (.int (3 : Int32)), .val (.int (1 : Int32)), .unset, .unset, .unset, .unset, .unset, .unset, .unset] [(.int ((hb x2).toInt32)), (.int (((hb x0).toInt32) + ((hb x1).toInt32)))]
              refine W.iadd ok (pc' := 148) at_147 rfl ?_
              refine W.aload ok (pc' := 150) at_148 rfl rfl rfl ?_
              refine W.iconst ok (pc' := 151) (3 : Int32) at_150 rfl rfl ?_
              refine W.iload ok (pc' := 153) at_151 rfl rfl ?_
              refine W.callS ok (rest := [(.int ((((hb x0).toInt32) + ((hb x1).toInt32)) + ((hb x2).toInt32)))]) (cl' := (true, [])) (pc' := 156) (w16 hw) (w17 hw) (w3 hw) (w18 hw) (by decide) pd_30 rfl (k_highN l Z a0 hE a1 3 3 h102 (by omega) (by omega)) (fun _ q => (nomatch q)) (fun q => ⟨q, fun _ q => (nomatch q)⟩) rfl rfl (Nat.le_of_ble_eq_true rfl) (Nat.le_of_ble_eq_true rfl) (Nat.le_of_ble_eq_true rfl) (Nat.le_of_ble_eq_true rfl) at_153 rfl rfl (pureK ?_)
              show W B h102 1 4 (a1 :: M) (true, []) 156 #[.val (.int p0), .val (.int p1), .val (.int p2), .val (.int p3), .val (.int p4), .val (.ref a1), .val (.int (0 : Int32)), .val (.int (3 : Int32)), .val (.int (1 : Int32)), .unset, .unset, .unset, .unset, .unset, .unset, .unset] [(.int (0 : Int32)), (.int ((((hb x0).toInt32) + ((hb x1).toInt32)) + ((hb x2).toInt32)))]
              refine W.iadd ok (pc' := 157) at_156 rfl ?_
              refine W.istore ok (pc' := 159) (L' := #[.val (.int p0), .val (.int p1), .val (.int p2), .val (.int p3), .val (.int p4), .val (.ref a1), .val (.int (0 : Int32)), .val (.int (3 : Int32)), .val (.int (1 : Int32)), .val (.int (((((hb x0).toInt32) + ((hb x1).toInt32)) + ((hb x2).toInt32)) + (0 : Int32))), .unset, .unset, .unset, .unset, .unset, .unset]) at_157 rfl rfl ?_
              refine W.iload ok (pc' := 161) at_159 rfl rfl ?_
              obtain ⟨m, hW, hm⟩ := Cn.wf 4 [x0, x1, x2] (by simp) (cn3 o0 o1 o2)
              simp only [hs, List.length_cons, List.length_nil] at hm
              refine W.ifeq ok (pcY := 170) (pcN := 164) at_161 rfl (by decide) rfl (fun _ => ?_) (fun q => absurd rfl q)
              refine W.iconst ok (pc' := 171) (0 : Int32) at_170 rfl rfl ?_
              refine W.iload ok (pc' := 173) at_171 rfl rfl ?_
              refine W.iadd ok (pc' := 174) at_173 rfl ?_
              refine W.iload ok (pc' := 176) at_174 rfl rfl ?_
              refine W.isub ok (pc' := 177) at_176 rfl ?_
              generalize hcz : (((0 : Int32) + (3 : Int32)) - (((((hb x0).toInt32) + ((hb x1).toInt32)) + ((hb x2).toInt32)) + (0 : Int32))) = cz
              have ecz : cz = (0 + m).toInt32 := by
                rw [← hcz]
                show ((0 : Nat).toInt32 + (3 : Nat).toInt32) - ((hb x0).toInt32 + (hb x1).toInt32 + (hb x2).toInt32 + (0 : Nat).toInt32) = _
                rw [i32_add, i32_add, i32_add, i32_add, i32_sub (by omega) (by omega)]
                congr 1
                omega
              subst ecz
              have hml : m ≤ 4 := by omega
              refine W.istore ok (pc' := 179) (L' := #[.val (.int p0), .val (.int p1), .val (.int p2), .val (.int p3), .val (.int p4), .val (.ref a1), .val (.int (0 : Int32)), .val (.int (3 : Int32)), .val (.int (1 : Int32)), .val (.int (((((hb x0).toInt32) + ((hb x1).toInt32)) + ((hb x2).toInt32)) + (0 : Int32))), .val (.int ((0 + m).toInt32)), .unset, .unset, .unset, .unset, .unset]) at_177 rfl rfl ?_
              refine W.iload ok (pc' := 181) at_179 rfl rfl ?_
              refine W.iconst ok (pc' := 182) (1 : Int32) at_181 rfl rfl ?_
              refine W.icmplt ok (pcY := 193) (pcN := 185) at_182 rfl (by decide) rfl (fun d1 => ?_) (fun d1 => ?_)
              · refine W.iconst ok (pc' := 194) (1 : Int32) at_193 rfl rfl ?_
                exact W.retZ ok at_194 rfl (Nat.le_of_ble_eq_true rfl) (Nat.le_of_ble_eq_true rfl) (fun x (q : x ∈ M) => (List.mem_cons_of_mem _ q)) (fun kp => rfl)
              · have d1' : 1 ≤ 0 + m := by
                  rcases Nat.lt_or_ge (0 + m) 1 with q | q
                  · exact absurd ((i32_lt (a := 0 + m) (b := 1) (by omega) (by omega)).mpr q) d1
                  · exact q
                refine W.iload ok (pc' := 187) at_185 rfl rfl ?_
                refine W.sipush ok (pc' := 190) (200 : Int32) at_187 rfl rfl ?_
                refine W.icmple ok (pcY := 195) (pcN := 193) at_190 rfl (by decide) rfl (fun d2 => ?_) (fun d2 => ?_)
                · refine W.iconst ok (pc' := 194) (1 : Int32) at_193 rfl rfl ?_
                  exact W.retZ ok at_194 rfl (Nat.le_of_ble_eq_true rfl) (Nat.le_of_ble_eq_true rfl) (fun x (q : x ∈ M) => (List.mem_cons_of_mem _ q)) (fun kp => rfl)
                · have d2' : 0 + m ≤ 200 := by
                    rcases Nat.lt_or_ge 200 (0 + m) with q | q
                    · exact absurd ((i32_lt (a := 200) (b := 0 + m) (by omega) (by omega)).mpr q) d2
                    · exact q
                  refine W.iload ok (pc' := 197) at_195 rfl rfl ?_
                  refine W.ifeq ok (pcY := 250) (pcN := 200) at_197 rfl (by decide) rfl (fun _ => ?_) (fun q => absurd rfl q)
                  refine W.iload ok (pc' := 252) at_250 rfl rfl ?_
                  refine W.iconst ok (pc' := 253) (1 : Int32) at_252 rfl rfl ?_
                  refine W.icmpne ok (pcY := 271) (pcN := 256) at_253 rfl (by decide) rfl (fun q => absurd q (by decide)) (fun _ => ?_)
                  refine W.iload ok (pc' := 273) at_271 rfl rfl ?_
                  refine W.iconst ok (pc' := 274) (2 : Int32) at_273 rfl rfl ?_
                  refine W.icmpne ok (pcY := 299) (pcN := 277) at_274 rfl (by decide) rfl (fun q => absurd q (by decide)) (fun _ => ?_)
                  refine W.iload ok (pc' := 301) at_299 rfl rfl ?_
                  refine W.iconst ok (pc' := 302) (3 : Int32) at_301 rfl rfl ?_
                  refine W.icmpne ok (pcY := 334) (pcN := 305) at_302 rfl (by decide) rfl (fun _ => ?_) (fun q => absurd rfl q)
                  refine W.iconst ok (pc' := 306) (3 : Int32) at_305 rfl rfl ?_
                  refine W.newC ok (pc' := 308) (cap := 3) (w0 hw) (by decide) (by decide) (by decide) at_306 rfl (Nat.le_of_ble_eq_true rfl) (Nat.le_of_ble_eq_true rfl) (fun a105 h106 z107 ea108 E109 A110 => ?_)
                  replace A110 := A110.cast (cs' := [0, 0, 0]) rfl
                  have lc := A104.gt
                  have nc111 : a1 ≠ a105 := ane (by omega)
                  refine W.dup ok (pc' := 309) at_308 rfl rfl ?_
                  refine W.iconst ok (pc' := 310) (0 : Int32) at_309 rfl rfl ?_
                  refine W.aload ok (pc' := 312) at_310 rfl rfl rfl ?_
                  refine W.iconst ok (pc' := 313) (0 : Int32) at_312 rfl rfl ?_
                  refine W.caload ok (pc' := 314) (A104.ext E109) x0 (by decide) rfl at_313 rfl ?_
                  refine W.castore ok (pc' := 315) (cl' := (true, [])) A110 (by decide) (Nat.le_of_ble_eq_true rfl) (List.mem_cons_self ..) (Or.inr z107) (fun q => ⟨q, z107⟩) rfl at_314 rfl (fun h112 Wr113 A114 => ?_)
                  replace A114 := A114.cast (cs' := [x0, 0, 0]) (by rw [c16_of r0]; rfl)
                  have A115 := (A104.ext E109).other Wr113 nc111
                  refine W.dup ok (pc' := 316) at_315 rfl rfl ?_
                  refine W.iconst ok (pc' := 317) (1 : Int32) at_316 rfl rfl ?_
                  refine W.aload ok (pc' := 319) at_317 rfl rfl rfl ?_
                  refine W.iconst ok (pc' := 320) (1 : Int32) at_319 rfl rfl ?_
                  refine W.caload ok (pc' := 321) A115 x1 (by decide) rfl at_320 rfl ?_
                  refine W.castore ok (pc' := 322) (cl' := (true, [])) A114 (by decide) (Nat.le_of_ble_eq_true rfl) (List.mem_cons_self ..) (Or.inr z107) (fun q => ⟨q, z107⟩) rfl at_321 rfl (fun h116 Wr117 A118 => ?_)
                  replace A118 := A118.cast (cs' := [x0, x1, 0]) (by rw [c16_of r1]; rfl)
                  have A119 := A115.other Wr117 nc111
                  refine W.dup ok (pc' := 323) at_322 rfl rfl ?_
                  refine W.iconst ok (pc' := 324) (2 : Int32) at_323 rfl rfl ?_
                  refine W.aload ok (pc' := 326) at_324 rfl rfl rfl ?_
                  refine W.iconst ok (pc' := 327) (2 : Int32) at_326 rfl rfl ?_
                  refine W.caload ok (pc' := 328) A119 x2 (by decide) rfl at_327 rfl ?_
                  refine W.castore ok (pc' := 329) (cl' := (true, [])) A118 (by decide) (Nat.le_of_ble_eq_true rfl) (List.mem_cons_self ..) (Or.inr z107) (fun q => ⟨q, z107⟩) rfl at_328 rfl (fun h120 Wr121 A122 => ?_)
                  replace A122 := A122.cast (cs' := [x0, x1, x2]) (by rw [c16_of r2]; rfl)
                  have A123 := A119.other Wr121 nc111
                  refine W.astore ok (pc' := 331) (L' := #[.val (.int p0), .val (.int p1), .val (.int p2), .val (.int p3), .val (.int p4), .val (.ref a1), .val (.int (0 : Int32)), .val (.int (3 : Int32)), .val (.int (1 : Int32)), .val (.int (((((hb x0).toInt32) + ((hb x1).toInt32)) + ((hb x2).toInt32)) + (0 : Int32))), .val (.int ((0 + m).toInt32)), .val (.ref a105), .unset, .unset, .unset, .unset]) at_329 rfl rfl rfl ?_
                  refine W.goto ok (pc' := 367) at_331 (by decide) rfl ?_
                  refine W.weaken (k' := 2) (n' := 205) (cl' := (true, [])) (by decide) (by decide) (fun q => q) (fun e q => by first | exact q | (nomatch q)) ?_
                  exact tail _ a105 [x0, x1, x2] (0 + m) _ _ _ _ _ A122 (by rw [Nat.zero_add]; exact hW) d1' d2' (by simp)
    · refine W.iconst ok (pc' := 61) (1 : Int32) at_60 rfl rfl ?_
      refine W.iadd ok (pc' := 62) at_61 rfl ?_
      rw [show ((3 : Int32) + (1 : Int32)) = (4 : Int32) from by decide]
      refine W.istore ok (pc' := 64) (L' := #[.val (.int p0), .val (.int p1), .val (.int p2), .val (.int p3), .val (.int p4), .val (.ref a1), .val (.int (0 : Int32)), .val (.int (4 : Int32)), .unset, .unset, .unset, .unset, .unset, .unset, .unset, .unset]) at_62 rfl rfl ?_
      refine W.aload ok (pc' := 66) at_64 rfl rfl rfl ?_
      refine W.iconst ok (pc' := 67) (0 : Int32) at_66 rfl rfl ?_
      refine W.iload ok (pc' := 69) at_67 rfl rfl ?_
      refine W.callS ok (rest := []) (cl' := (true, [])) (pc' := 72) (w5 hw) (w6 hw) (w3 hw) (w7 hw) (by decide) pd_29 rfl (k_okAt l Z a0 hE a1 [x0, x1, x2, x3] 0 4 h16 A18 (by simp) (by simp) (by omega)) (fun _ q => (nomatch q)) (fun q => ⟨q, fun _ q => (nomatch q)⟩) rfl rfl (Nat.le_of_ble_eq_true rfl) (Nat.le_of_ble_eq_true rfl) (Nat.le_of_ble_eq_true rfl) (Nat.le_of_ble_eq_true rfl) at_69 rfl rfl (oldK fun v h124 hq K125 => ?_)
      rcases hq with rfl | ⟨rfl, o0⟩
      · show W B h124 1 4 (a1 :: M) (true, []) 72 #[.val (.int p0), .val (.int p1), .val (.int p2), .val (.int p3), .val (.int p4), .val (.ref a1), .val (.int (0 : Int32)), .val (.int (4 : Int32)), .unset, .unset, .unset, .unset, .unset, .unset, .unset, .unset] [(.int (0 : Int32))]
        refine W.ifeq ok (pcY := 112) (pcN := 75) at_72 rfl (by decide) rfl (fun _ => ?_) (fun q => absurd rfl q)
        refine W.iconst ok (pc' := 113) (0 : Int32) at_112 rfl rfl ?_
        refine W.istore ok (pc' := 115) (L' := #[.val (.int p0), .val (.int p1), .val (.int p2), .val (.int p3), .val (.int p4), .val (.ref a1), .val (.int (0 : Int32)), .val (.int (4 : Int32)), .val (.int (0 : Int32)), .unset, .unset, .unset, .unset, .unset, .unset, .unset]) at_113 rfl rfl ?_
        refine W.iload ok (pc' := 117) at_115 rfl rfl ?_
        refine W.ifne ok (pcY := 122) (pcN := 120) at_117 rfl (by decide) rfl (fun _ => ?_) (fun q => absurd rfl q)
        refine W.iconst ok (pc' := 121) (1 : Int32) at_120 rfl rfl ?_
        exact W.retZ ok at_121 rfl (Nat.le_of_ble_eq_true rfl) (Nat.le_of_ble_eq_true rfl) (fun x (q : x ∈ M) => (List.mem_cons_of_mem _ q)) (fun kp => rfl)
      · show W B h124 1 4 (a1 :: M) (true, []) 72 #[.val (.int p0), .val (.int p1), .val (.int p2), .val (.int p3), .val (.int p4), .val (.ref a1), .val (.int (0 : Int32)), .val (.int (4 : Int32)), .unset, .unset, .unset, .unset, .unset, .unset, .unset, .unset] [(.int (1 : Int32))]
        have A126 := A18.ext (ext_keep K125)
        refine W.ifeq ok (pcY := 112) (pcN := 75) at_72 rfl (by decide) rfl (fun q => absurd q (by decide)) (fun _ => ?_)
        refine W.aload ok (pc' := 77) at_75 rfl rfl rfl ?_
        refine W.iconst ok (pc' := 78) (1 : Int32) at_77 rfl rfl ?_
        refine W.iload ok (pc' := 80) at_78 rfl rfl ?_
        refine W.callS ok (rest := []) (cl' := (true, [])) (pc' := 83) (w5 hw) (w6 hw) (w3 hw) (w7 hw) (by decide) pd_29 rfl (k_okAt l Z a0 hE a1 [x0, x1, x2, x3] 1 4 h124 A126 (by simp) (by simp) (by omega)) (fun _ q => (nomatch q)) (fun q => ⟨q, fun _ q => (nomatch q)⟩) rfl rfl (Nat.le_of_ble_eq_true rfl) (Nat.le_of_ble_eq_true rfl) (Nat.le_of_ble_eq_true rfl) (Nat.le_of_ble_eq_true rfl) at_80 rfl rfl (oldK fun v h127 hq K128 => ?_)
        rcases hq with rfl | ⟨rfl, o1⟩
        · show W B h127 1 4 (a1 :: M) (true, []) 83 #[.val (.int p0), .val (.int p1), .val (.int p2), .val (.int p3), .val (.int p4), .val (.ref a1), .val (.int (0 : Int32)), .val (.int (4 : Int32)), .unset, .unset, .unset, .unset, .unset, .unset, .unset, .unset] [(.int (0 : Int32))]
          refine W.ifeq ok (pcY := 112) (pcN := 86) at_83 rfl (by decide) rfl (fun _ => ?_) (fun q => absurd rfl q)
          refine W.iconst ok (pc' := 113) (0 : Int32) at_112 rfl rfl ?_
          refine W.istore ok (pc' := 115) (L' := #[.val (.int p0), .val (.int p1), .val (.int p2), .val (.int p3), .val (.int p4), .val (.ref a1), .val (.int (0 : Int32)), .val (.int (4 : Int32)), .val (.int (0 : Int32)), .unset, .unset, .unset, .unset, .unset, .unset, .unset]) at_113 rfl rfl ?_
          refine W.iload ok (pc' := 117) at_115 rfl rfl ?_
          refine W.ifne ok (pcY := 122) (pcN := 120) at_117 rfl (by decide) rfl (fun _ => ?_) (fun q => absurd rfl q)
          refine W.iconst ok (pc' := 121) (1 : Int32) at_120 rfl rfl ?_
          exact W.retZ ok at_121 rfl (Nat.le_of_ble_eq_true rfl) (Nat.le_of_ble_eq_true rfl) (fun x (q : x ∈ M) => (List.mem_cons_of_mem _ q)) (fun kp => rfl)
        · show W B h127 1 4 (a1 :: M) (true, []) 83 #[.val (.int p0), .val (.int p1), .val (.int p2), .val (.int p3), .val (.int p4), .val (.ref a1), .val (.int (0 : Int32)), .val (.int (4 : Int32)), .unset, .unset, .unset, .unset, .unset, .unset, .unset, .unset] [(.int (1 : Int32))]
          have A129 := A126.ext (ext_keep K128)
          refine W.ifeq ok (pcY := 112) (pcN := 86) at_83 rfl (by decide) rfl (fun q => absurd q (by decide)) (fun _ => ?_)
          refine W.aload ok (pc' := 88) at_86 rfl rfl rfl ?_
          refine W.iconst ok (pc' := 89) (2 : Int32) at_88 rfl rfl ?_
          refine W.iload ok (pc' := 91) at_89 rfl rfl ?_
          refine W.callS ok (rest := []) (cl' := (true, [])) (pc' := 94) (w5 hw) (w6 hw) (w3 hw) (w7 hw) (by decide) pd_29 rfl (k_okAt l Z a0 hE a1 [x0, x1, x2, x3] 2 4 h127 A129 (by simp) (by simp) (by omega)) (fun _ q => (nomatch q)) (fun q => ⟨q, fun _ q => (nomatch q)⟩) rfl rfl (Nat.le_of_ble_eq_true rfl) (Nat.le_of_ble_eq_true rfl) (Nat.le_of_ble_eq_true rfl) (Nat.le_of_ble_eq_true rfl) at_91 rfl rfl (oldK fun v h130 hq K131 => ?_)
          rcases hq with rfl | ⟨rfl, o2⟩
          · show W B h130 1 4 (a1 :: M) (true, []) 94 #[.val (.int p0), .val (.int p1), .val (.int p2), .val (.int p3), .val (.int p4), .val (.ref a1), .val (.int (0 : Int32)), .val (.int (4 : Int32)), .unset, .unset, .unset, .unset, .unset, .unset, .unset, .unset] [(.int (0 : Int32))]
            refine W.ifeq ok (pcY := 112) (pcN := 97) at_94 rfl (by decide) rfl (fun _ => ?_) (fun q => absurd rfl q)
            refine W.iconst ok (pc' := 113) (0 : Int32) at_112 rfl rfl ?_
            refine W.istore ok (pc' := 115) (L' := #[.val (.int p0), .val (.int p1), .val (.int p2), .val (.int p3), .val (.int p4), .val (.ref a1), .val (.int (0 : Int32)), .val (.int (4 : Int32)), .val (.int (0 : Int32)), .unset, .unset, .unset, .unset, .unset, .unset, .unset]) at_113 rfl rfl ?_
            refine W.iload ok (pc' := 117) at_115 rfl rfl ?_
            refine W.ifne ok (pcY := 122) (pcN := 120) at_117 rfl (by decide) rfl (fun _ => ?_) (fun q => absurd rfl q)
            refine W.iconst ok (pc' := 121) (1 : Int32) at_120 rfl rfl ?_
            exact W.retZ ok at_121 rfl (Nat.le_of_ble_eq_true rfl) (Nat.le_of_ble_eq_true rfl) (fun x (q : x ∈ M) => (List.mem_cons_of_mem _ q)) (fun kp => rfl)
          · show W B h130 1 4 (a1 :: M) (true, []) 94 #[.val (.int p0), .val (.int p1), .val (.int p2), .val (.int p3), .val (.int p4), .val (.ref a1), .val (.int (0 : Int32)), .val (.int (4 : Int32)), .unset, .unset, .unset, .unset, .unset, .unset, .unset, .unset] [(.int (1 : Int32))]
            have A132 := A129.ext (ext_keep K131)
            refine W.ifeq ok (pcY := 112) (pcN := 97) at_94 rfl (by decide) rfl (fun q => absurd q (by decide)) (fun _ => ?_)
            refine W.aload ok (pc' := 99) at_97 rfl rfl rfl ?_
            refine W.iconst ok (pc' := 100) (3 : Int32) at_99 rfl rfl ?_
            refine W.iload ok (pc' := 102) at_100 rfl rfl ?_
            refine W.callS ok (rest := []) (cl' := (true, [])) (pc' := 105) (w5 hw) (w6 hw) (w3 hw) (w7 hw) (by decide) pd_29 rfl (k_okAt l Z a0 hE a1 [x0, x1, x2, x3] 3 4 h130 A132 (by simp) (by simp) (by omega)) (fun _ q => (nomatch q)) (fun q => ⟨q, fun _ q => (nomatch q)⟩) rfl rfl (Nat.le_of_ble_eq_true rfl) (Nat.le_of_ble_eq_true rfl) (Nat.le_of_ble_eq_true rfl) (Nat.le_of_ble_eq_true rfl) at_102 rfl rfl (oldK fun v h133 hq K134 => ?_)
            rcases hq with rfl | ⟨rfl, o3⟩
            · show W B h133 1 4 (a1 :: M) (true, []) 105 #[.val (.int p0), .val (.int p1), .val (.int p2), .val (.int p3), .val (.int p4), .val (.ref a1), .val (.int (0 : Int32)), .val (.int (4 : Int32)), .unset, .unset, .unset, .unset, .unset, .unset, .unset, .unset] [(.int (0 : Int32))]
              refine W.ifeq ok (pcY := 112) (pcN := 108) at_105 rfl (by decide) rfl (fun _ => ?_) (fun q => absurd rfl q)
              refine W.iconst ok (pc' := 113) (0 : Int32) at_112 rfl rfl ?_
              refine W.istore ok (pc' := 115) (L' := #[.val (.int p0), .val (.int p1), .val (.int p2), .val (.int p3), .val (.int p4), .val (.ref a1), .val (.int (0 : Int32)), .val (.int (4 : Int32)), .val (.int (0 : Int32)), .unset, .unset, .unset, .unset, .unset, .unset, .unset]) at_113 rfl rfl ?_
              refine W.iload ok (pc' := 117) at_115 rfl rfl ?_
              refine W.ifne ok (pcY := 122) (pcN := 120) at_117 rfl (by decide) rfl (fun _ => ?_) (fun q => absurd rfl q)
              refine W.iconst ok (pc' := 121) (1 : Int32) at_120 rfl rfl ?_
              exact W.retZ ok at_121 rfl (Nat.le_of_ble_eq_true rfl) (Nat.le_of_ble_eq_true rfl) (fun x (q : x ∈ M) => (List.mem_cons_of_mem _ q)) (fun kp => rfl)
            · show W B h133 1 4 (a1 :: M) (true, []) 105 #[.val (.int p0), .val (.int p1), .val (.int p2), .val (.int p3), .val (.int p4), .val (.ref a1), .val (.int (0 : Int32)), .val (.int (4 : Int32)), .unset, .unset, .unset, .unset, .unset, .unset, .unset, .unset] [(.int (1 : Int32))]
              have A135 := A132.ext (ext_keep K134)
              refine W.ifeq ok (pcY := 112) (pcN := 108) at_105 rfl (by decide) rfl (fun q => absurd q (by decide)) (fun _ => ?_)
              refine W.iconst ok (pc' := 109) (1 : Int32) at_108 rfl rfl ?_
              refine W.goto ok (pc' := 113) at_109 (by decide) rfl ?_
              refine W.istore ok (pc' := 115) (L' := #[.val (.int p0), .val (.int p1), .val (.int p2), .val (.int p3), .val (.int p4), .val (.ref a1), .val (.int (0 : Int32)), .val (.int (4 : Int32)), .val (.int (1 : Int32)), .unset, .unset, .unset, .unset, .unset, .unset, .unset]) at_113 rfl rfl ?_
              refine W.iload ok (pc' := 117) at_115 rfl rfl ?_
              refine W.ifne ok (pcY := 122) (pcN := 120) at_117 rfl (by decide) rfl (fun q => absurd q (by decide)) (fun _ => ?_)
              refine W.aload ok (pc' := 124) at_122 rfl rfl rfl ?_
              refine W.iconst ok (pc' := 125) (0 : Int32) at_124 rfl rfl ?_
              refine W.iload ok (pc' := 127) at_125 rfl rfl ?_
              refine W.callS ok (rest := []) (cl' := (true, [])) (pc' := 130) (w16 hw) (w17 hw) (w3 hw) (w18 hw) (by decide) pd_30 rfl (k_highY l Z a0 hE a1 [x0, x1, x2, x3] 0 4 x0 h133 A135 rfl (by omega) (by omega)) (fun _ q => (nomatch q)) (fun q => ⟨q, fun _ q => (nomatch q)⟩) rfl rfl (Nat.le_of_ble_eq_true rfl) (Nat.le_of_ble_eq_true rfl) (Nat.le_of_ble_eq_true rfl) (Nat.le_of_ble_eq_true rfl) at_127 rfl rfl (pureK ?_)
              show W B h133 1 4 (a1 :: M) (true, []) 130 #[.val (.int p0), .val (.int p1), .val (.int p2), .val (.int p3), .val (.int p4), .val (.ref a1), .val (.int (0 : Int32)), .val (.int (4 : Int32)), .val (.int (1 : Int32)), .unset, .unset, .unset, .unset, .unset, .unset, .unset] [(.int ((hb x0).toInt32))]
              refine W.aload ok (pc' := 132) at_130 rfl rfl rfl ?_
              refine W.iconst ok (pc' := 133) (1 : Int32) at_132 rfl rfl ?_
              refine W.iload ok (pc' := 135) at_133 rfl rfl ?_
              refine W.callS ok (rest := [(.int ((hb x0).toInt32))]) (cl' := (true, [])) (pc' := 138) (w16 hw) (w17 hw) (w3 hw) (w18 hw) (by decide) pd_30 rfl (k_highY l Z a0 hE a1 [x0, x1, x2, x3] 1 4 x1 h133 A135 rfl (by omega) (by omega)) (fun _ q => (nomatch q)) (fun q => ⟨q, fun _ q => (nomatch q)⟩) rfl rfl (Nat.le_of_ble_eq_true rfl) (Nat.le_of_ble_eq_true rfl) (Nat.le_of_ble_eq_true rfl) (Nat.le_of_ble_eq_true rfl) at_135 rfl rfl (pureK ?_)
              show W B h133 1 4 (a1 :: M) (true, []) 138 #[.val (.int p0), .val (.int p1), .val (.int p2), .val (.int p3), .val (.int p4), .val (.ref a1), .val (.int (0 : Int32)), .val (.int (4 : Int32)), .val (.int (1 : Int32)), .unset, .unset, .unset, .unset, .unset, .unset, .unset] [(.int ((hb x1).toInt32)), (.int ((hb x0).toInt32))]
              refine W.iadd ok (pc' := 139) at_138 rfl ?_
              refine W.aload ok (pc' := 141) at_139 rfl rfl rfl ?_
              refine W.iconst ok (pc' := 142) (2 : Int32) at_141 rfl rfl ?_
              refine W.iload ok (pc' := 144) at_142 rfl rfl ?_
              refine W.callS ok (rest := [(.int (((hb x0).toInt32) + ((hb x1).toInt32)))]) (cl' := (true, [])) (pc' := 147) (w16 hw) (w17 hw) (w3 hw) (w18 hw) (by decide) pd_30 rfl (k_highY l Z a0 hE a1 [x0, x1, x2, x3] 2 4 x2 h133 A135 rfl (by omega) (by omega)) (fun _ q => (nomatch q)) (fun q => ⟨q, fun _ q => (nomatch q)⟩) rfl rfl (Nat.le_of_ble_eq_true rfl) (Nat.le_of_ble_eq_true rfl) (Nat.le_of_ble_eq_true rfl) (Nat.le_of_ble_eq_true rfl) at_144 rfl rfl (pureK ?_)
              show W B h133 1 4 (a1 :: M) (true, []) 147 #[.val (.int p0), .val (.int p1), .val (.int p2), .val (.int p3), .val (.int p4), .val (.ref a1), .val (.int (0 : Int32)), .val (.int (4 : Int32)), .val (.int (1 : Int32)), .unset, .unset, .unset, .unset, .unset, .unset, .unset] [(.int ((hb x2).toInt32)), (.int (((hb x0).toInt32) + ((hb x1).toInt32)))]
              refine W.iadd ok (pc' := 148) at_147 rfl ?_
              refine W.aload ok (pc' := 150) at_148 rfl rfl rfl ?_
              refine W.iconst ok (pc' := 151) (3 : Int32) at_150 rfl rfl ?_
              refine W.iload ok (pc' := 153) at_151 rfl rfl ?_
              refine W.callS ok (rest := [(.int ((((hb x0).toInt32) + ((hb x1).toInt32)) + ((hb x2).toInt32)))]) (cl' := (true, [])) (pc' := 156) (w16 hw) (w17 hw) (w3 hw) (w18 hw) (by decide) pd_30 rfl (k_highY l Z a0 hE a1 [x0, x1, x2, x3] 3 4 x3 h133 A135 rfl (by omega) (by omega)) (fun _ q => (nomatch q)) (fun q => ⟨q, fun _ q => (nomatch q)⟩) rfl rfl (Nat.le_of_ble_eq_true rfl) (Nat.le_of_ble_eq_true rfl) (Nat.le_of_ble_eq_true rfl) (Nat.le_of_ble_eq_true rfl) at_153 rfl rfl (pureK ?_)
              show W B h133 1 4 (a1 :: M) (true, []) 156 #[.val (.int p0), .val (.int p1), .val (.int p2), .val (.int p3), .val (.int p4), .val (.ref a1), .val (.int (0 : Int32)), .val (.int (4 : Int32)), .val (.int (1 : Int32)), .unset, .unset, .unset, .unset, .unset, .unset, .unset] [(.int ((hb x3).toInt32)), (.int ((((hb x0).toInt32) + ((hb x1).toInt32)) + ((hb x2).toInt32)))]
              refine W.iadd ok (pc' := 157) at_156 rfl ?_
              refine W.istore ok (pc' := 159) (L' := #[.val (.int p0), .val (.int p1), .val (.int p2), .val (.int p3), .val (.int p4), .val (.ref a1), .val (.int (0 : Int32)), .val (.int (4 : Int32)), .val (.int (1 : Int32)), .val (.int (((((hb x0).toInt32) + ((hb x1).toInt32)) + ((hb x2).toInt32)) + ((hb x3).toInt32))), .unset, .unset, .unset, .unset, .unset, .unset]) at_157 rfl rfl ?_
              refine W.iload ok (pc' := 161) at_159 rfl rfl ?_
              obtain ⟨m, hW, hm⟩ := Cn.wf 4 [x0, x1, x2, x3] (by simp) (cn4 o0 o1 o2 o3)
              simp only [hs, List.length_cons, List.length_nil] at hm
              refine W.ifeq ok (pcY := 170) (pcN := 164) at_161 rfl (by decide) rfl (fun _ => ?_) (fun q => absurd rfl q)
              refine W.iconst ok (pc' := 171) (0 : Int32) at_170 rfl rfl ?_
              refine W.iload ok (pc' := 173) at_171 rfl rfl ?_
              refine W.iadd ok (pc' := 174) at_173 rfl ?_
              refine W.iload ok (pc' := 176) at_174 rfl rfl ?_
              refine W.isub ok (pc' := 177) at_176 rfl ?_
              generalize hcz : (((0 : Int32) + (4 : Int32)) - (((((hb x0).toInt32) + ((hb x1).toInt32)) + ((hb x2).toInt32)) + ((hb x3).toInt32))) = cz
              have ecz : cz = (0 + m).toInt32 := by
                rw [← hcz]
                show ((0 : Nat).toInt32 + (4 : Nat).toInt32) - ((hb x0).toInt32 + (hb x1).toInt32 + (hb x2).toInt32 + (hb x3).toInt32) = _
                rw [i32_add, i32_add, i32_add, i32_add, i32_sub (by omega) (by omega)]
                congr 1
                omega
              subst ecz
              have hml : m ≤ 4 := by omega
              refine W.istore ok (pc' := 179) (L' := #[.val (.int p0), .val (.int p1), .val (.int p2), .val (.int p3), .val (.int p4), .val (.ref a1), .val (.int (0 : Int32)), .val (.int (4 : Int32)), .val (.int (1 : Int32)), .val (.int (((((hb x0).toInt32) + ((hb x1).toInt32)) + ((hb x2).toInt32)) + ((hb x3).toInt32))), .val (.int ((0 + m).toInt32)), .unset, .unset, .unset, .unset, .unset]) at_177 rfl rfl ?_
              refine W.iload ok (pc' := 181) at_179 rfl rfl ?_
              refine W.iconst ok (pc' := 182) (1 : Int32) at_181 rfl rfl ?_
              refine W.icmplt ok (pcY := 193) (pcN := 185) at_182 rfl (by decide) rfl (fun d1 => ?_) (fun d1 => ?_)
              · refine W.iconst ok (pc' := 194) (1 : Int32) at_193 rfl rfl ?_
                exact W.retZ ok at_194 rfl (Nat.le_of_ble_eq_true rfl) (Nat.le_of_ble_eq_true rfl) (fun x (q : x ∈ M) => (List.mem_cons_of_mem _ q)) (fun kp => rfl)
              · have d1' : 1 ≤ 0 + m := by
                  rcases Nat.lt_or_ge (0 + m) 1 with q | q
                  · exact absurd ((i32_lt (a := 0 + m) (b := 1) (by omega) (by omega)).mpr q) d1
                  · exact q
                refine W.iload ok (pc' := 187) at_185 rfl rfl ?_
                refine W.sipush ok (pc' := 190) (200 : Int32) at_187 rfl rfl ?_
                refine W.icmple ok (pcY := 195) (pcN := 193) at_190 rfl (by decide) rfl (fun d2 => ?_) (fun d2 => ?_)
                · refine W.iconst ok (pc' := 194) (1 : Int32) at_193 rfl rfl ?_
                  exact W.retZ ok at_194 rfl (Nat.le_of_ble_eq_true rfl) (Nat.le_of_ble_eq_true rfl) (fun x (q : x ∈ M) => (List.mem_cons_of_mem _ q)) (fun kp => rfl)
                · have d2' : 0 + m ≤ 200 := by
                    rcases Nat.lt_or_ge 200 (0 + m) with q | q
                    · exact absurd ((i32_lt (a := 200) (b := 0 + m) (by omega) (by omega)).mpr q) d2
                    · exact q
                  refine W.iload ok (pc' := 197) at_195 rfl rfl ?_
                  refine W.ifeq ok (pcY := 250) (pcN := 200) at_197 rfl (by decide) rfl (fun _ => ?_) (fun q => absurd rfl q)
                  refine W.iload ok (pc' := 252) at_250 rfl rfl ?_
                  refine W.iconst ok (pc' := 253) (1 : Int32) at_252 rfl rfl ?_
                  refine W.icmpne ok (pcY := 271) (pcN := 256) at_253 rfl (by decide) rfl (fun q => absurd q (by decide)) (fun _ => ?_)
                  refine W.iload ok (pc' := 273) at_271 rfl rfl ?_
                  refine W.iconst ok (pc' := 274) (2 : Int32) at_273 rfl rfl ?_
                  refine W.icmpne ok (pcY := 299) (pcN := 277) at_274 rfl (by decide) rfl (fun q => absurd q (by decide)) (fun _ => ?_)
                  refine W.iload ok (pc' := 301) at_299 rfl rfl ?_
                  refine W.iconst ok (pc' := 302) (3 : Int32) at_301 rfl rfl ?_
                  refine W.icmpne ok (pcY := 334) (pcN := 305) at_302 rfl (by decide) rfl (fun q => absurd q (by decide)) (fun _ => ?_)
                  refine W.iconst ok (pc' := 335) (4 : Int32) at_334 rfl rfl ?_
                  refine W.newC ok (pc' := 337) (cap := 4) (w0 hw) (by decide) (by decide) (by decide) at_335 rfl (Nat.le_of_ble_eq_true rfl) (Nat.le_of_ble_eq_true rfl) (fun a136 h137 z138 ea139 E140 A141 => ?_)
                  replace A141 := A141.cast (cs' := [0, 0, 0, 0]) rfl
                  have lc := A135.gt
                  have nc142 : a1 ≠ a136 := ane (by omega)
                  refine W.dup ok (pc' := 338) at_337 rfl rfl ?_
                  refine W.iconst ok (pc' := 339) (0 : Int32) at_338 rfl rfl ?_
                  refine W.aload ok (pc' := 341) at_339 rfl rfl rfl ?_
                  refine W.iconst ok (pc' := 342) (0 : Int32) at_341 rfl rfl ?_
                  refine W.caload ok (pc' := 343) (A135.ext E140) x0 (by decide) rfl at_342 rfl ?_
                  refine W.castore ok (pc' := 344) (cl' := (true, [])) A141 (by decide) (Nat.le_of_ble_eq_true rfl) (List.mem_cons_self ..) (Or.inr z138) (fun q => ⟨q, z138⟩) rfl at_343 rfl (fun h143 Wr144 A145 => ?_)
                  replace A145 := A145.cast (cs' := [x0, 0, 0, 0]) (by rw [c16_of r0]; rfl)
                  have A146 := (A135.ext E140).other Wr144 nc142
                  refine W.dup ok (pc' := 345) at_344 rfl rfl ?_
                  refine W.iconst ok (pc' := 346) (1 : Int32) at_345 rfl rfl ?_
                  refine W.aload ok (pc' := 348) at_346 rfl rfl rfl ?_
                  refine W.iconst ok (pc' := 349) (1 : Int32) at_348 rfl rfl ?_
                  refine W.caload ok (pc' := 350) A146 x1 (by decide) rfl at_349 rfl ?_
                  refine W.castore ok (pc' := 351) (cl' := (true, [])) A145 (by decide) (Nat.le_of_ble_eq_true rfl) (List.mem_cons_self ..) (Or.inr z138) (fun q => ⟨q, z138⟩) rfl at_350 rfl (fun h147 Wr148 A149 => ?_)
                  replace A149 := A149.cast (cs' := [x0, x1, 0, 0]) (by rw [c16_of r1]; rfl)
                  have A150 := A146.other Wr148 nc142
                  refine W.dup ok (pc' := 352) at_351 rfl rfl ?_
                  refine W.iconst ok (pc' := 353) (2 : Int32) at_352 rfl rfl ?_
                  refine W.aload ok (pc' := 355) at_353 rfl rfl rfl ?_
                  refine W.iconst ok (pc' := 356) (2 : Int32) at_355 rfl rfl ?_
                  refine W.caload ok (pc' := 357) A150 x2 (by decide) rfl at_356 rfl ?_
                  refine W.castore ok (pc' := 358) (cl' := (true, [])) A149 (by decide) (Nat.le_of_ble_eq_true rfl) (List.mem_cons_self ..) (Or.inr z138) (fun q => ⟨q, z138⟩) rfl at_357 rfl (fun h151 Wr152 A153 => ?_)
                  replace A153 := A153.cast (cs' := [x0, x1, x2, 0]) (by rw [c16_of r2]; rfl)
                  have A154 := A150.other Wr152 nc142
                  refine W.dup ok (pc' := 359) at_358 rfl rfl ?_
                  refine W.iconst ok (pc' := 360) (3 : Int32) at_359 rfl rfl ?_
                  refine W.aload ok (pc' := 362) at_360 rfl rfl rfl ?_
                  refine W.iconst ok (pc' := 363) (3 : Int32) at_362 rfl rfl ?_
                  refine W.caload ok (pc' := 364) A154 x3 (by decide) rfl at_363 rfl ?_
                  refine W.castore ok (pc' := 365) (cl' := (true, [])) A153 (by decide) (Nat.le_of_ble_eq_true rfl) (List.mem_cons_self ..) (Or.inr z138) (fun q => ⟨q, z138⟩) rfl at_364 rfl (fun h155 Wr156 A157 => ?_)
                  replace A157 := A157.cast (cs' := [x0, x1, x2, x3]) (by rw [c16_of r3]; rfl)
                  have A158 := A154.other Wr156 nc142
                  refine W.astore ok (pc' := 367) (L' := #[.val (.int p0), .val (.int p1), .val (.int p2), .val (.int p3), .val (.int p4), .val (.ref a1), .val (.int (0 : Int32)), .val (.int (4 : Int32)), .val (.int (1 : Int32)), .val (.int (((((hb x0).toInt32) + ((hb x1).toInt32)) + ((hb x2).toInt32)) + ((hb x3).toInt32))), .val (.int ((0 + m).toInt32)), .val (.ref a136), .unset, .unset, .unset, .unset]) at_365 rfl rfl rfl ?_
                  refine W.weaken (k' := 2) (n' := 205) (cl' := (true, [])) (by decide) (by decide) (fun q => q) (fun e q => by first | exact q | (nomatch q)) ?_
                  exact tail _ a136 [x0, x1, x2, x3] (0 + m) _ _ _ _ _ A157 (by rw [Nat.zero_add]; exact hW) d1' d2' (by simp)
  · refine W.iconst ok (pc' := 41) (1 : Int32) at_40 rfl rfl ?_
    refine W.goto ok (pc' := 45) at_41 (by decide) rfl ?_
    refine W.istore ok (pc' := 47) (L' := #[.val (.int p0), .val (.int p1), .val (.int p2), .val (.int p3), .val (.int p4), .val (.ref a1), .val (.int (1 : Int32)), .unset, .unset, .unset, .unset, .unset, .unset, .unset, .unset, .unset]) at_45 rfl rfl ?_
    refine W.iload ok (pc' := 49) at_47 rfl rfl ?_
    refine W.ifeq ok (pcY := 56) (pcN := 52) at_49 rfl (by decide) rfl (fun q => absurd q (by decide)) (fun _ => ?_)
    refine W.iconst ok (pc' := 53) (4 : Int32) at_52 rfl rfl ?_
    refine W.goto ok (pc' := 62) at_53 (by decide) rfl ?_
    refine W.istore ok (pc' := 64) (L' := #[.val (.int p0), .val (.int p1), .val (.int p2), .val (.int p3), .val (.int p4), .val (.ref a1), .val (.int (1 : Int32)), .val (.int (4 : Int32)), .unset, .unset, .unset, .unset, .unset, .unset, .unset, .unset]) at_62 rfl rfl ?_
    refine W.aload ok (pc' := 66) at_64 rfl rfl rfl ?_
    refine W.iconst ok (pc' := 67) (0 : Int32) at_66 rfl rfl ?_
    refine W.iload ok (pc' := 69) at_67 rfl rfl ?_
    refine W.callS ok (rest := []) (cl' := (true, [])) (pc' := 72) (w5 hw) (w6 hw) (w3 hw) (w7 hw) (by decide) pd_29 rfl (k_okAt l Z a0 hE a1 [x0, x1, x2, x3] 0 4 h16 A18 (by simp) (by simp) (by omega)) (fun _ q => (nomatch q)) (fun q => ⟨q, fun _ q => (nomatch q)⟩) rfl rfl (Nat.le_of_ble_eq_true rfl) (Nat.le_of_ble_eq_true rfl) (Nat.le_of_ble_eq_true rfl) (Nat.le_of_ble_eq_true rfl) at_69 rfl rfl (oldK fun v h159 hq K160 => ?_)
    rcases hq with rfl | ⟨rfl, o0⟩
    · show W B h159 1 4 (a1 :: M) (true, []) 72 #[.val (.int p0), .val (.int p1), .val (.int p2), .val (.int p3), .val (.int p4), .val (.ref a1), .val (.int (1 : Int32)), .val (.int (4 : Int32)), .unset, .unset, .unset, .unset, .unset, .unset, .unset, .unset] [(.int (0 : Int32))]
      refine W.ifeq ok (pcY := 112) (pcN := 75) at_72 rfl (by decide) rfl (fun _ => ?_) (fun q => absurd rfl q)
      refine W.iconst ok (pc' := 113) (0 : Int32) at_112 rfl rfl ?_
      refine W.istore ok (pc' := 115) (L' := #[.val (.int p0), .val (.int p1), .val (.int p2), .val (.int p3), .val (.int p4), .val (.ref a1), .val (.int (1 : Int32)), .val (.int (4 : Int32)), .val (.int (0 : Int32)), .unset, .unset, .unset, .unset, .unset, .unset, .unset]) at_113 rfl rfl ?_
      refine W.iload ok (pc' := 117) at_115 rfl rfl ?_
      refine W.ifne ok (pcY := 122) (pcN := 120) at_117 rfl (by decide) rfl (fun _ => ?_) (fun q => absurd rfl q)
      refine W.iconst ok (pc' := 121) (1 : Int32) at_120 rfl rfl ?_
      exact W.retZ ok at_121 rfl (Nat.le_of_ble_eq_true rfl) (Nat.le_of_ble_eq_true rfl) (fun x (q : x ∈ M) => (List.mem_cons_of_mem _ q)) (fun kp => rfl)
    · show W B h159 1 4 (a1 :: M) (true, []) 72 #[.val (.int p0), .val (.int p1), .val (.int p2), .val (.int p3), .val (.int p4), .val (.ref a1), .val (.int (1 : Int32)), .val (.int (4 : Int32)), .unset, .unset, .unset, .unset, .unset, .unset, .unset, .unset] [(.int (1 : Int32))]
      have A161 := A18.ext (ext_keep K160)
      refine W.ifeq ok (pcY := 112) (pcN := 75) at_72 rfl (by decide) rfl (fun q => absurd q (by decide)) (fun _ => ?_)
      refine W.aload ok (pc' := 77) at_75 rfl rfl rfl ?_
      refine W.iconst ok (pc' := 78) (1 : Int32) at_77 rfl rfl ?_
      refine W.iload ok (pc' := 80) at_78 rfl rfl ?_
      refine W.callS ok (rest := []) (cl' := (true, [])) (pc' := 83) (w5 hw) (w6 hw) (w3 hw) (w7 hw) (by decide) pd_29 rfl (k_okAt l Z a0 hE a1 [x0, x1, x2, x3] 1 4 h159 A161 (by simp) (by simp) (by omega)) (fun _ q => (nomatch q)) (fun q => ⟨q, fun _ q => (nomatch q)⟩) rfl rfl (Nat.le_of_ble_eq_true rfl) (Nat.le_of_ble_eq_true rfl) (Nat.le_of_ble_eq_true rfl) (Nat.le_of_ble_eq_true rfl) at_80 rfl rfl (oldK fun v h162 hq K163 => ?_)
      rcases hq with rfl | ⟨rfl, o1⟩
      · show W B h162 1 4 (a1 :: M) (true, []) 83 #[.val (.int p0), .val (.int p1), .val (.int p2), .val (.int p3), .val (.int p4), .val (.ref a1), .val (.int (1 : Int32)), .val (.int (4 : Int32)), .unset, .unset, .unset, .unset, .unset, .unset, .unset, .unset] [(.int (0 : Int32))]
        refine W.ifeq ok (pcY := 112) (pcN := 86) at_83 rfl (by decide) rfl (fun _ => ?_) (fun q => absurd rfl q)
        refine W.iconst ok (pc' := 113) (0 : Int32) at_112 rfl rfl ?_
        refine W.istore ok (pc' := 115) (L' := #[.val (.int p0), .val (.int p1), .val (.int p2), .val (.int p3), .val (.int p4), .val (.ref a1), .val (.int (1 : Int32)), .val (.int (4 : Int32)), .val (.int (0 : Int32)), .unset, .unset, .unset, .unset, .unset, .unset, .unset]) at_113 rfl rfl ?_
        refine W.iload ok (pc' := 117) at_115 rfl rfl ?_
        refine W.ifne ok (pcY := 122) (pcN := 120) at_117 rfl (by decide) rfl (fun _ => ?_) (fun q => absurd rfl q)
        refine W.iconst ok (pc' := 121) (1 : Int32) at_120 rfl rfl ?_
        exact W.retZ ok at_121 rfl (Nat.le_of_ble_eq_true rfl) (Nat.le_of_ble_eq_true rfl) (fun x (q : x ∈ M) => (List.mem_cons_of_mem _ q)) (fun kp => rfl)
      · show W B h162 1 4 (a1 :: M) (true, []) 83 #[.val (.int p0), .val (.int p1), .val (.int p2), .val (.int p3), .val (.int p4), .val (.ref a1), .val (.int (1 : Int32)), .val (.int (4 : Int32)), .unset, .unset, .unset, .unset, .unset, .unset, .unset, .unset] [(.int (1 : Int32))]
        have A164 := A161.ext (ext_keep K163)
        refine W.ifeq ok (pcY := 112) (pcN := 86) at_83 rfl (by decide) rfl (fun q => absurd q (by decide)) (fun _ => ?_)
        refine W.aload ok (pc' := 88) at_86 rfl rfl rfl ?_
        refine W.iconst ok (pc' := 89) (2 : Int32) at_88 rfl rfl ?_
        refine W.iload ok (pc' := 91) at_89 rfl rfl ?_
        refine W.callS ok (rest := []) (cl' := (true, [])) (pc' := 94) (w5 hw) (w6 hw) (w3 hw) (w7 hw) (by decide) pd_29 rfl (k_okAt l Z a0 hE a1 [x0, x1, x2, x3] 2 4 h162 A164 (by simp) (by simp) (by omega)) (fun _ q => (nomatch q)) (fun q => ⟨q, fun _ q => (nomatch q)⟩) rfl rfl (Nat.le_of_ble_eq_true rfl) (Nat.le_of_ble_eq_true rfl) (Nat.le_of_ble_eq_true rfl) (Nat.le_of_ble_eq_true rfl) at_91 rfl rfl (oldK fun v h165 hq K166 => ?_)
        rcases hq with rfl | ⟨rfl, o2⟩
        · show W B h165 1 4 (a1 :: M) (true, []) 94 #[.val (.int p0), .val (.int p1), .val (.int p2), .val (.int p3), .val (.int p4), .val (.ref a1), .val (.int (1 : Int32)), .val (.int (4 : Int32)), .unset, .unset, .unset, .unset, .unset, .unset, .unset, .unset] [(.int (0 : Int32))]
          refine W.ifeq ok (pcY := 112) (pcN := 97) at_94 rfl (by decide) rfl (fun _ => ?_) (fun q => absurd rfl q)
          refine W.iconst ok (pc' := 113) (0 : Int32) at_112 rfl rfl ?_
          refine W.istore ok (pc' := 115) (L' := #[.val (.int p0), .val (.int p1), .val (.int p2), .val (.int p3), .val (.int p4), .val (.ref a1), .val (.int (1 : Int32)), .val (.int (4 : Int32)), .val (.int (0 : Int32)), .unset, .unset, .unset, .unset, .unset, .unset, .unset]) at_113 rfl rfl ?_
          refine W.iload ok (pc' := 117) at_115 rfl rfl ?_
          refine W.ifne ok (pcY := 122) (pcN := 120) at_117 rfl (by decide) rfl (fun _ => ?_) (fun q => absurd rfl q)
          refine W.iconst ok (pc' := 121) (1 : Int32) at_120 rfl rfl ?_
          exact W.retZ ok at_121 rfl (Nat.le_of_ble_eq_true rfl) (Nat.le_of_ble_eq_true rfl) (fun x (q : x ∈ M) => (List.mem_cons_of_mem _ q)) (fun kp => rfl)
        · show W B h165 1 4 (a1 :: M) (true, []) 94 #[.val (.int p0), .val (.int p1), .val (.int p2), .val (.int p3), .val (.int p4), .val (.ref a1), .val (.int (1 : Int32)), .val (.int (4 : Int32)), .unset, .unset, .unset, .unset, .unset, .unset, .unset, .unset] [(.int (1 : Int32))]
          have A167 := A164.ext (ext_keep K166)
          refine W.ifeq ok (pcY := 112) (pcN := 97) at_94 rfl (by decide) rfl (fun q => absurd q (by decide)) (fun _ => ?_)
          refine W.aload ok (pc' := 99) at_97 rfl rfl rfl ?_
          refine W.iconst ok (pc' := 100) (3 : Int32) at_99 rfl rfl ?_
          refine W.iload ok (pc' := 102) at_100 rfl rfl ?_
          refine W.callS ok (rest := []) (cl' := (true, [])) (pc' := 105) (w5 hw) (w6 hw) (w3 hw) (w7 hw) (by decide) pd_29 rfl (k_okAt l Z a0 hE a1 [x0, x1, x2, x3] 3 4 h165 A167 (by simp) (by simp) (by omega)) (fun _ q => (nomatch q)) (fun q => ⟨q, fun _ q => (nomatch q)⟩) rfl rfl (Nat.le_of_ble_eq_true rfl) (Nat.le_of_ble_eq_true rfl) (Nat.le_of_ble_eq_true rfl) (Nat.le_of_ble_eq_true rfl) at_102 rfl rfl (oldK fun v h168 hq K169 => ?_)
          rcases hq with rfl | ⟨rfl, o3⟩
          · show W B h168 1 4 (a1 :: M) (true, []) 105 #[.val (.int p0), .val (.int p1), .val (.int p2), .val (.int p3), .val (.int p4), .val (.ref a1), .val (.int (1 : Int32)), .val (.int (4 : Int32)), .unset, .unset, .unset, .unset, .unset, .unset, .unset, .unset] [(.int (0 : Int32))]
            refine W.ifeq ok (pcY := 112) (pcN := 108) at_105 rfl (by decide) rfl (fun _ => ?_) (fun q => absurd rfl q)
            refine W.iconst ok (pc' := 113) (0 : Int32) at_112 rfl rfl ?_
            refine W.istore ok (pc' := 115) (L' := #[.val (.int p0), .val (.int p1), .val (.int p2), .val (.int p3), .val (.int p4), .val (.ref a1), .val (.int (1 : Int32)), .val (.int (4 : Int32)), .val (.int (0 : Int32)), .unset, .unset, .unset, .unset, .unset, .unset, .unset]) at_113 rfl rfl ?_
            refine W.iload ok (pc' := 117) at_115 rfl rfl ?_
            refine W.ifne ok (pcY := 122) (pcN := 120) at_117 rfl (by decide) rfl (fun _ => ?_) (fun q => absurd rfl q)
            refine W.iconst ok (pc' := 121) (1 : Int32) at_120 rfl rfl ?_
            exact W.retZ ok at_121 rfl (Nat.le_of_ble_eq_true rfl) (Nat.le_of_ble_eq_true rfl) (fun x (q : x ∈ M) => (List.mem_cons_of_mem _ q)) (fun kp => rfl)
          · show W B h168 1 4 (a1 :: M) (true, []) 105 #[.val (.int p0), .val (.int p1), .val (.int p2), .val (.int p3), .val (.int p4), .val (.ref a1), .val (.int (1 : Int32)), .val (.int (4 : Int32)), .unset, .unset, .unset, .unset, .unset, .unset, .unset, .unset] [(.int (1 : Int32))]
            have A170 := A167.ext (ext_keep K169)
            refine W.ifeq ok (pcY := 112) (pcN := 108) at_105 rfl (by decide) rfl (fun q => absurd q (by decide)) (fun _ => ?_)
            refine W.iconst ok (pc' := 109) (1 : Int32) at_108 rfl rfl ?_
            refine W.goto ok (pc' := 113) at_109 (by decide) rfl ?_
            refine W.istore ok (pc' := 115) (L' := #[.val (.int p0), .val (.int p1), .val (.int p2), .val (.int p3), .val (.int p4), .val (.ref a1), .val (.int (1 : Int32)), .val (.int (4 : Int32)), .val (.int (1 : Int32)), .unset, .unset, .unset, .unset, .unset, .unset, .unset]) at_113 rfl rfl ?_
            refine W.iload ok (pc' := 117) at_115 rfl rfl ?_
            refine W.ifne ok (pcY := 122) (pcN := 120) at_117 rfl (by decide) rfl (fun q => absurd q (by decide)) (fun _ => ?_)
            refine W.aload ok (pc' := 124) at_122 rfl rfl rfl ?_
            refine W.iconst ok (pc' := 125) (0 : Int32) at_124 rfl rfl ?_
            refine W.iload ok (pc' := 127) at_125 rfl rfl ?_
            refine W.callS ok (rest := []) (cl' := (true, [])) (pc' := 130) (w16 hw) (w17 hw) (w3 hw) (w18 hw) (by decide) pd_30 rfl (k_highY l Z a0 hE a1 [x0, x1, x2, x3] 0 4 x0 h168 A170 rfl (by omega) (by omega)) (fun _ q => (nomatch q)) (fun q => ⟨q, fun _ q => (nomatch q)⟩) rfl rfl (Nat.le_of_ble_eq_true rfl) (Nat.le_of_ble_eq_true rfl) (Nat.le_of_ble_eq_true rfl) (Nat.le_of_ble_eq_true rfl) at_127 rfl rfl (pureK ?_)
            show W B h168 1 4 (a1 :: M) (true, []) 130 #[.val (.int p0), .val (.int p1), .val (.int p2), .val (.int p3), .val (.int p4), .val (.ref a1), .val (.int (1 : Int32)), .val (.int (4 : Int32)), .val (.int (1 : Int32)), .unset, .unset, .unset, .unset, .unset, .unset, .unset] [(.int ((hb x0).toInt32))]
            refine W.aload ok (pc' := 132) at_130 rfl rfl rfl ?_
            refine W.iconst ok (pc' := 133) (1 : Int32) at_132 rfl rfl ?_
            refine W.iload ok (pc' := 135) at_133 rfl rfl ?_
            refine W.callS ok (rest := [(.int ((hb x0).toInt32))]) (cl' := (true, [])) (pc' := 138) (w16 hw) (w17 hw) (w3 hw) (w18 hw) (by decide) pd_30 rfl (k_highY l Z a0 hE a1 [x0, x1, x2, x3] 1 4 x1 h168 A170 rfl (by omega) (by omega)) (fun _ q => (nomatch q)) (fun q => ⟨q, fun _ q => (nomatch q)⟩) rfl rfl (Nat.le_of_ble_eq_true rfl) (Nat.le_of_ble_eq_true rfl) (Nat.le_of_ble_eq_true rfl) (Nat.le_of_ble_eq_true rfl) at_135 rfl rfl (pureK ?_)
            show W B h168 1 4 (a1 :: M) (true, []) 138 #[.val (.int p0), .val (.int p1), .val (.int p2), .val (.int p3), .val (.int p4), .val (.ref a1), .val (.int (1 : Int32)), .val (.int (4 : Int32)), .val (.int (1 : Int32)), .unset, .unset, .unset, .unset, .unset, .unset, .unset] [(.int ((hb x1).toInt32)), (.int ((hb x0).toInt32))]
            refine W.iadd ok (pc' := 139) at_138 rfl ?_
            refine W.aload ok (pc' := 141) at_139 rfl rfl rfl ?_
            refine W.iconst ok (pc' := 142) (2 : Int32) at_141 rfl rfl ?_
            refine W.iload ok (pc' := 144) at_142 rfl rfl ?_
            refine W.callS ok (rest := [(.int (((hb x0).toInt32) + ((hb x1).toInt32)))]) (cl' := (true, [])) (pc' := 147) (w16 hw) (w17 hw) (w3 hw) (w18 hw) (by decide) pd_30 rfl (k_highY l Z a0 hE a1 [x0, x1, x2, x3] 2 4 x2 h168 A170 rfl (by omega) (by omega)) (fun _ q => (nomatch q)) (fun q => ⟨q, fun _ q => (nomatch q)⟩) rfl rfl (Nat.le_of_ble_eq_true rfl) (Nat.le_of_ble_eq_true rfl) (Nat.le_of_ble_eq_true rfl) (Nat.le_of_ble_eq_true rfl) at_144 rfl rfl (pureK ?_)
            show W B h168 1 4 (a1 :: M) (true, []) 147 #[.val (.int p0), .val (.int p1), .val (.int p2), .val (.int p3), .val (.int p4), .val (.ref a1), .val (.int (1 : Int32)), .val (.int (4 : Int32)), .val (.int (1 : Int32)), .unset, .unset, .unset, .unset, .unset, .unset, .unset] [(.int ((hb x2).toInt32)), (.int (((hb x0).toInt32) + ((hb x1).toInt32)))]
            refine W.iadd ok (pc' := 148) at_147 rfl ?_
            refine W.aload ok (pc' := 150) at_148 rfl rfl rfl ?_
            refine W.iconst ok (pc' := 151) (3 : Int32) at_150 rfl rfl ?_
            refine W.iload ok (pc' := 153) at_151 rfl rfl ?_
            refine W.callS ok (rest := [(.int ((((hb x0).toInt32) + ((hb x1).toInt32)) + ((hb x2).toInt32)))]) (cl' := (true, [])) (pc' := 156) (w16 hw) (w17 hw) (w3 hw) (w18 hw) (by decide) pd_30 rfl (k_highY l Z a0 hE a1 [x0, x1, x2, x3] 3 4 x3 h168 A170 rfl (by omega) (by omega)) (fun _ q => (nomatch q)) (fun q => ⟨q, fun _ q => (nomatch q)⟩) rfl rfl (Nat.le_of_ble_eq_true rfl) (Nat.le_of_ble_eq_true rfl) (Nat.le_of_ble_eq_true rfl) (Nat.le_of_ble_eq_true rfl) at_153 rfl rfl (pureK ?_)
            show W B h168 1 4 (a1 :: M) (true, []) 156 #[.val (.int p0), .val (.int p1), .val (.int p2), .val (.int p3), .val (.int p4), .val (.ref a1), .val (.int (1 : Int32)), .val (.int (4 : Int32)), .val (.int (1 : Int32)), .unset, .unset, .unset, .unset, .unset, .unset, .unset] [(.int ((hb x3).toInt32)), (.int ((((hb x0).toInt32) + ((hb x1).toInt32)) + ((hb x2).toInt32)))]
            refine W.iadd ok (pc' := 157) at_156 rfl ?_
            refine W.istore ok (pc' := 159) (L' := #[.val (.int p0), .val (.int p1), .val (.int p2), .val (.int p3), .val (.int p4), .val (.ref a1), .val (.int (1 : Int32)), .val (.int (4 : Int32)), .val (.int (1 : Int32)), .val (.int (((((hb x0).toInt32) + ((hb x1).toInt32)) + ((hb x2).toInt32)) + ((hb x3).toInt32))), .unset, .unset, .unset, .unset, .unset, .unset]) at_157 rfl rfl ?_
            refine W.iload ok (pc' := 161) at_159 rfl rfl ?_
            obtain ⟨m, hW, hm⟩ := Cn.wf 4 [x0, x1, x2, x3] (by simp) (cn4 o0 o1 o2 o3)
            simp only [hs, List.length_cons, List.length_nil] at hm
            refine W.ifeq ok (pcY := 170) (pcN := 164) at_161 rfl (by decide) rfl (fun q => absurd q (by decide)) (fun _ => ?_)
            refine W.sipush ok (pc' := 167) (197 : Int32) at_164 rfl rfl ?_
            refine W.goto ok (pc' := 171) at_167 (by decide) rfl ?_
            refine W.iload ok (pc' := 173) at_171 rfl rfl ?_
            refine W.iadd ok (pc' := 174) at_173 rfl ?_
            refine W.iload ok (pc' := 176) at_174 rfl rfl ?_
            refine W.isub ok (pc' := 177) at_176 rfl ?_
            generalize hcz : (((197 : Int32) + (4 : Int32)) - (((((hb x0).toInt32) + ((hb x1).toInt32)) + ((hb x2).toInt32)) + ((hb x3).toInt32))) = cz
            have ecz : cz = (197 + m).toInt32 := by
              rw [← hcz]
              show ((197 : Nat).toInt32 + (4 : Nat).toInt32) - ((hb x0).toInt32 + (hb x1).toInt32 + (hb x2).toInt32 + (hb x3).toInt32) = _
              rw [i32_add, i32_add, i32_add, i32_add, i32_sub (by omega) (by omega)]
              congr 1
              omega
            subst ecz
            have hml : m ≤ 4 := by omega
            refine W.istore ok (pc' := 179) (L' := #[.val (.int p0), .val (.int p1), .val (.int p2), .val (.int p3), .val (.int p4), .val (.ref a1), .val (.int (1 : Int32)), .val (.int (4 : Int32)), .val (.int (1 : Int32)), .val (.int (((((hb x0).toInt32) + ((hb x1).toInt32)) + ((hb x2).toInt32)) + ((hb x3).toInt32))), .val (.int ((197 + m).toInt32)), .unset, .unset, .unset, .unset, .unset]) at_177 rfl rfl ?_
            refine W.iload ok (pc' := 181) at_179 rfl rfl ?_
            refine W.iconst ok (pc' := 182) (1 : Int32) at_181 rfl rfl ?_
            refine W.icmplt ok (pcY := 193) (pcN := 185) at_182 rfl (by decide) rfl (fun d1 => ?_) (fun d1 => ?_)
            · refine W.iconst ok (pc' := 194) (1 : Int32) at_193 rfl rfl ?_
              exact W.retZ ok at_194 rfl (Nat.le_of_ble_eq_true rfl) (Nat.le_of_ble_eq_true rfl) (fun x (q : x ∈ M) => (List.mem_cons_of_mem _ q)) (fun kp => rfl)
            · have d1' : 1 ≤ 197 + m := by
                rcases Nat.lt_or_ge (197 + m) 1 with q | q
                · exact absurd ((i32_lt (a := 197 + m) (b := 1) (by omega) (by omega)).mpr q) d1
                · exact q
              refine W.iload ok (pc' := 187) at_185 rfl rfl ?_
              refine W.sipush ok (pc' := 190) (200 : Int32) at_187 rfl rfl ?_
              refine W.icmple ok (pcY := 195) (pcN := 193) at_190 rfl (by decide) rfl (fun d2 => ?_) (fun d2 => ?_)
              · refine W.iconst ok (pc' := 194) (1 : Int32) at_193 rfl rfl ?_
                exact W.retZ ok at_194 rfl (Nat.le_of_ble_eq_true rfl) (Nat.le_of_ble_eq_true rfl) (fun x (q : x ∈ M) => (List.mem_cons_of_mem _ q)) (fun kp => rfl)
              · have d2' : 197 + m ≤ 200 := by
                  rcases Nat.lt_or_ge 200 (197 + m) with q | q
                  · exact absurd ((i32_lt (a := 200) (b := 197 + m) (by omega) (by omega)).mpr q) d2
                  · exact q
                refine W.iload ok (pc' := 197) at_195 rfl rfl ?_
                refine W.ifeq ok (pcY := 250) (pcN := 200) at_197 rfl (by decide) rfl (fun q => absurd q (by decide)) (fun _ => ?_)
                refine W.sipush ok (pc' := 203) (201 : Int32) at_200 rfl rfl ?_
                refine W.newC ok (pc' := 205) (cap := 201) (w0 hw) (by decide) (by decide) (by decide) at_203 rfl (Nat.le_of_ble_eq_true rfl) (Nat.le_of_ble_eq_true rfl) (fun a171 h172 z173 ea174 E175 A176 => ?_)
                replace A176 := A176.cast (cs' := List.replicate 201 0) rfl
                have lc := A170.gt
                have nc177 : a1 ≠ a171 := ane (by omega)
                refine W.astore ok (pc' := 207) (L' := #[.val (.int p0), .val (.int p1), .val (.int p2), .val (.int p3), .val (.int p4), .val (.ref a1), .val (.int (1 : Int32)), .val (.int (4 : Int32)), .val (.int (1 : Int32)), .val (.int (((((hb x0).toInt32) + ((hb x1).toInt32)) + ((hb x2).toInt32)) + ((hb x3).toInt32))), .val (.int ((197 + m).toInt32)), .val (.ref a171), .unset, .unset, .unset, .unset]) at_205 rfl rfl rfl ?_
                refine W.aload ok (pc' := 209) at_207 rfl rfl rfl ?_
                refine W.sipush ok (pc' := 212) (197 : Int32) at_209 rfl rfl ?_
                refine W.aload ok (pc' := 214) at_212 rfl rfl rfl ?_
                refine W.iconst ok (pc' := 215) (0 : Int32) at_214 rfl rfl ?_
                refine W.caload ok (pc' := 216) (A170.ext E175) x0 (by decide) rfl at_215 rfl ?_
                refine W.castore ok (pc' := 217) (cl' := (true, [])) A176 (by decide) (by simp only [List.length_set, List.length_replicate]; decide) (List.mem_cons_self ..) (Or.inr z173) (fun q => ⟨q, z173⟩) rfl at_216 rfl (fun h178 Wr179 A180 => ?_)
                replace A180 := A180.cast (cs' := (List.replicate 201 (0 : Int32)).set 197 x0) (by rw [c16_of r0]; rfl)
                have A181 := (A170.ext E175).other Wr179 nc177
                refine W.aload ok (pc' := 219) at_217 rfl rfl rfl ?_
                refine W.sipush ok (pc' := 222) (198 : Int32) at_219 rfl rfl ?_
                refine W.aload ok (pc' := 224) at_222 rfl rfl rfl ?_
                refine W.iconst ok (pc' := 225) (1 : Int32) at_224 rfl rfl ?_
                refine W.caload ok (pc' := 226) A181 x1 (by decide) rfl at_225 rfl ?_
                refine W.castore ok (pc' := 227) (cl' := (true, [])) A180 (by decide) (by simp only [List.length_set, List.length_replicate]; decide) (List.mem_cons_self ..) (Or.inr z173) (fun q => ⟨q, z173⟩) rfl at_226 rfl (fun h182 Wr183 A184 => ?_)
                replace A184 := A184.cast (cs' := ((List.replicate 201 (0 : Int32)).set 197 x0).set 198 x1) (by rw [c16_of r1]; rfl)
                have A185 := A181.other Wr183 nc177
                refine W.aload ok (pc' := 229) at_227 rfl rfl rfl ?_
                refine W.sipush ok (pc' := 232) (199 : Int32) at_229 rfl rfl ?_
                refine W.aload ok (pc' := 234) at_232 rfl rfl rfl ?_
                refine W.iconst ok (pc' := 235) (2 : Int32) at_234 rfl rfl ?_
                refine W.caload ok (pc' := 236) A185 x2 (by decide) rfl at_235 rfl ?_
                refine W.castore ok (pc' := 237) (cl' := (true, [])) A184 (by decide) (by simp only [List.length_set, List.length_replicate]; decide) (List.mem_cons_self ..) (Or.inr z173) (fun q => ⟨q, z173⟩) rfl at_236 rfl (fun h186 Wr187 A188 => ?_)
                replace A188 := A188.cast (cs' := (((List.replicate 201 (0 : Int32)).set 197 x0).set 198 x1).set 199 x2) (by rw [c16_of r2]; rfl)
                have A189 := A185.other Wr187 nc177
                refine W.aload ok (pc' := 239) at_237 rfl rfl rfl ?_
                refine W.sipush ok (pc' := 242) (200 : Int32) at_239 rfl rfl ?_
                refine W.aload ok (pc' := 244) at_242 rfl rfl rfl ?_
                refine W.iconst ok (pc' := 245) (3 : Int32) at_244 rfl rfl ?_
                refine W.caload ok (pc' := 246) A189 x3 (by decide) rfl at_245 rfl ?_
                refine W.castore ok (pc' := 247) (cl' := (true, [])) A188 (by decide) (by simp only [List.length_set, List.length_replicate]; decide) (List.mem_cons_self ..) (Or.inr z173) (fun q => ⟨q, z173⟩) rfl at_246 rfl (fun h190 Wr191 A192 => ?_)
                replace A192 := A192.cast (cs' := ((((List.replicate 201 (0 : Int32)).set 197 x0).set 198 x1).set 199 x2).set 200 x3) (by rw [c16_of r3]; rfl)
                have A193 := A189.other Wr191 nc177
                refine W.goto ok (pc' := 367) at_247 (by decide) rfl ?_
                replace A192 := A192.cast (tail201 x0 x1 x2 x3)
                refine W.weaken (k' := 2) (n' := 205) (cl' := (true, [])) (by decide) (by decide) (fun q => q) (fun e q => by first | exact q | (nomatch q)) ?_
                exact tail _ a171 (List.replicate 197 0 ++ [x0, x1, x2, x3]) (197 + m) _ _ _ _ _ A192 (hW.zeros 197) d1' d2' (by simp)
set_option maxRecDepth 65536 in
set_option maxHeartbeats 4000000 in
theorem comes_1 {Post : Tables → Env → Array Value → State → Outcome → State → Prop} (hpost : ∀ tb e args s v u, (limb_1_1.after args s (.returned v) u = true ∧ limb_1_2.after args s (.returned v) u = true ∧ True) → ReturnedEndW s (.returned v) u (Jvm.fieldLocs frame_1_writes args s ++ Jvm.arrayLocs frame_1_arrays args s ++ Jvm.staticLocs frame_1_statics s) 32 3968 → Post tb e args s (.returned v) u) :
    ArmFor flags0 classFile x code maxLocals ret World_1 tables_1 room_1 Calls_1 rest_1 Pre_1 Post := by
  intro l hfl _ _ p e ha hc hk s m args below hf hA hF happ hP
  obtain ⟨hcalls, hrest, hpre⟩ := hP
  obtain ⟨-, -, -, hnamed, -, -, -, hat⟩ := (Spec.applies_iff hf).mp happ
  obtain ⟨hg, hn⟩ := and_e (Cond.before_iff.mp (show (Jvm.Cond.and given_1 narrow_1).before args s = true from hpre))
  obtain ⟨h1, g0⟩ := and_e hg
  obtain ⟨q0, g1⟩ := and_e g0
  obtain ⟨q1, g2⟩ := and_e g1
  obtain ⟨q2, g3⟩ := and_e g2
  obtain ⟨q3, g4⟩ := and_e g3
  obtain ⟨w0_, w1_, w2_, w3_, w4_, rfl⟩ : ∃ w0_ w1_ w2_ w3_ w4_ : Value, args = #[w0_, w1_, w2_, w3_, w4_] := by
    have hs : args.size = 5 := by simpa [Cond.value, given_1] using h1
    obtain ⟨L⟩ := args
    match L, hs with
    | [w0_, w1_, w2_, w3_, w4_], _ => exact ⟨w0_, w1_, w2_, w3_, w4_, rfl⟩
  have hw := fun d (hd : d ∈ tables_1) => atoms_spec (ws := Jvm.Cond.code x code maxLocals ret :: tables_1) hat d (List.mem_cons_of_mem _ hd)
  have hfit : Fit s := fun {y c} hc i hi => by
    obtain ⟨ha, rfl⟩ := Array.getElem?_eq_some_iff.mp hc
    have q := List.all_eq_true.mp ((Array.all_eq_true_iff_forall_mem.mp hF) _ (Array.getElem_mem ha)) i (List.mem_range.mpr hi)
    simpa [Array.getElem?_eq_getElem hi] using q
  obtain ⟨p0, e0_⟩ := is_v q0
  obtain rfl : w0_ = (.int p0) := Option.some.inj e0_
  obtain ⟨p1, e1_⟩ := is_v q1
  obtain rfl : w1_ = (.int p1) := Option.some.inj e1_
  obtain ⟨p2, e2_⟩ := is_v q2
  obtain rfl : w2_ = (.int p2) := Option.some.inj e2_
  obtain ⟨p3, e3_⟩ := is_v q3
  obtain rfl : w3_ = (.int p3) := Option.some.inj e3_
  obtain ⟨p4, e4_⟩ := is_v g4
  obtain rfl : w4_ = (.int p4) := Option.some.inj e4_
  obtain ⟨hsets, hown0⟩ := atoms_of _ (rest_1_c_eq ▸ (show rest_1_c.before _ s = true from hrest))
  have nC := not_v (Cond.before_iff.mp (hsets _ (List.mem_of_getElem? (i := 2) rfl)))
  obtain ⟨gC, eC⟩ := is_v (Cond.before_iff.mp (hsets _ (List.mem_of_getElem? (i := 1) rfl)))
  have sC : Sta s s.heap "java/lang/String" "COMPACT_STRINGS" "Z" (.int gC) := Sta.start eC (Or.inl (hsets _ (List.mem_of_getElem? (i := 0) rfl)))
  have cC : ¬ (gC = (0 : Int32)) := gotF (Cond.eq_ints eC (Term.int_eval (0))) nC
  obtain ⟨gF, eF, rF⟩ := isR_v (Cond.before_iff.mp (hsets _ (List.mem_of_getElem? (i := 8) rfl)))
  have sF : Sta s s.heap "jdk/internal/util/Preconditions" "SIOOBE_FORMATTER" "Ljava/util/function/BiFunction;" gF := Sta.start eF (Or.inl (hsets _ (List.mem_of_getElem? (i := 7) rfl)))
  have s_asd : Sta s s.heap "java/lang/StringUTF16" "$assertionsDisabled" "Z" (.int 1) := Sta.start (eq_int_v (Cond.before_iff.mp (hsets _ (List.mem_of_getElem? (i := 12) rfl)))) (Or.inl (hsets _ (List.mem_of_getElem? (i := 11) rfl)))
  have s_hi : Sta s s.heap "java/lang/StringUTF16" "HI_BYTE_SHIFT" "I" (.int 0) := Sta.start (eq_int_v (Cond.before_iff.mp (hsets _ (List.mem_of_getElem? (i := 15) rfl)))) (Or.inl (hsets _ (List.mem_of_getElem? (i := 14) rfl)))
  have s_lo : Sta s s.heap "java/lang/StringUTF16" "LO_BYTE_SHIFT" "I" (.int 8) := Sta.start (eq_int_v (Cond.before_iff.mp (hsets _ (List.mem_of_getElem? (i := 18) rfl)))) (Or.inl (hsets _ (List.mem_of_getElem? (i := 17) rfl)))
  have hE : Ev s (#[.int p0, .int p1, .int p2, .int p3, .int p4] : Array Value) := ⟨hw, ⟨gC, cC, sC⟩, ⟨gF, rF, sF⟩, s_asd, s_hi, s_lo⟩
  obtain ⟨n_, o_, r1, r2, r3, v_, Lc, N_, rfl, ⟨-, rfl⟩, -, -, hL, hR, hN⟩ := k_law l s _ hE p0 p1 p2 p3 p4 s.heap tables_1 [] (fun _ q => (nomatch q)) p e ha hc hk s m _ below hf ((Spec.applies_iff_loose hf).mp happ).1 ⟨rfl, rfl, State.Warmed39.refl s, fun units a _ q => Or.inl q, ⟨Nat.le_refl _, fun _ _ q => q⟩, fun _ q => (by cases q), fun _ q => (by cases q)⟩ trivial
  exact ⟨n_, _, r1, r2, r3, hpost _ _ _ _ _ _ ⟨Cond.after_iff.mpr rfl, Cond.after_iff.mpr (eq_i res_at (Term.int_eval (1)) rfl), trivial⟩ ⟨hR.1, hR.2.1, hR.2.2.1, (hR.2.2.2.sift fun y hy => Or.inr ((hL y hy).elim (fun q => by cases q) id)).mono (by decide) (by decide)⟩⟩
theorem main_1_1 : Claimed_1_1 := comes_1 fun _ _ _ _ _ _ h hF => ⟨h.1, hF⟩
theorem main_1_2 : Claimed_1_2 := comes_1 fun _ _ _ _ _ _ h hF => ⟨h.2.1, hF⟩
end Jvm.Pilot.@@N@@
namespace Jvm.Pilot.@@N@@
open Jvm Jvm.ClassFile Sem Op Lib Jvm.Free Jvm.Stand Jvm.Pilot.@@N@@.Jvm.D
/-! MADE BY PROGRAM (witnessworld.py) out of the Statement's table words and the real class files: 22 classes; the members and pool entries that the words name. The judged class is class 1, her method 6. -/
namespace start1
open Jvm.ClassFile
def u (s : String) : CpInfo := .utf8 (stringToUtf16 s)
/-- a pool by its gaps: so many unusable entries, then the entry; so many at the end -/
def gap : Nat → List CpInfo → List CpInfo
  | 0, r => r
  | n + 1, r => .unusable :: gap n r
def poolList (es : List (Nat × CpInfo)) (last : Nat) : List CpInfo := es.foldr (fun e r => gap e.1 (e.2 :: r)) (gap last [])
def pool (es : List (Nat × CpInfo)) (last : Nat) : Array CpInfo := ⟨poolList es last⟩
def fileOf (pool : Array CpInfo) (this : Nat) (attrs : Array Attribute := #[]) (ms : Array MethodInfo := #[]) (fl : Nat := 33) (sup : Nat := 0) (ifs : Array Nat := #[]) (fds : Array FieldInfo := #[]) : ClassFile where
  minorVersion := 0
  majorVersion := 65
  constantPool := pool
  accessFlags := fl
  thisClass := this
  superClass := sup
  interfaces := ifs
  fields := fds
  methods := ms
  attributes := attrs
def plain (name : String) (sup : Option ClassId) : Class where
  name := name
  kind := .ordinary
  loader := none
  accessFlags := 33
  super := sup
  interfaces := #[]
  cf := none
  fields := #[]
  methods := #[]
  instanceTypes := #[]
  staticTypes := #[]
  resolved := #[]
  callSites := []
  init := .initialized
  statics := none
  mirror := none

def pool0 : Array CpInfo := pool [(5, u "<init>"), (0, u "()V"), (1, .class_ 10), (1, u "java/lang/Object")] 113

def k0c0 : Code := { maxStack := 0, maxLocals := 1, code := object_method_1_code, exceptionTable := #[], attributes := #[] }
def k0m0 : Method := { name := "<init>", desc := "()V", sig := { parameters := [], returnType := none }, accessFlags := 1, code := some k0c0 }
/-- java/lang/Object -/
def k0 : Class := { plain "java/lang/Object" none with
  accessFlags := 33
  interfaces := #[]
  cf := some (fileOf pool0 8 #[] #[{ accessFlags := 1, nameIndex := 5, descriptorIndex := 6, attributes := #[] }] 33 0 #[] #[])
  fields := #[]
  methods := #[k0m0]
  instanceTypes := #[]
  staticTypes := #[]
  resolved := Array.replicate 124 none
  statics := none }

def pool1 : Array CpInfo := pool [(2, .class_ 4), (1, u "java/lang/Object"), (0, u "<init>"), (0, u "()V"), (0, .integer 55296), (0, .integer 56320), (0, .integer 65535), (0, .integer 56319), (0, .integer 57343), (0, .methodref 13 14), (0, .class_ 15), (0, .nameAndType 16 17), (0, u "com/example/bounded_lock/boundedlock/LockNameOfPinLaw"), (0, u "isHigh"), (0, u "(C)Z"), (0, .methodref 13 19), (0, .nameAndType 20 17), (0, u "isLow"), (0, .methodref 13 22), (0, .nameAndType 23 24), (0, u "draw"), (0, u "(I)C"), (0, .methodref 13 26), (0, .nameAndType 27 28), (0, u "okAt"), (0, u "([CII)Z"), (0, .methodref 13 30), (0, .nameAndType 31 32), (0, u "highAt"), (0, u "([CII)I"), (0, .class_ 34), (0, u "java/lang/String"), (0, .methodref 33 36), (0, .nameAndType 5 37), (0, u "([C)V"), (0, .methodref 39 40), (0, .class_ 41), (0, .nameAndType 42 43), (0, u "com/example/bounded_lock/boundedlock/LockName"), (0, u "of"), (0, u "(Ljava/lang/String;)Lcom/example/bounded_lock/boundedlock/LockName;"), (0, .methodref 39 45), (0, .nameAndType 46 47), (0, u "value"), (0, u "()Ljava/lang/String;"), (0, .methodref 33 49), (0, .nameAndType 50 51), (0, u "equals"), (0, u "(Ljava/lang/Object;)Z"), (0, .methodref 33 53), (0, .nameAndType 54 55), (0, u "length"), (0, u "()I"), (0, .methodref 39 49), (3, u "law"), (0, u "(IIIII)Z")] 4

def k1m0 : Method := { name := "<init>", desc := "()V", sig := { parameters := [], returnType := none }, accessFlags := 1, code := none }
def k1c1 : Code := { maxStack := 3, maxLocals := 3, code := method_2_code, exceptionTable := #[], attributes := #[] }
def k1m1 : Method := { name := "draw", desc := "(I)C", sig := { parameters := [.int], returnType := some .char }, accessFlags := 10, code := some k1c1 }
def k1c2 : Code := { maxStack := 2, maxLocals := 1, code := method_3_code, exceptionTable := #[], attributes := #[] }
def k1m2 : Method := { name := "isHigh", desc := "(C)Z", sig := { parameters := [.char], returnType := some .boolean }, accessFlags := 10, code := some k1c2 }
def k1c3 : Code := { maxStack := 2, maxLocals := 1, code := method_4_code, exceptionTable := #[], attributes := #[] }
def k1m3 : Method := { name := "isLow", desc := "(C)Z", sig := { parameters := [.char], returnType := some .boolean }, accessFlags := 10, code := some k1c3 }
def k1c4 : Code := { maxStack := 3, maxLocals := 3, code := method_5_code, exceptionTable := #[], attributes := #[] }
def k1m4 : Method := { name := "okAt", desc := "([CII)Z", sig := { parameters := [(.array .char), .int, .int], returnType := some .boolean }, accessFlags := 10, code := some k1c4 }
def k1c5 : Code := { maxStack := 2, maxLocals := 3, code := method_6_code, exceptionTable := #[], attributes := #[] }
def k1m5 : Method := { name := "highAt", desc := "([CII)I", sig := { parameters := [(.array .char), .int, .int], returnType := some .int }, accessFlags := 10, code := some k1c5 }
def k1c6 : Code := { maxStack := 5, maxLocals := 16, code := code, exceptionTable := #[], attributes := #[] }
def k1m6 : Method := { name := "law", desc := "(IIIII)Z", sig := { parameters := [.int, .int, .int, .int, .int], returnType := some .boolean }, accessFlags := 9, code := some k1c6 }
/-- com/example/bounded_lock/boundedlock/LockNameOfPinLaw -/
def k1 : Class := { plain "com/example/bounded_lock/boundedlock/LockNameOfPinLaw" (some 0) with
  accessFlags := 49
  interfaces := #[]
  cf := some (fileOf pool1 13 #[] #[{ accessFlags := 1, nameIndex := 5, descriptorIndex := 6, attributes := #[] }, { accessFlags := 10, nameIndex := 23, descriptorIndex := 24, attributes := #[] }, { accessFlags := 10, nameIndex := 16, descriptorIndex := 17, attributes := #[] }, { accessFlags := 10, nameIndex := 20, descriptorIndex := 17, attributes := #[] }, { accessFlags := 10, nameIndex := 27, descriptorIndex := 28, attributes := #[] }, { accessFlags := 10, nameIndex := 31, descriptorIndex := 32, attributes := #[] }, { accessFlags := 9, nameIndex := 60, descriptorIndex := 61, attributes := #[] }] 49 2 #[] #[])
  fields := #[]
  methods := #[k1m0, k1m1, k1m2, k1m3, k1m4, k1m5, k1m6]
  instanceTypes := #[]
  staticTypes := #[]
  resolved := Array.replicate 66 none
  statics := none }

def pool2 : Array CpInfo := pool [(1, .class_ 2), (0, u "java/io/Serializable"), (0, .class_ 4), (0, u "java/lang/Object")] 2

/-- java/io/Serializable -/
def k2 : Class := { plain "java/io/Serializable" (some 0) with
  accessFlags := 1537
  interfaces := #[]
  cf := some (fileOf pool2 1 #[] #[] 1537 3 #[] #[])
  fields := #[]
  methods := #[]
  instanceTypes := #[]
  staticTypes := #[]
  resolved := Array.replicate 7 none
  statics := none }

def pool3 : Array CpInfo := pool [(1, .class_ 2), (0, u "java/lang/Comparable"), (0, .class_ 4), (0, u "java/lang/Object")] 7

/-- java/lang/Comparable -/
def k3 : Class := { plain "java/lang/Comparable" (some 0) with
  accessFlags := 1537
  interfaces := #[]
  cf := some (fileOf pool3 1 #[] #[] 1537 3 #[] #[])
  fields := #[]
  methods := #[]
  instanceTypes := #[]
  staticTypes := #[]
  resolved := Array.replicate 12 none
  statics := none }

def pool4 : Array CpInfo := pool [(2, .class_ 4), (1, u "java/lang/CharSequence"), (42, .class_ 48), (0, u "java/lang/CharSequence$1CodePointIterator"), (10, .class_ 60), (0, u "java/lang/CharSequence$1CharIterator"), (5, .class_ 67), (0, u "java/lang/Object")] 63

/-- java/lang/CharSequence -/
def k4 : Class := { plain "java/lang/CharSequence" (some 0) with
  accessFlags := 1537
  interfaces := #[]
  cf := some (fileOf pool4 2 #[.nestMembers #[47, 59]] #[] 1537 66 #[] #[])
  fields := #[]
  methods := #[]
  instanceTypes := #[]
  staticTypes := #[]
  resolved := Array.replicate 131 none
  statics := none }

def pool5 : Array CpInfo := pool [(1, .class_ 2), (0, u "java/lang/constant/Constable"), (0, .class_ 4), (0, u "java/lang/Object")] 6

/-- java/lang/constant/Constable -/
def k5 : Class := { plain "java/lang/constant/Constable" (some 0) with
  accessFlags := 1537
  interfaces := #[]
  cf := some (fileOf pool5 1 #[] #[] 1537 3 #[] #[])
  fields := #[]
  methods := #[]
  instanceTypes := #[]
  staticTypes := #[]
  resolved := Array.replicate 11 none
  statics := none }

def pool6 : Array CpInfo := pool [(1, .class_ 2), (0, u "java/lang/constant/ConstantDesc"), (0, .class_ 4), (0, u "java/lang/Object")] 32

/-- java/lang/constant/ConstantDesc -/
def k6 : Class := { plain "java/lang/constant/ConstantDesc" (some 0) with
  accessFlags := 1537
  interfaces := #[]
  cf := some (fileOf pool6 1 #[] #[] 1537 3 #[] #[])
  fields := #[]
  methods := #[]
  instanceTypes := #[]
  staticTypes := #[]
  resolved := Array.replicate 37 none
  statics := none }

def pool7 : Array CpInfo := pool [(1, .methodref 2 3), (0, .class_ 4), (0, .nameAndType 5 6), (0, u "java/lang/Object"), (0, u "<init>"), (0, u "()V"), (2, .fieldref 10 11), (0, .class_ 12), (0, .nameAndType 13 14), (0, u "java/lang/String"), (0, u "value"), (0, u "[B"), (0, .fieldref 10 16), (0, .nameAndType 17 18), (0, u "coder"), (0, u "B"), (2, u "hash"), (0, u "I"), (2, u "hashIsZero"), (0, u "Z"), (0, .methodref 10 28), (0, .nameAndType 5 29), (0, u "([CIILjava/lang/Void;)V"), (7, u "(III)I"), (0, .fieldref 10 39), (0, .nameAndType 40 26), (0, u "COMPACT_STRINGS"), (1, .class_ 44), (1, u "java/lang/StringUTF16"), (0, u "compress"), (1, .methodref 42 48), (0, .nameAndType 49 50), (0, u "coderFromArrayLen"), (0, u "([BI)B"), (28, .class_ 81), (1, u "java/util/Objects"), (15, u "([BII)I"), (9, .class_ 109), (1, u "java/lang/StringLatin1"), (32, u "()Z"), (34, .methodref 42 178), (0, .nameAndType 45 179), (0, u "([CII)[B"), (154, u "()I"), (0, .methodref 10 336), (0, .nameAndType 17 337), (0, u "()B"), (53, u "(II)V"), (100, .methodref 10 493), (0, .nameAndType 494 142), (0, u "isLatin1"), (4, .methodref 10 500), (0, .nameAndType 501 391), (0, u "checkIndex"), (0, .methodref 42 503), (0, .nameAndType 504 97), (0, u "codePointAt"), (0, .methodref 10 506), (0, .nameAndType 507 334), (0, u "length"), (3, .methodref 79 512), (0, .nameAndType 513 37), (0, u "checkFromToIndex"), (0, .methodref 42 515), (0, .nameAndType 516 97), (0, u "codePointCount"), (24, .methodref 107 542), (0, .nameAndType 543 544), (0, u "equals"), (0, u "([B[B)Z"), (28, u "(Ljava/lang/Object;)Z"), (1, .class_ 576), (0, u "java/lang/CharSequence"), (22, u "CASE_INSENSITIVE_ORDER"), (0, u "Ljava/util/Comparator;"), (35, u "(II)I"), (128, u "(I)I"), (244, u "([C)V"), (42, .fieldref 1054 1055), (0, .class_ 1056), (0, .nameAndType 1057 1058), (0, u "jdk/internal/util/Preconditions"), (0, u "SIOOBE_FORMATTER"), (0, u "Ljava/util/function/BiFunction;"), (0, .methodref 1054 1060), (0, .nameAndType 501 1061), (0, u "(IILjava/util/function/BiFunction;)I"), (39, u "serialPersistentFields"), (0, u "[Ljava/io/ObjectStreamField;"), (0, .class_ 1104), (0, u "java/lang/String$CaseInsensitiveComparator"), (1, .class_ 1107), (0, u "java/io/Serializable"), (0, .class_ 1109), (0, u "java/lang/Comparable"), (0, .class_ 1111), (0, u "java/lang/constant/Constable"), (0, .class_ 1113), (0, u "java/lang/constant/ConstantDesc"), (2, u "serialVersionUID"), (0, u "J"), (3, u "REPL"), (0, u "C"), (2, u "LATIN1"), (1, u "UTF16")] 323

def k7m0 : Method := { name := "<init>", desc := "()V", sig := { parameters := [], returnType := none }, accessFlags := 1, code := none }
def k7c1 : Code := { maxStack := 5, maxLocals := 2, code := jdk_42_method_3_code, exceptionTable := #[], attributes := #[] }
def k7m1 : Method := { name := "<init>", desc := "([C)V", sig := { parameters := [(.array .char)], returnType := none }, accessFlags := 1, code := some k7c1 }
def k7c2 : Code := { maxStack := 2, maxLocals := 1, code := jdk_42_method_54_code, exceptionTable := #[], attributes := #[] }
def k7m2 : Method := { name := "length", desc := "()I", sig := { parameters := [], returnType := some .int }, accessFlags := 1, code := some k7c2 }
def k7c3 : Code := { maxStack := 3, maxLocals := 3, code := jdk_42_method_57_code, exceptionTable := #[], attributes := #[] }
def k7m3 : Method := { name := "codePointAt", desc := "(I)I", sig := { parameters := [.int], returnType := some .int }, accessFlags := 1, code := some k7c3 }
def k7c4 : Code := { maxStack := 3, maxLocals := 3, code := jdk_42_method_59_code, exceptionTable := #[], attributes := #[] }
def k7m4 : Method := { name := "codePointCount", desc := "(II)I", sig := { parameters := [.int, .int], returnType := some .int }, accessFlags := 1, code := some k7c4 }
def k7c5 : Code := { maxStack := 2, maxLocals := 3, code := jdk_42_method_66_code, exceptionTable := #[], attributes := #[] }
def k7m5 : Method := { name := "equals", desc := "(Ljava/lang/Object;)Z", sig := { parameters := [(.object "java/lang/Object")], returnType := some .boolean }, accessFlags := 1, code := some k7c5 }
def k7c6 : Code := { maxStack := 4, maxLocals := 6, code := jdk_42_method_149_code, exceptionTable := #[], attributes := #[] }
def k7m6 : Method := { name := "<init>", desc := "([CIILjava/lang/Void;)V", sig := { parameters := [(.array .char), .int, .int, (.object "java/lang/Void")], returnType := none }, accessFlags := 2, code := some k7c6 }
def k7c7 : Code := { maxStack := 1, maxLocals := 1, code := jdk_42_method_152_code, exceptionTable := #[], attributes := #[] }
def k7m7 : Method := { name := "coder", desc := "()B", sig := { parameters := [], returnType := some .byte }, accessFlags := 0, code := some k7c7 }
def k7c8 : Code := { maxStack := 1, maxLocals := 1, code := jdk_42_method_154_code, exceptionTable := #[], attributes := #[] }
def k7m8 : Method := { name := "isLatin1", desc := "()Z", sig := { parameters := [], returnType := some .boolean }, accessFlags := 0, code := some k7c8 }
def k7c9 : Code := { maxStack := 3, maxLocals := 2, code := jdk_42_method_155_code, exceptionTable := #[], attributes := #[] }
def k7m9 : Method := { name := "checkIndex", desc := "(II)V", sig := { parameters := [.int, .int], returnType := none }, accessFlags := 8, code := some k7c9 }
/-- java/lang/String -/
def k7 : Class := { plain "java/lang/String" (some 0) with
  accessFlags := 49
  interfaces := #[2, 3, 4, 5, 6]
  cf := some (fileOf pool7 10 #[.nestMembers #[1103]] #[{ accessFlags := 1, nameIndex := 5, descriptorIndex := 6, attributes := #[] }, { accessFlags := 1, nameIndex := 5, descriptorIndex := 1010, attributes := #[] }, { accessFlags := 1, nameIndex := 507, descriptorIndex := 334, attributes := #[] }, { accessFlags := 1, nameIndex := 504, descriptorIndex := 765, attributes := #[] }, { accessFlags := 1, nameIndex := 516, descriptorIndex := 636, attributes := #[] }, { accessFlags := 1, nameIndex := 543, descriptorIndex := 573, attributes := #[] }, { accessFlags := 2, nameIndex := 5, descriptorIndex := 29, attributes := #[] }, { accessFlags := 0, nameIndex := 17, descriptorIndex := 337, attributes := #[] }, { accessFlags := 0, nameIndex := 494, descriptorIndex := 142, attributes := #[] }, { accessFlags := 8, nameIndex := 501, descriptorIndex := 391, attributes := #[] }] 49 2 #[1106, 1108, 575, 1110, 1112] #[{ accessFlags := 18, nameIndex := 13, descriptorIndex := 14, attributes := #[] }, { accessFlags := 18, nameIndex := 17, descriptorIndex := 18, attributes := #[] }, { accessFlags := 2, nameIndex := 21, descriptorIndex := 22, attributes := #[] }, { accessFlags := 2, nameIndex := 25, descriptorIndex := 26, attributes := #[] }, { accessFlags := 26, nameIndex := 1116, descriptorIndex := 1117, attributes := #[] }, { accessFlags := 24, nameIndex := 40, descriptorIndex := 26, attributes := #[] }, { accessFlags := 26, nameIndex := 1101, descriptorIndex := 1102, attributes := #[] }, { accessFlags := 26, nameIndex := 1121, descriptorIndex := 1122, attributes := #[] }, { accessFlags := 25, nameIndex := 599, descriptorIndex := 600, attributes := #[] }, { accessFlags := 24, nameIndex := 1125, descriptorIndex := 18, attributes := #[] }, { accessFlags := 24, nameIndex := 1127, descriptorIndex := 18, attributes := #[] }])
  fields := #[{ name := "value", type := (.array .byte), accessFlags := 18, slot := 0, constantValue := 0 }, { name := "coder", type := .byte, accessFlags := 18, slot := 1, constantValue := 0 }, { name := "hash", type := .int, accessFlags := 2, slot := 2, constantValue := 0 }, { name := "hashIsZero", type := .boolean, accessFlags := 2, slot := 3, constantValue := 0 }, { name := "serialVersionUID", type := .long, accessFlags := 26, slot := 0, constantValue := 0 }, { name := "COMPACT_STRINGS", type := .boolean, accessFlags := 24, slot := 1, constantValue := 0 }, { name := "serialPersistentFields", type := (.array (.object "java/io/ObjectStreamField")), accessFlags := 26, slot := 2, constantValue := 0 }, { name := "REPL", type := .char, accessFlags := 26, slot := 3, constantValue := 0 }, { name := "CASE_INSENSITIVE_ORDER", type := (.object "java/util/Comparator"), accessFlags := 25, slot := 4, constantValue := 0 }, { name := "LATIN1", type := .byte, accessFlags := 24, slot := 5, constantValue := 0 }, { name := "UTF16", type := .byte, accessFlags := 24, slot := 6, constantValue := 0 }]
  methods := #[k7m0, k7m1, k7m2, k7m3, k7m4, k7m5, k7m6, k7m7, k7m8, k7m9]
  instanceTypes := #[(.array .byte), .byte, .int, .boolean]
  staticTypes := #[.long, .boolean, (.array (.object "java/io/ObjectStreamField")), .char, (.object "java/util/Comparator"), .byte, .byte]
  resolved := Array.replicate 1451 none
  statics := some 0 }

def pool8 : Array CpInfo := pool [(6, .class_ 8), (1, u "java/lang/Object"), (0, u "<init>"), (0, u "()V"), (0, .methodref 12 13), (0, .class_ 14), (0, .nameAndType 15 16), (0, u "java/lang/StringUTF16"), (0, u "newBytesLength"), (0, u "(I)I"), (3, .integer 1073741823), (23, .fieldref 12 45), (0, .nameAndType 46 47), (0, u "$assertionsDisabled"), (0, u "Z"), (11, .fieldref 12 60), (0, .nameAndType 61 62), (0, u "HI_BYTE_SHIFT"), (0, u "I"), (0, .fieldref 12 64), (0, .nameAndType 65 62), (0, u "LO_BYTE_SHIFT"), (5, .methodref 12 72), (0, .nameAndType 73 74), (0, u "getChar"), (0, u "([BI)C"), (0, .methodref 76 77), (0, .class_ 78), (0, .nameAndType 79 80), (0, u "java/lang/Character"), (0, u "isHighSurrogate"), (0, u "(C)Z"), (0, .methodref 76 82), (0, .nameAndType 83 80), (0, u "isLowSurrogate"), (0, .methodref 76 85), (0, .nameAndType 86 87), (0, u "toCodePoint"), (0, u "(CC)I"), (0, .methodref 12 89), (0, .nameAndType 90 91), (0, u "codePointAt"), (0, u "([BIIZ)I"), (8, .methodref 12 101), (0, .nameAndType 102 91), (0, u "codePointCount"), (4, .methodref 12 108), (0, .nameAndType 109 110), (0, u "newBytesFor"), (0, u "(I)[B"), (0, .methodref 12 112), (0, .nameAndType 113 114), (0, u "putChar"), (0, u "([BII)V"), (0, .methodref 12 116), (0, .nameAndType 117 118), (0, u "compress"), (0, u "([CI[BII)I"), (0, .methodref 12 120), (0, .nameAndType 121 122), (0, u "toBytes"), (0, u "([CII)[B"), (127, u "([BII)I"), (10, u "coderFromArrayLen"), (0, u "([BI)B"), (106, .class_ 371), (1, u "java/lang/StringUTF16$LinesSpliterator"), (58, u "MAX_LENGTH"), (196, .class_ 628), (0, u "java/lang/StringUTF16$CodePointsSpliterator"), (0, .class_ 630), (0, u "java/lang/StringUTF16$CharsSpliterator")] 4

def k8m0 : Method := { name := "<init>", desc := "()V", sig := { parameters := [], returnType := none }, accessFlags := 0, code := none }
def k8c1 : Code := { maxStack := 1, maxLocals := 1, code := jdk_52_method_2_code, exceptionTable := #[], attributes := #[] }
def k8m1 : Method := { name := "newBytesFor", desc := "(I)[B", sig := { parameters := [.int], returnType := some (.array .byte) }, accessFlags := 9, code := some k8c1 }
def k8c2 : Code := { maxStack := 4, maxLocals := 1, code := jdk_52_method_3_code, exceptionTable := #[], attributes := #[] }
def k8m2 : Method := { name := "newBytesLength", desc := "(I)I", sig := { parameters := [.int], returnType := some .int }, accessFlags := 9, code := some k8c2 }
def k8c3 : Code := { maxStack := 4, maxLocals := 3, code := jdk_52_method_4_code, exceptionTable := #[], attributes := #[] }
def k8m3 : Method := { name := "putChar", desc := "([BII)V", sig := { parameters := [(.array .byte), .int, .int], returnType := none }, accessFlags := 8, code := some k8c3 }
def k8c4 : Code := { maxStack := 3, maxLocals := 2, code := jdk_52_method_5_code, exceptionTable := #[], attributes := #[] }
def k8m4 : Method := { name := "getChar", desc := "([BI)C", sig := { parameters := [(.array .byte), .int], returnType := some .char }, accessFlags := 8, code := some k8c4 }
def k8c5 : Code := { maxStack := 2, maxLocals := 6, code := jdk_52_method_7_code, exceptionTable := #[], attributes := #[] }
def k8m5 : Method := { name := "codePointAt", desc := "([BIIZ)I", sig := { parameters := [(.array .byte), .int, .int, .boolean], returnType := some .int }, accessFlags := 10, code := some k8c5 }
def k8c6 : Code := { maxStack := 4, maxLocals := 3, code := jdk_52_method_8_code, exceptionTable := #[], attributes := #[] }
def k8m6 : Method := { name := "codePointAt", desc := "([BII)I", sig := { parameters := [(.array .byte), .int, .int], returnType := some .int }, accessFlags := 9, code := some k8c6 }
def k8c7 : Code := { maxStack := 3, maxLocals := 6, code := jdk_52_method_11_code, exceptionTable := #[], attributes := #[] }
def k8m7 : Method := { name := "codePointCount", desc := "([BIIZ)I", sig := { parameters := [(.array .byte), .int, .int, .boolean], returnType := some .int }, accessFlags := 10, code := some k8c7 }
def k8c8 : Code := { maxStack := 4, maxLocals := 3, code := jdk_52_method_12_code, exceptionTable := #[], attributes := #[] }
def k8m8 : Method := { name := "codePointCount", desc := "([BII)I", sig := { parameters := [(.array .byte), .int, .int], returnType := some .int }, accessFlags := 9, code := some k8c8 }
def k8c9 : Code := { maxStack := 4, maxLocals := 5, code := jdk_52_method_14_code, exceptionTable := #[], attributes := #[] }
def k8m9 : Method := { name := "toBytes", desc := "([CII)[B", sig := { parameters := [(.array .char), .int, .int], returnType := some (.array .byte) }, accessFlags := 9, code := some k8c9 }
def k8c10 : Code := { maxStack := 2, maxLocals := 2, code := jdk_52_method_15_code, exceptionTable := #[], attributes := #[] }
def k8m10 : Method := { name := "coderFromArrayLen", desc := "([BI)B", sig := { parameters := [(.array .byte), .int], returnType := some .byte }, accessFlags := 8, code := some k8c10 }
def k8c11 : Code := { maxStack := 5, maxLocals := 6, code := jdk_52_method_16_code, exceptionTable := #[], attributes := #[] }
def k8m11 : Method := { name := "compress", desc := "([CII)[B", sig := { parameters := [(.array .char), .int, .int], returnType := some (.array .byte) }, accessFlags := 9, code := some k8c11 }
def k8c12 : Code := { maxStack := 3, maxLocals := 7, code := jdk_52_method_21_code, exceptionTable := #[], attributes := #[] }
def k8m12 : Method := { name := "compress", desc := "([CI[BII)I", sig := { parameters := [(.array .char), .int, (.array .byte), .int, .int], returnType := some .int }, accessFlags := 9, code := some k8c12 }
/-- java/lang/StringUTF16 -/
def k8 : Class := { plain "java/lang/StringUTF16" (some 0) with
  accessFlags := 48
  interfaces := #[]
  cf := some (fileOf pool8 12 #[.nestMembers #[627, 629, 369]] #[{ accessFlags := 0, nameIndex := 9, descriptorIndex := 10, attributes := #[] }, { accessFlags := 9, nameIndex := 109, descriptorIndex := 110, attributes := #[] }, { accessFlags := 9, nameIndex := 15, descriptorIndex := 16, attributes := #[] }, { accessFlags := 8, nameIndex := 113, descriptorIndex := 114, attributes := #[] }, { accessFlags := 8, nameIndex := 73, descriptorIndex := 74, attributes := #[] }, { accessFlags := 10, nameIndex := 90, descriptorIndex := 91, attributes := #[] }, { accessFlags := 9, nameIndex := 90, descriptorIndex := 250, attributes := #[] }, { accessFlags := 10, nameIndex := 102, descriptorIndex := 91, attributes := #[] }, { accessFlags := 9, nameIndex := 102, descriptorIndex := 250, attributes := #[] }, { accessFlags := 9, nameIndex := 121, descriptorIndex := 122, attributes := #[] }, { accessFlags := 8, nameIndex := 261, descriptorIndex := 262, attributes := #[] }, { accessFlags := 9, nameIndex := 117, descriptorIndex := 122, attributes := #[] }, { accessFlags := 9, nameIndex := 117, descriptorIndex := 118, attributes := #[] }] 48 6 #[] #[{ accessFlags := 26, nameIndex := 61, descriptorIndex := 62, attributes := #[] }, { accessFlags := 26, nameIndex := 65, descriptorIndex := 62, attributes := #[] }, { accessFlags := 24, nameIndex := 430, descriptorIndex := 62, attributes := #[] }, { accessFlags := 4120, nameIndex := 46, descriptorIndex := 47, attributes := #[] }])
  fields := #[{ name := "HI_BYTE_SHIFT", type := .int, accessFlags := 26, slot := 0, constantValue := 0 }, { name := "LO_BYTE_SHIFT", type := .int, accessFlags := 26, slot := 1, constantValue := 0 }, { name := "MAX_LENGTH", type := .int, accessFlags := 24, slot := 2, constantValue := 0 }, { name := "$assertionsDisabled", type := .boolean, accessFlags := 4120, slot := 3, constantValue := 0 }]
  methods := #[k8m0, k8m1, k8m2, k8m3, k8m4, k8m5, k8m6, k8m7, k8m8, k8m9, k8m10, k8m11, k8m12]
  instanceTypes := #[]
  staticTypes := #[.int, .int, .int, .boolean]
  resolved := Array.replicate 635 none
  statics := some 1 }

def pool9 : Array CpInfo := pool [(1, .methodref 2 3), (0, .class_ 4), (0, .nameAndType 5 6), (0, u "java/lang/Object"), (0, u "<init>"), (0, u "()V"), (0, .fieldref 8 9), (0, .class_ 10), (0, .nameAndType 11 12), (0, u "com/example/bounded_lock/boundedlock/LockName"), (0, u "value"), (0, u "Ljava/lang/String;"), (0, .string 14), (0, u "name"), (0, .methodref 16 17), (0, .class_ 18), (0, .nameAndType 19 20), (0, u "java/util/Objects"), (0, u "requireNonNull"), (0, u "(Ljava/lang/Object;Ljava/lang/String;)Ljava/lang/Object;"), (0, .methodref 22 23), (0, .class_ 24), (0, .nameAndType 25 26), (0, u "java/lang/String"), (0, u "length"), (0, u "()I"), (0, .methodref 22 28), (0, .nameAndType 29 30), (0, u "codePointCount"), (0, u "(II)I"), (7, .nameAndType 5 39), (0, u "(Ljava/lang/String;)V"), (0, .methodref 8 41), (0, .nameAndType 42 43), (0, u "indexOfUnpairedSurrogate"), (0, u "(Ljava/lang/String;)I"), (1, .methodref 8 38), (0, .methodref 22 47), (0, .nameAndType 48 49), (0, u "codePointAt"), (0, u "(I)I"), (0, .class_ 51), (0, u "java/lang/Character"), (0, .integer 55296), (0, .integer 57343), (0, .methodref 50 55), (0, .nameAndType 56 49), (0, u "charCount"), (0, .methodref 22 58), (0, .nameAndType 59 60), (0, u "equals"), (0, u "(Ljava/lang/Object;)Z"), (3, u "MAX_LENGTH"), (0, u "I"), (4, u "of"), (0, u "(Ljava/lang/String;)Lcom/example/bounded_lock/boundedlock/LockName;"), (1, u "()Ljava/lang/String;")] 20

def k9c0 : Code := { maxStack := 2, maxLocals := 2, code := prog_1_method_1_code, exceptionTable := #[], attributes := #[] }
def k9m0 : Method := { name := "<init>", desc := "(Ljava/lang/String;)V", sig := { parameters := [(.object "java/lang/String")], returnType := none }, accessFlags := 2, code := some k9c0 }
def k9c1 : Code := { maxStack := 3, maxLocals := 3, code := prog_1_method_2_code, exceptionTable := #[], attributes := #[] }
def k9m1 : Method := { name := "of", desc := "(Ljava/lang/String;)Lcom/example/bounded_lock/boundedlock/LockName;", sig := { parameters := [(.object "java/lang/String")], returnType := some (.object "com/example/bounded_lock/boundedlock/LockName") }, accessFlags := 9, code := some k9c1 }
def k9c2 : Code := { maxStack := 2, maxLocals := 3, code := prog_1_method_3_code, exceptionTable := #[], attributes := #[] }
def k9m2 : Method := { name := "indexOfUnpairedSurrogate", desc := "(Ljava/lang/String;)I", sig := { parameters := [(.object "java/lang/String")], returnType := some .int }, accessFlags := 10, code := some k9c2 }
def k9c3 : Code := { maxStack := 1, maxLocals := 1, code := prog_1_method_4_code, exceptionTable := #[], attributes := #[] }
def k9m3 : Method := { name := "value", desc := "()Ljava/lang/String;", sig := { parameters := [], returnType := some (.object "java/lang/String") }, accessFlags := 1, code := some k9c3 }
def k9c4 : Code := { maxStack := 2, maxLocals := 3, code := prog_1_method_5_code, exceptionTable := #[], attributes := #[] }
def k9m4 : Method := { name := "equals", desc := "(Ljava/lang/Object;)Z", sig := { parameters := [(.object "java/lang/Object")], returnType := some .boolean }, accessFlags := 1, code := some k9c4 }
/-- com/example/bounded_lock/boundedlock/LockName -/
def k9 : Class := { plain "com/example/bounded_lock/boundedlock/LockName" (some 0) with
  accessFlags := 33
  interfaces := #[]
  cf := some (fileOf pool9 8 #[] #[{ accessFlags := 2, nameIndex := 5, descriptorIndex := 39, attributes := #[] }, { accessFlags := 9, nameIndex := 70, descriptorIndex := 71, attributes := #[] }, { accessFlags := 10, nameIndex := 42, descriptorIndex := 43, attributes := #[] }, { accessFlags := 1, nameIndex := 11, descriptorIndex := 73, attributes := #[] }, { accessFlags := 1, nameIndex := 59, descriptorIndex := 60, attributes := #[] }] 33 2 #[] #[{ accessFlags := 25, nameIndex := 64, descriptorIndex := 65, attributes := #[] }, { accessFlags := 18, nameIndex := 11, descriptorIndex := 12, attributes := #[] }])
  fields := #[{ name := "MAX_LENGTH", type := .int, accessFlags := 25, slot := 0, constantValue := 0 }, { name := "value", type := (.object "java/lang/String"), accessFlags := 18, slot := 0, constantValue := 0 }]
  methods := #[k9m0, k9m1, k9m2, k9m3, k9m4]
  instanceTypes := #[(.object "java/lang/String")]
  staticTypes := #[.int]
  resolved := Array.replicate 94 none
  statics := none }

def pool10 : Array CpInfo := pool [(2, .class_ 4), (1, u "java/lang/Object"), (0, u "<init>"), (0, u "()V"), (35, .class_ 44), (1, u "java/util/Objects"), (0, u "requireNonNull"), (48, u "(Ljava/lang/Object;Ljava/lang/String;)Ljava/lang/Object;"), (11, .class_ 108), (1, u "jdk/internal/util/Preconditions"), (2, .methodref 106 112), (0, .nameAndType 113 114), (0, u "checkFromToIndex"), (0, u "(IIILjava/util/function/BiFunction;)I"), (60, u "(III)I")] 8

def k10m0 : Method := { name := "<init>", desc := "()V", sig := { parameters := [], returnType := none }, accessFlags := 2, code := none }
def k10c1 : Code := { maxStack := 3, maxLocals := 2, code := jdk_31_method_11_code, exceptionTable := #[], attributes := #[] }
def k10m1 : Method := { name := "requireNonNull", desc := "(Ljava/lang/Object;Ljava/lang/String;)Ljava/lang/Object;", sig := { parameters := [(.object "java/lang/Object"), (.object "java/lang/String")], returnType := some (.object "java/lang/Object") }, accessFlags := 9, code := some k10c1 }
def k10c2 : Code := { maxStack := 4, maxLocals := 3, code := jdk_31_method_18_code, exceptionTable := #[], attributes := #[] }
def k10m2 : Method := { name := "checkFromToIndex", desc := "(III)I", sig := { parameters := [.int, .int, .int], returnType := some .int }, accessFlags := 9, code := some k10c2 }
/-- java/util/Objects -/
def k10 : Class := { plain "java/util/Objects" (some 0) with
  accessFlags := 49
  interfaces := #[]
  cf := some (fileOf pool10 42 #[] #[{ accessFlags := 2, nameIndex := 5, descriptorIndex := 6, attributes := #[] }, { accessFlags := 9, nameIndex := 45, descriptorIndex := 94, attributes := #[] }, { accessFlags := 9, nameIndex := 113, descriptorIndex := 175, attributes := #[] }] 49 2 #[] #[])
  fields := #[]
  methods := #[k10m0, k10m1, k10m2]
  instanceTypes := #[]
  staticTypes := #[]
  resolved := Array.replicate 184 none
  statics := none }

def pool11 : Array CpInfo := pool [(2, .class_ 4), (1, u "java/lang/Object"), (0, u "<init>"), (0, u "()V"), (17, .class_ 26), (1, u "jdk/internal/util/Preconditions"), (6, u "checkIndex"), (13, u "checkFromToIndex"), (7, .class_ 56), (0, u "jdk/internal/util/Preconditions$4"), (57, .class_ 115), (0, u "jdk/internal/util/Preconditions$1"), (7, u "SIOOBE_FORMATTER"), (0, u "Ljava/util/function/BiFunction;"), (0, .class_ 126), (0, u "jdk/internal/util/Preconditions$2"), (3, u "AIOOBE_FORMATTER"), (0, .class_ 132), (0, u "jdk/internal/util/Preconditions$3"), (3, u "IOOBE_FORMATTER"), (41, u "(IILjava/util/function/BiFunction;)I"), (4, u "(IIILjava/util/function/BiFunction;)I")] 10

def k11m0 : Method := { name := "<init>", desc := "()V", sig := { parameters := [], returnType := none }, accessFlags := 1, code := none }
def k11c1 : Code := { maxStack := 3, maxLocals := 3, code := jdk_41_method_11_code, exceptionTable := #[], attributes := #[] }
def k11m1 : Method := { name := "checkIndex", desc := "(IILjava/util/function/BiFunction;)I", sig := { parameters := [.int, .int, (.object "java/util/function/BiFunction")], returnType := some .int }, accessFlags := 9, code := some k11c1 }
def k11c2 : Code := { maxStack := 4, maxLocals := 4, code := jdk_41_method_12_code, exceptionTable := #[], attributes := #[] }
def k11m2 : Method := { name := "checkFromToIndex", desc := "(IIILjava/util/function/BiFunction;)I", sig := { parameters := [.int, .int, .int, (.object "java/util/function/BiFunction")], returnType := some .int }, accessFlags := 9, code := some k11c2 }
/-- jdk/internal/util/Preconditions -/
def k11 : Class := { plain "jdk/internal/util/Preconditions" (some 0) with
  accessFlags := 33
  interfaces := #[]
  cf := some (fileOf pool11 24 #[.nestMembers #[55, 131, 125, 114]] #[{ accessFlags := 1, nameIndex := 5, descriptorIndex := 6, attributes := #[] }, { accessFlags := 9, nameIndex := 33, descriptorIndex := 178, attributes := #[] }, { accessFlags := 9, nameIndex := 47, descriptorIndex := 183, attributes := #[] }] 33 2 #[] #[{ accessFlags := 25, nameIndex := 123, descriptorIndex := 124, attributes := #[] }, { accessFlags := 25, nameIndex := 130, descriptorIndex := 124, attributes := #[] }, { accessFlags := 25, nameIndex := 136, descriptorIndex := 124, attributes := #[] }])
  fields := #[{ name := "SIOOBE_FORMATTER", type := (.object "java/util/function/BiFunction"), accessFlags := 25, slot := 0, constantValue := 0 }, { name := "AIOOBE_FORMATTER", type := (.object "java/util/function/BiFunction"), accessFlags := 25, slot := 1, constantValue := 0 }, { name := "IOOBE_FORMATTER", type := (.object "java/util/function/BiFunction"), accessFlags := 25, slot := 2, constantValue := 0 }]
  methods := #[k11m0, k11m1, k11m2]
  instanceTypes := #[]
  staticTypes := #[(.object "java/util/function/BiFunction"), (.object "java/util/function/BiFunction"), (.object "java/util/function/BiFunction")]
  resolved := Array.replicate 194 none
  statics := some 2 }

def pool12 : Array CpInfo := pool [(1, .class_ 2), (0, u "java/lang/Character"), (18, u "value"), (0, u "C"), (19, .class_ 44), (1, u "java/lang/Object"), (3, .class_ 50), (1, u "java/lang/Character$CharacterCache"), (22, .integer 65536), (1, .integer 55296), (0, .integer 56320), (0, .integer 57344), (2, u "isHighSurrogate"), (0, u "(C)Z"), (2, u "isLowSurrogate"), (0, .integer 4238353408), (12, u "toCodePoint"), (0, u "(CC)I"), (74, u "(I)I"), (109, u "$assertionsDisabled"), (0, u "Z"), (21, .class_ 309), (1, u "java/lang/Character$UnicodeBlock"), (73, u "TYPE"), (0, u "Ljava/lang/Class;"), (0, .class_ 386), (0, u "java/io/Serializable"), (0, .class_ 388), (0, u "java/lang/Comparable"), (0, .class_ 390), (0, u "java/lang/constant/Constable"), (0, u "MIN_RADIX"), (0, u "I"), (2, u "MAX_RADIX"), (1, u "MIN_VALUE"), (1, u "MAX_VALUE"), (3, u "UNASSIGNED"), (0, u "B"), (0, u "UPPERCASE_LETTER"), (1, u "LOWERCASE_LETTER"), (0, u "TITLECASE_LETTER"), (1, u "MODIFIER_LETTER"), (1, u "OTHER_LETTER"), (1, u "NON_SPACING_MARK"), (1, u "ENCLOSING_MARK"), (1, u "COMBINING_SPACING_MARK"), (1, u "DECIMAL_DIGIT_NUMBER"), (1, u "LETTER_NUMBER"), (1, u "OTHER_NUMBER"), (1, u "SPACE_SEPARATOR"), (1, u "LINE_SEPARATOR"), (1, u "PARAGRAPH_SEPARATOR"), (1, u "CONTROL"), (1, u "FORMAT"), (1, u "PRIVATE_USE"), (1, u "SURROGATE"), (1, u "DASH_PUNCTUATION"), (1, u "START_PUNCTUATION"), (1, u "END_PUNCTUATION"), (1, u "CONNECTOR_PUNCTUATION"), (1, u "OTHER_PUNCTUATION"), (1, u "MATH_SYMBOL"), (1, u "CURRENCY_SYMBOL"), (1, u "MODIFIER_SYMBOL"), (1, u "OTHER_SYMBOL"), (1, u "INITIAL_QUOTE_PUNCTUATION"), (1, u "FINAL_QUOTE_PUNCTUATION"), (1, u "ERROR"), (1, u "DIRECTIONALITY_UNDEFINED"), (0, u "DIRECTIONALITY_LEFT_TO_RIGHT"), (0, u "DIRECTIONALITY_RIGHT_TO_LEFT"), (0, u "DIRECTIONALITY_RIGHT_TO_LEFT_ARABIC"), (0, u "DIRECTIONALITY_EUROPEAN_NUMBER"), (0, u "DIRECTIONALITY_EUROPEAN_NUMBER_SEPARATOR"), (0, u "DIRECTIONALITY_EUROPEAN_NUMBER_TERMINATOR"), (0, u "DIRECTIONALITY_ARABIC_NUMBER"), (0, u "DIRECTIONALITY_COMMON_NUMBER_SEPARATOR"), (0, u "DIRECTIONALITY_NONSPACING_MARK"), (0, u "DIRECTIONALITY_BOUNDARY_NEUTRAL"), (0, u "DIRECTIONALITY_PARAGRAPH_SEPARATOR"), (0, u "DIRECTIONALITY_SEGMENT_SEPARATOR"), (0, u "DIRECTIONALITY_WHITESPACE"), (0, u "DIRECTIONALITY_OTHER_NEUTRALS"), (0, u "DIRECTIONALITY_LEFT_TO_RIGHT_EMBEDDING"), (0, u "DIRECTIONALITY_LEFT_TO_RIGHT_OVERRIDE"), (0, u "DIRECTIONALITY_RIGHT_TO_LEFT_EMBEDDING"), (0, u "DIRECTIONALITY_RIGHT_TO_LEFT_OVERRIDE"), (1, u "DIRECTIONALITY_POP_DIRECTIONAL_FORMAT"), (0, u "DIRECTIONALITY_LEFT_TO_RIGHT_ISOLATE"), (0, u "DIRECTIONALITY_RIGHT_TO_LEFT_ISOLATE"), (0, u "DIRECTIONALITY_FIRST_STRONG_ISOLATE"), (0, u "DIRECTIONALITY_POP_DIRECTIONAL_ISOLATE"), (0, u "MIN_HIGH_SURROGATE"), (0, u "MAX_HIGH_SURROGATE"), (1, u "MIN_LOW_SURROGATE"), (0, u "MAX_LOW_SURROGATE"), (1, u "MIN_SURROGATE"), (0, u "MAX_SURROGATE"), (0, u "MIN_SUPPLEMENTARY_CODE_POINT"), (0, u "MIN_CODE_POINT"), (0, u "MAX_CODE_POINT"), (1, u "serialVersionUID"), (0, u "J"), (2, u "SIZE"), (0, u "BYTES"), (29, u "charCount"), (58, .class_ 596), (0, u "java/lang/Character$UnicodeScript"), (0, .class_ 598), (0, u "java/lang/Character$Subset")] 5

def k12c0 : Code := { maxStack := 2, maxLocals := 1, code := jdk_89_method_14_code, exceptionTable := #[], attributes := #[] }
def k12m0 : Method := { name := "isHighSurrogate", desc := "(C)Z", sig := { parameters := [.char], returnType := some .boolean }, accessFlags := 9, code := some k12c0 }
def k12c1 : Code := { maxStack := 2, maxLocals := 1, code := jdk_89_method_15_code, exceptionTable := #[], attributes := #[] }
def k12m1 : Method := { name := "isLowSurrogate", desc := "(C)Z", sig := { parameters := [.char], returnType := some .boolean }, accessFlags := 9, code := some k12c1 }
def k12c2 : Code := { maxStack := 2, maxLocals := 1, code := jdk_89_method_18_code, exceptionTable := #[], attributes := #[] }
def k12m2 : Method := { name := "charCount", desc := "(I)I", sig := { parameters := [.int], returnType := some .int }, accessFlags := 9, code := some k12c2 }
def k12c3 : Code := { maxStack := 2, maxLocals := 2, code := jdk_89_method_19_code, exceptionTable := #[], attributes := #[] }
def k12m3 : Method := { name := "toCodePoint", desc := "(CC)I", sig := { parameters := [.char, .char], returnType := some .int }, accessFlags := 9, code := some k12c3 }
/-- java/lang/Character -/
def k12 : Class := { plain "java/lang/Character" (some 0) with
  accessFlags := 49
  interfaces := #[2, 3, 5]
  cf := some (fileOf pool12 1 #[.nestMembers #[48, 595, 307, 597]] #[{ accessFlags := 9, nameIndex := 80, descriptorIndex := 81, attributes := #[] }, { accessFlags := 9, nameIndex := 84, descriptorIndex := 81, attributes := #[] }, { accessFlags := 9, nameIndex := 536, descriptorIndex := 174, attributes := #[] }, { accessFlags := 9, nameIndex := 98, descriptorIndex := 99, attributes := #[] }] 49 42 #[385, 387, 389] #[{ accessFlags := 25, nameIndex := 391, descriptorIndex := 392, attributes := #[] }, { accessFlags := 25, nameIndex := 395, descriptorIndex := 392, attributes := #[] }, { accessFlags := 25, nameIndex := 397, descriptorIndex := 22, attributes := #[] }, { accessFlags := 25, nameIndex := 399, descriptorIndex := 22, attributes := #[] }, { accessFlags := 25, nameIndex := 383, descriptorIndex := 384, attributes := #[] }, { accessFlags := 25, nameIndex := 403, descriptorIndex := 404, attributes := #[] }, { accessFlags := 25, nameIndex := 405, descriptorIndex := 404, attributes := #[] }, { accessFlags := 25, nameIndex := 407, descriptorIndex := 404, attributes := #[] }, { accessFlags := 25, nameIndex := 408, descriptorIndex := 404, attributes := #[] }, { accessFlags := 25, nameIndex := 410, descriptorIndex := 404, attributes := #[] }, { accessFlags := 25, nameIndex := 412, descriptorIndex := 404, attributes := #[] }, { accessFlags := 25, nameIndex := 414, descriptorIndex := 404, attributes := #[] }, { accessFlags := 25, nameIndex := 416, descriptorIndex := 404, attributes := #[] }, { accessFlags := 25, nameIndex := 418, descriptorIndex := 404, attributes := #[] }, { accessFlags := 25, nameIndex := 420, descriptorIndex := 404, attributes := #[] }, { accessFlags := 25, nameIndex := 422, descriptorIndex := 404, attributes := #[] }, { accessFlags := 25, nameIndex := 424, descriptorIndex := 404, attributes := #[] }, { accessFlags := 25, nameIndex := 426, descriptorIndex := 404, attributes := #[] }, { accessFlags := 25, nameIndex := 428, descriptorIndex := 404, attributes := #[] }, { accessFlags := 25, nameIndex := 430, descriptorIndex := 404, attributes := #[] }, { accessFlags := 25, nameIndex := 432, descriptorIndex := 404, attributes := #[] }, { accessFlags := 25, nameIndex := 434, descriptorIndex := 404, attributes := #[] }, { accessFlags := 25, nameIndex := 436, descriptorIndex := 404, attributes := #[] }, { accessFlags := 25, nameIndex := 438, descriptorIndex := 404, attributes := #[] }, { accessFlags := 25, nameIndex := 440, descriptorIndex := 404, attributes := #[] }, { accessFlags := 25, nameIndex := 442, descriptorIndex := 404, attributes := #[] }, { accessFlags := 25, nameIndex := 444, descriptorIndex := 404, attributes := #[] }, { accessFlags := 25, nameIndex := 446, descriptorIndex := 404, attributes := #[] }, { accessFlags := 25, nameIndex := 448, descriptorIndex := 404, attributes := #[] }, { accessFlags := 25, nameIndex := 450, descriptorIndex := 404, attributes := #[] }, { accessFlags := 25, nameIndex := 452, descriptorIndex := 404, attributes := #[] }, { accessFlags := 25, nameIndex := 454, descriptorIndex := 404, attributes := #[] }, { accessFlags := 25, nameIndex := 456, descriptorIndex := 404, attributes := #[] }, { accessFlags := 25, nameIndex := 458, descriptorIndex := 404, attributes := #[] }, { accessFlags := 25, nameIndex := 460, descriptorIndex := 404, attributes := #[] }, { accessFlags := 24, nameIndex := 462, descriptorIndex := 392, attributes := #[] }, { accessFlags := 25, nameIndex := 464, descriptorIndex := 404, attributes := #[] }, { accessFlags := 25, nameIndex := 465, descriptorIndex := 404, attributes := #[] }, { accessFlags := 25, nameIndex := 466, descriptorIndex := 404, attributes := #[] }, { accessFlags := 25, nameIndex := 467, descriptorIndex := 404, attributes := #[] }, { accessFlags := 25, nameIndex := 468, descriptorIndex := 404, attributes := #[] }, { accessFlags := 25, nameIndex := 469, descriptorIndex := 404, attributes := #[] }, { accessFlags := 25, nameIndex := 470, descriptorIndex := 404, attributes := #[] }, { accessFlags := 25, nameIndex := 471, descriptorIndex := 404, attributes := #[] }, { accessFlags := 25, nameIndex := 472, descriptorIndex := 404, attributes := #[] }, { accessFlags := 25, nameIndex := 473, descriptorIndex := 404, attributes := #[] }, { accessFlags := 25, nameIndex := 474, descriptorIndex := 404, attributes := #[] }, { accessFlags := 25, nameIndex := 475, descriptorIndex := 404, attributes := #[] }, { accessFlags := 25, nameIndex := 476, descriptorIndex := 404, attributes := #[] }, { accessFlags := 25, nameIndex := 477, descriptorIndex := 404, attributes := #[] }, { accessFlags := 25, nameIndex := 478, descriptorIndex := 404, attributes := #[] }, { accessFlags := 25, nameIndex := 479, descriptorIndex := 404, attributes := #[] }, { accessFlags := 25, nameIndex := 480, descriptorIndex := 404, attributes := #[] }, { accessFlags := 25, nameIndex := 481, descriptorIndex := 404, attributes := #[] }, { accessFlags := 25, nameIndex := 482, descriptorIndex := 404, attributes := #[] }, { accessFlags := 25, nameIndex := 484, descriptorIndex := 404, attributes := #[] }, { accessFlags := 25, nameIndex := 485, descriptorIndex := 404, attributes := #[] }, { accessFlags := 25, nameIndex := 486, descriptorIndex := 404, attributes := #[] }, { accessFlags := 25, nameIndex := 487, descriptorIndex := 404, attributes := #[] }, { accessFlags := 25, nameIndex := 488, descriptorIndex := 404, attributes := #[] }, { accessFlags := 25, nameIndex := 489, descriptorIndex := 22, attributes := #[] }, { accessFlags := 25, nameIndex := 490, descriptorIndex := 22, attributes := #[] }, { accessFlags := 25, nameIndex := 492, descriptorIndex := 22, attributes := #[] }, { accessFlags := 25, nameIndex := 493, descriptorIndex := 22, attributes := #[] }, { accessFlags := 25, nameIndex := 495, descriptorIndex := 22, attributes := #[] }, { accessFlags := 25, nameIndex := 496, descriptorIndex := 22, attributes := #[] }, { accessFlags := 25, nameIndex := 497, descriptorIndex := 392, attributes := #[] }, { accessFlags := 25, nameIndex := 498, descriptorIndex := 392, attributes := #[] }, { accessFlags := 25, nameIndex := 499, descriptorIndex := 392, attributes := #[] }, { accessFlags := 18, nameIndex := 21, descriptorIndex := 22, attributes := #[] }, { accessFlags := 26, nameIndex := 501, descriptorIndex := 502, attributes := #[] }, { accessFlags := 25, nameIndex := 505, descriptorIndex := 392, attributes := #[] }, { accessFlags := 25, nameIndex := 506, descriptorIndex := 392, attributes := #[] }, { accessFlags := 4120, nameIndex := 284, descriptorIndex := 285, attributes := #[] }])
  fields := #[{ name := "MIN_RADIX", type := .int, accessFlags := 25, slot := 0, constantValue := 0 }, { name := "MAX_RADIX", type := .int, accessFlags := 25, slot := 1, constantValue := 0 }, { name := "MIN_VALUE", type := .char, accessFlags := 25, slot := 2, constantValue := 0 }, { name := "MAX_VALUE", type := .char, accessFlags := 25, slot := 3, constantValue := 0 }, { name := "TYPE", type := (.object "java/lang/Class"), accessFlags := 25, slot := 4, constantValue := 0 }, { name := "UNASSIGNED", type := .byte, accessFlags := 25, slot := 5, constantValue := 0 }, { name := "UPPERCASE_LETTER", type := .byte, accessFlags := 25, slot := 6, constantValue := 0 }, { name := "LOWERCASE_LETTER", type := .byte, accessFlags := 25, slot := 7, constantValue := 0 }, { name := "TITLECASE_LETTER", type := .byte, accessFlags := 25, slot := 8, constantValue := 0 }, { name := "MODIFIER_LETTER", type := .byte, accessFlags := 25, slot := 9, constantValue := 0 }, { name := "OTHER_LETTER", type := .byte, accessFlags := 25, slot := 10, constantValue := 0 }, { name := "NON_SPACING_MARK", type := .byte, accessFlags := 25, slot := 11, constantValue := 0 }, { name := "ENCLOSING_MARK", type := .byte, accessFlags := 25, slot := 12, constantValue := 0 }, { name := "COMBINING_SPACING_MARK", type := .byte, accessFlags := 25, slot := 13, constantValue := 0 }, { name := "DECIMAL_DIGIT_NUMBER", type := .byte, accessFlags := 25, slot := 14, constantValue := 0 }, { name := "LETTER_NUMBER", type := .byte, accessFlags := 25, slot := 15, constantValue := 0 }, { name := "OTHER_NUMBER", type := .byte, accessFlags := 25, slot := 16, constantValue := 0 }, { name := "SPACE_SEPARATOR", type := .byte, accessFlags := 25, slot := 17, constantValue := 0 }, { name := "LINE_SEPARATOR", type := .byte, accessFlags := 25, slot := 18, constantValue := 0 }, { name := "PARAGRAPH_SEPARATOR", type := .byte, accessFlags := 25, slot := 19, constantValue := 0 }, { name := "CONTROL", type := .byte, accessFlags := 25, slot := 20, constantValue := 0 }, { name := "FORMAT", type := .byte, accessFlags := 25, slot := 21, constantValue := 0 }, { name := "PRIVATE_USE", type := .byte, accessFlags := 25, slot := 22, constantValue := 0 }, { name := "SURROGATE", type := .byte, accessFlags := 25, slot := 23, constantValue := 0 }, { name := "DASH_PUNCTUATION", type := .byte, accessFlags := 25, slot := 24, constantValue := 0 }, { name := "START_PUNCTUATION", type := .byte, accessFlags := 25, slot := 25, constantValue := 0 }, { name := "END_PUNCTUATION", type := .byte, accessFlags := 25, slot := 26, constantValue := 0 }, { name := "CONNECTOR_PUNCTUATION", type := .byte, accessFlags := 25, slot := 27, constantValue := 0 }, { name := "OTHER_PUNCTUATION", type := .byte, accessFlags := 25, slot := 28, constantValue := 0 }, { name := "MATH_SYMBOL", type := .byte, accessFlags := 25, slot := 29, constantValue := 0 }, { name := "CURRENCY_SYMBOL", type := .byte, accessFlags := 25, slot := 30, constantValue := 0 }, { name := "MODIFIER_SYMBOL", type := .byte, accessFlags := 25, slot := 31, constantValue := 0 }, { name := "OTHER_SYMBOL", type := .byte, accessFlags := 25, slot := 32, constantValue := 0 }, { name := "INITIAL_QUOTE_PUNCTUATION", type := .byte, accessFlags := 25, slot := 33, constantValue := 0 }, { name := "FINAL_QUOTE_PUNCTUATION", type := .byte, accessFlags := 25, slot := 34, constantValue := 0 }, { name := "ERROR", type := .int, accessFlags := 24, slot := 35, constantValue := 0 }, { name := "DIRECTIONALITY_UNDEFINED", type := .byte, accessFlags := 25, slot := 36, constantValue := 0 }, { name := "DIRECTIONALITY_LEFT_TO_RIGHT", type := .byte, accessFlags := 25, slot := 37, constantValue := 0 }, { name := "DIRECTIONALITY_RIGHT_TO_LEFT", type := .byte, accessFlags := 25, slot := 38, constantValue := 0 }, { name := "DIRECTIONALITY_RIGHT_TO_LEFT_ARABIC", type := .byte, accessFlags := 25, slot := 39, constantValue := 0 }, { name := "DIRECTIONALITY_EUROPEAN_NUMBER", type := .byte, accessFlags := 25, slot := 40, constantValue := 0 }, { name := "DIRECTIONALITY_EUROPEAN_NUMBER_SEPARATOR", type := .byte, accessFlags := 25, slot := 41, constantValue := 0 }, { name := "DIRECTIONALITY_EUROPEAN_NUMBER_TERMINATOR", type := .byte, accessFlags := 25, slot := 42, constantValue := 0 }, { name := "DIRECTIONALITY_ARABIC_NUMBER", type := .byte, accessFlags := 25, slot := 43, constantValue := 0 }, { name := "DIRECTIONALITY_COMMON_NUMBER_SEPARATOR", type := .byte, accessFlags := 25, slot := 44, constantValue := 0 }, { name := "DIRECTIONALITY_NONSPACING_MARK", type := .byte, accessFlags := 25, slot := 45, constantValue := 0 }, { name := "DIRECTIONALITY_BOUNDARY_NEUTRAL", type := .byte, accessFlags := 25, slot := 46, constantValue := 0 }, { name := "DIRECTIONALITY_PARAGRAPH_SEPARATOR", type := .byte, accessFlags := 25, slot := 47, constantValue := 0 }, { name := "DIRECTIONALITY_SEGMENT_SEPARATOR", type := .byte, accessFlags := 25, slot := 48, constantValue := 0 }, { name := "DIRECTIONALITY_WHITESPACE", type := .byte, accessFlags := 25, slot := 49, constantValue := 0 }, { name := "DIRECTIONALITY_OTHER_NEUTRALS", type := .byte, accessFlags := 25, slot := 50, constantValue := 0 }, { name := "DIRECTIONALITY_LEFT_TO_RIGHT_EMBEDDING", type := .byte, accessFlags := 25, slot := 51, constantValue := 0 }, { name := "DIRECTIONALITY_LEFT_TO_RIGHT_OVERRIDE", type := .byte, accessFlags := 25, slot := 52, constantValue := 0 }, { name := "DIRECTIONALITY_RIGHT_TO_LEFT_EMBEDDING", type := .byte, accessFlags := 25, slot := 53, constantValue := 0 }, { name := "DIRECTIONALITY_RIGHT_TO_LEFT_OVERRIDE", type := .byte, accessFlags := 25, slot := 54, constantValue := 0 }, { name := "DIRECTIONALITY_POP_DIRECTIONAL_FORMAT", type := .byte, accessFlags := 25, slot := 55, constantValue := 0 }, { name := "DIRECTIONALITY_LEFT_TO_RIGHT_ISOLATE", type := .byte, accessFlags := 25, slot := 56, constantValue := 0 }, { name := "DIRECTIONALITY_RIGHT_TO_LEFT_ISOLATE", type := .byte, accessFlags := 25, slot := 57, constantValue := 0 }, { name := "DIRECTIONALITY_FIRST_STRONG_ISOLATE", type := .byte, accessFlags := 25, slot := 58, constantValue := 0 }, { name := "DIRECTIONALITY_POP_DIRECTIONAL_ISOLATE", type := .byte, accessFlags := 25, slot := 59, constantValue := 0 }, { name := "MIN_HIGH_SURROGATE", type := .char, accessFlags := 25, slot := 60, constantValue := 0 }, { name := "MAX_HIGH_SURROGATE", type := .char, accessFlags := 25, slot := 61, constantValue := 0 }, { name := "MIN_LOW_SURROGATE", type := .char, accessFlags := 25, slot := 62, constantValue := 0 }, { name := "MAX_LOW_SURROGATE", type := .char, accessFlags := 25, slot := 63, constantValue := 0 }, { name := "MIN_SURROGATE", type := .char, accessFlags := 25, slot := 64, constantValue := 0 }, { name := "MAX_SURROGATE", type := .char, accessFlags := 25, slot := 65, constantValue := 0 }, { name := "MIN_SUPPLEMENTARY_CODE_POINT", type := .int, accessFlags := 25, slot := 66, constantValue := 0 }, { name := "MIN_CODE_POINT", type := .int, accessFlags := 25, slot := 67, constantValue := 0 }, { name := "MAX_CODE_POINT", type := .int, accessFlags := 25, slot := 68, constantValue := 0 }, { name := "value", type := .char, accessFlags := 18, slot := 0, constantValue := 0 }, { name := "serialVersionUID", type := .long, accessFlags := 26, slot := 69, constantValue := 0 }, { name := "SIZE", type := .int, accessFlags := 25, slot := 70, constantValue := 0 }, { name := "BYTES", type := .int, accessFlags := 25, slot := 71, constantValue := 0 }, { name := "$assertionsDisabled", type := .boolean, accessFlags := 4120, slot := 72, constantValue := 0 }]
  methods := #[k12m0, k12m1, k12m2, k12m3]
  instanceTypes := #[.char]
  staticTypes := #[.int, .int, .char, .char, (.object "java/lang/Class"), .byte, .byte, .byte, .byte, .byte, .byte, .byte, .byte, .byte, .byte, .byte, .byte, .byte, .byte, .byte, .byte, .byte, .byte, .byte, .byte, .byte, .byte, .byte, .byte, .byte, .byte, .byte, .byte, .byte, .byte, .int, .byte, .byte, .byte, .byte, .byte, .byte, .byte, .byte, .byte, .byte, .byte, .byte, .byte, .byte, .byte, .byte, .byte, .byte, .byte, .byte, .byte, .byte, .byte, .byte, .char, .char, .char, .char, .char, .char, .int, .int, .int, .long, .int, .int, .boolean]
  resolved := Array.replicate 604 none
  statics := none }

def pool13 : Array CpInfo := pool [(4, .class_ 6), (1, u "java/lang/Object"), (0, u "<init>"), (0, u "()V"), (5, .class_ 16), (1, u "java/lang/StringLatin1"), (104, u "$assertionsDisabled"), (0, u "Z"), (98, .class_ 223), (1, u "java/lang/StringLatin1$LinesSpliterator"), (57, u "equals"), (0, u "([B[B)Z"), (107, .class_ 391), (0, u "java/lang/StringLatin1$CharsSpliterator")] 3

def k13m0 : Method := { name := "<init>", desc := "()V", sig := { parameters := [], returnType := none }, accessFlags := 0, code := none }
def k13c1 : Code := { maxStack := 3, maxLocals := 3, code := jdk_43_method_13_code, exceptionTable := #[], attributes := #[] }
def k13m1 : Method := { name := "equals", desc := "([B[B)Z", sig := { parameters := [(.array .byte), (.array .byte)], returnType := some .boolean }, accessFlags := 9, code := some k13c1 }
/-- java/lang/StringLatin1 -/
def k13 : Class := { plain "java/lang/StringLatin1" (some 0) with
  accessFlags := 48
  interfaces := #[]
  cf := some (fileOf pool13 14 #[.nestMembers #[390, 221]] #[{ accessFlags := 0, nameIndex := 7, descriptorIndex := 8, attributes := #[] }, { accessFlags := 9, nameIndex := 281, descriptorIndex := 282, attributes := #[] }] 48 4 #[] #[{ accessFlags := 4120, nameIndex := 121, descriptorIndex := 122, attributes := #[] }])
  fields := #[{ name := "$assertionsDisabled", type := .boolean, accessFlags := 4120, slot := 0, constantValue := 0 }]
  methods := #[k13m0, k13m1]
  instanceTypes := #[]
  staticTypes := #[.boolean]
  resolved := Array.replicate 395 none
  statics := none }

def pool14 : Array CpInfo := pool [(9, u "<init>"), (6, .class_ 18), (1, u "java/lang/Object"), (0, u "()V"), (1, .class_ 23), (1, u "jdk/internal/util/ArraysSupport"), (0, u "LOG2_ARRAY_LONG_INDEX_SCALE"), (0, u "I"), (2, u "U"), (0, u "Ljdk/internal/misc/Unsafe;"), (8, u "BIG_ENDIAN"), (0, u "Z"), (8, u "LOG2_BYTE_BIT_SIZE"), (4, u "LOG2_ARRAY_INT_INDEX_SCALE"), (54, u "JLA"), (0, u "Ljdk/internal/access/JavaLangAccess;"), (11, u "LOG2_ARRAY_BOOLEAN_INDEX_SCALE"), (9, u "LOG2_ARRAY_BYTE_INDEX_SCALE"), (5, u "LOG2_ARRAY_CHAR_INDEX_SCALE"), (5, u "LOG2_ARRAY_SHORT_INDEX_SCALE"), (18, u "LOG2_ARRAY_FLOAT_INDEX_SCALE"), (24, u "LOG2_ARRAY_DOUBLE_INDEX_SCALE"), (89, u "T_BOOLEAN"), (2, u "T_CHAR"), (1, u "T_FLOAT"), (1, u "T_DOUBLE"), (1, u "T_BYTE"), (1, u "T_SHORT"), (1, u "T_INT"), (1, u "T_LONG"), (1, u "SOFT_MAX_ARRAY_LENGTH")] 83

def k14m0 : Method := { name := "<init>", desc := "()V", sig := { parameters := [], returnType := none }, accessFlags := 2, code := none }
/-- jdk/internal/util/ArraysSupport -/
def k14 : Class := { plain "jdk/internal/util/ArraysSupport" (some 0) with
  accessFlags := 33
  interfaces := #[]
  cf := some (fileOf pool14 21 #[] #[{ accessFlags := 2, nameIndex := 9, descriptorIndex := 19, attributes := #[] }] 33 16 #[] #[{ accessFlags := 24, nameIndex := 28, descriptorIndex := 29, attributes := #[] }, { accessFlags := 26, nameIndex := 38, descriptorIndex := 39, attributes := #[] }, { accessFlags := 25, nameIndex := 121, descriptorIndex := 25, attributes := #[] }, { accessFlags := 25, nameIndex := 131, descriptorIndex := 25, attributes := #[] }, { accessFlags := 25, nameIndex := 137, descriptorIndex := 25, attributes := #[] }, { accessFlags := 25, nameIndex := 143, descriptorIndex := 25, attributes := #[] }, { accessFlags := 25, nameIndex := 53, descriptorIndex := 25, attributes := #[] }, { accessFlags := 25, nameIndex := 24, descriptorIndex := 25, attributes := #[] }, { accessFlags := 25, nameIndex := 162, descriptorIndex := 25, attributes := #[] }, { accessFlags := 25, nameIndex := 187, descriptorIndex := 25, attributes := #[] }, { accessFlags := 26, nameIndex := 48, descriptorIndex := 25, attributes := #[] }, { accessFlags := 25, nameIndex := 277, descriptorIndex := 25, attributes := #[] }, { accessFlags := 25, nameIndex := 280, descriptorIndex := 25, attributes := #[] }, { accessFlags := 25, nameIndex := 282, descriptorIndex := 25, attributes := #[] }, { accessFlags := 25, nameIndex := 284, descriptorIndex := 25, attributes := #[] }, { accessFlags := 25, nameIndex := 286, descriptorIndex := 25, attributes := #[] }, { accessFlags := 25, nameIndex := 288, descriptorIndex := 25, attributes := #[] }, { accessFlags := 25, nameIndex := 290, descriptorIndex := 25, attributes := #[] }, { accessFlags := 25, nameIndex := 292, descriptorIndex := 25, attributes := #[] }, { accessFlags := 26, nameIndex := 108, descriptorIndex := 109, attributes := #[] }, { accessFlags := 25, nameIndex := 294, descriptorIndex := 25, attributes := #[] }])
  fields := #[{ name := "U", type := (.object "jdk/internal/misc/Unsafe"), accessFlags := 24, slot := 0, constantValue := 0 }, { name := "BIG_ENDIAN", type := .boolean, accessFlags := 26, slot := 1, constantValue := 0 }, { name := "LOG2_ARRAY_BOOLEAN_INDEX_SCALE", type := .int, accessFlags := 25, slot := 2, constantValue := 0 }, { name := "LOG2_ARRAY_BYTE_INDEX_SCALE", type := .int, accessFlags := 25, slot := 3, constantValue := 0 }, { name := "LOG2_ARRAY_CHAR_INDEX_SCALE", type := .int, accessFlags := 25, slot := 4, constantValue := 0 }, { name := "LOG2_ARRAY_SHORT_INDEX_SCALE", type := .int, accessFlags := 25, slot := 5, constantValue := 0 }, { name := "LOG2_ARRAY_INT_INDEX_SCALE", type := .int, accessFlags := 25, slot := 6, constantValue := 0 }, { name := "LOG2_ARRAY_LONG_INDEX_SCALE", type := .int, accessFlags := 25, slot := 7, constantValue := 0 }, { name := "LOG2_ARRAY_FLOAT_INDEX_SCALE", type := .int, accessFlags := 25, slot := 8, constantValue := 0 }, { name := "LOG2_ARRAY_DOUBLE_INDEX_SCALE", type := .int, accessFlags := 25, slot := 9, constantValue := 0 }, { name := "LOG2_BYTE_BIT_SIZE", type := .int, accessFlags := 26, slot := 10, constantValue := 0 }, { name := "T_BOOLEAN", type := .int, accessFlags := 25, slot := 11, constantValue := 0 }, { name := "T_CHAR", type := .int, accessFlags := 25, slot := 12, constantValue := 0 }, { name := "T_FLOAT", type := .int, accessFlags := 25, slot := 13, constantValue := 0 }, { name := "T_DOUBLE", type := .int, accessFlags := 25, slot := 14, constantValue := 0 }, { name := "T_BYTE", type := .int, accessFlags := 25, slot := 15, constantValue := 0 }, { name := "T_SHORT", type := .int, accessFlags := 25, slot := 16, constantValue := 0 }, { name := "T_INT", type := .int, accessFlags := 25, slot := 17, constantValue := 0 }, { name := "T_LONG", type := .int, accessFlags := 25, slot := 18, constantValue := 0 }, { name := "JLA", type := (.object "jdk/internal/access/JavaLangAccess"), accessFlags := 26, slot := 19, constantValue := 0 }, { name := "SOFT_MAX_ARRAY_LENGTH", type := .int, accessFlags := 25, slot := 20, constantValue := 0 }]
  methods := #[k14m0]
  instanceTypes := #[]
  staticTypes := #[(.object "jdk/internal/misc/Unsafe"), .boolean, .int, .int, .int, .int, .int, .int, .int, .int, .int, .int, .int, .int, .int, .int, .int, .int, .int, (.object "jdk/internal/access/JavaLangAccess"), .int]
  resolved := Array.replicate 378 none
  statics := none }

def pool15 : Array CpInfo := pool [(1, u "java/lang/Cloneable"), (0, .class_ 1), (0, u "java/lang/Object"), (0, .class_ 3)] 3

/-- java/lang/Cloneable -/
def k15 : Class := { plain "java/lang/Cloneable" (some 0) with
  accessFlags := 1537
  interfaces := #[]
  cf := some (fileOf pool15 2 #[] #[] 1537 4 #[] #[])
  fields := #[]
  methods := #[]
  instanceTypes := #[]
  staticTypes := #[]
  resolved := Array.replicate 8 none
  statics := none }

/-- the primitive byte -/
def k16 : Class := { plain "byte" none with kind := .primitive 'B', accessFlags := 0x411 }
/-- [B -/
def k17 : Class := { plain "[B" (some 0) with kind := .array 16 .byte, interfaces := #[15, 2], accessFlags := 1041 }

/-- the primitive char -/
def k18 : Class := { plain "char" none with kind := .primitive 'C', accessFlags := 0x411 }
/-- [C -/
def k19 : Class := { plain "[C" (some 0) with kind := .array 18 .char, interfaces := #[15, 2], accessFlags := 1041 }

/-- the primitive int -/
def k20 : Class := { plain "int" none with kind := .primitive 'I', accessFlags := 0x411 }
/-- [I -/
def k21 : Class := { plain "[I" (some 0) with kind := .array 20 .int, interfaces := #[15, 2], accessFlags := 1041 }

def heap : Heap := #[{ cls := 7, slots := #[.long 0, .int 1, .null, .int 0, .null, .int 0, .int 0], vm := .statics 7 },
  { cls := 8, slots := #[.int 0, .int 8, .int 0, .int 1], vm := .statics 8 },
  { cls := 11, slots := #[.null, .null, .null], vm := .statics 11 }]
def classes : Array Class := #[k0, k1, k2, k3, k4, k5, k6, k7, k8, k9, k10, k11, k12, k13, k14, k15, k16, k17, k18, k19, k20, k21]
def interned : List (Array UInt16 × Addr) := []
def slotsUsed : Nat := 14
def theMethod : MethodId := ⟨1, 6⟩
def args0 : Array Value := #[.int 5, .int 5, .int 5, .int 5, .int 5]
def aboutOver (below : List Frame) : State where
  vm := { classes := classes, interned := interned.toArray }
  heap := heap
  slotsUsed := slotsUsed
  threads := #[{ frames := .invoking theMethod args0 :: below }]
def below0 : List Frame := [.native { method := ⟨0, 0⟩, args := #[] }]
def about1 : State := aboutOver below0
def p0 : Program := .bare "" "" ""
def e0 : Env := launch0.env 0 0 0
theorem w_frames : about1.frames = Frame.invoking theMethod args0 :: below0 := rfl
set_option maxRecDepth 65536 in
theorem w_args : argsFit about1.vm theMethod args0 = true := by decide +kernel
set_option maxRecDepth 65536 in
theorem w_heap : heapFits about1 = true := by decide +kernel
set_option maxRecDepth 65536 in
theorem w_runnable : about1.curStatus? = some .runnable := by decide +kernel
set_option maxRecDepth 65536 in
theorem w_alone : about1.alone = true := by decide +kernel
set_option maxRecDepth 65536 in
theorem w_named : about1.methodNamed? x = some theMethod := by decide +kernel
set_option maxRecDepth 65536 in
theorem w_hears : about1.hears theMethod below0 = true := by decide +kernel
set_option maxRecDepth 65536 in
theorem w_ripe : about1.ripe theMethod args0 below0 = true := by decide +kernel
theorem w_running : about1.status = .running := rfl
set_option maxRecDepth 65536 in
theorem w_room : about1.hasRoom e0.platform room_1 = true :=
  launch0.hasRoom_least _ room_1 (by decide +kernel) (by decide +kernel) (by decide +kernel) (by decide +kernel) (by decide +kernel) (by decide +kernel)
theorem allAtoms_all (ts : List Jvm.Cond) (a : Array Jvm.Value) (st : Jvm.State) : (allAtoms ts).before a st = ts.all (fun c => c.before a st) := by
  induction ts with
  | nil => rfl
  | cons c t ih =>
    show (Jvm.Cond.and c (allAtoms t)).before a st = _
    rw [Jvm.Cond.before_and, ih, List.all_cons]
def words1 : List Jvm.Cond := Jvm.Cond.code x code maxLocals ret :: tables_1
/-- a 'code' word, met by the world's own term for the bytes: nothing is compared byte by byte -/
theorem code_word {y : MethodName} {bytes : ByteArray} {mx : Nat} {rt : Option FieldType} {a : Array Value} {s : State} {m : MethodId} {meth : Method} {c : Code} (h1 : s.methodNamed? y = some m) (h2 : s.vm.method? m = some meth) (h3 : meth.code = some c) (h4 : c.code = bytes)
    (h5 : (c.maxLocals == mx && c.exceptionTable.isEmpty && decide (c.maxStack ≤ mostOperands) && decide (meth.sig.returnType = rt) && !meth.locks && decide (parseMethodDescriptor y.desc = some meth.sig)) = true) : (Jvm.Cond.code y bytes mx rt).before a s = true := by
  simp only [Bool.and_eq_true, beq_iff_eq, Bool.not_eq_true', decide_eq_true_eq] at h5
  obtain ⟨⟨⟨⟨⟨g1, g2⟩, g3⟩, g4⟩, g5⟩, g6⟩ := h5
  simp [Cond.before, Cond.holds, Cond.value, h1, h2, h3, h4, g1, g2, g3, g4, g5, g6]
def isCode : Jvm.Cond → Bool
  | .code _ _ _ _ => true
  | _ => false
theorem all_split {L : List Jvm.Cond} {P : Jvm.Cond → Bool} (h1 : L.all (fun c => isCode c || P c) = true) (h2 : ∀ c ∈ L.filter isCode, P c = true) : L.all P = true := by
  refine List.all_eq_true.mpr fun c hc => ?_
  have h := List.all_eq_true.mp h1 c hc
  rcases Bool.eq_false_or_eq_true (isCode c) with hi | hi
  · exact h2 c (List.mem_filter.mpr ⟨hc, hi⟩)
  · simpa [hi] using h
set_option maxRecDepth 65536 in
theorem w_c0 : (Jvm.Cond.code x code maxLocals ret).before args0 about1 = true := code_word (m := ⟨1, 6⟩) (meth := k1m6) (c := k1c6) (by decide +kernel) rfl rfl rfl (by decide +kernel)
set_option maxRecDepth 65536 in
theorem w_c1 : (Jvm.Cond.code ({ cls := "com/example/bounded_lock/boundedlock/LockNameOfPinLaw", name := "draw", desc := "(I)C" } : Jvm.MethodName) method_2_code (3 : Nat) (Option.some Jvm.ClassFile.FieldType.char)).before args0 about1 = true := code_word (m := ⟨1, 1⟩) (meth := k1m1) (c := k1c1) (by decide +kernel) rfl rfl rfl (by decide +kernel)
set_option maxRecDepth 65536 in
theorem w_c2 : (Jvm.Cond.code ({ cls := "com/example/bounded_lock/boundedlock/LockNameOfPinLaw", name := "okAt", desc := "([CII)Z" } : Jvm.MethodName) method_5_code (3 : Nat) (Option.some Jvm.ClassFile.FieldType.boolean)).before args0 about1 = true := code_word (m := ⟨1, 4⟩) (meth := k1m4) (c := k1c4) (by decide +kernel) rfl rfl rfl (by decide +kernel)
set_option maxRecDepth 65536 in
theorem w_c3 : (Jvm.Cond.code ({ cls := "com/example/bounded_lock/boundedlock/LockNameOfPinLaw", name := "isHigh", desc := "(C)Z" } : Jvm.MethodName) method_3_code (1 : Nat) (Option.some Jvm.ClassFile.FieldType.boolean)).before args0 about1 = true := code_word (m := ⟨1, 2⟩) (meth := k1m2) (c := k1c2) (by decide +kernel) rfl rfl rfl (by decide +kernel)
set_option maxRecDepth 65536 in
theorem w_c4 : (Jvm.Cond.code ({ cls := "com/example/bounded_lock/boundedlock/LockNameOfPinLaw", name := "isLow", desc := "(C)Z" } : Jvm.MethodName) method_4_code (1 : Nat) (Option.some Jvm.ClassFile.FieldType.boolean)).before args0 about1 = true := code_word (m := ⟨1, 3⟩) (meth := k1m3) (c := k1c3) (by decide +kernel) rfl rfl rfl (by decide +kernel)
set_option maxRecDepth 65536 in
theorem w_c5 : (Jvm.Cond.code ({ cls := "com/example/bounded_lock/boundedlock/LockNameOfPinLaw", name := "highAt", desc := "([CII)I" } : Jvm.MethodName) method_6_code (3 : Nat) (Option.some Jvm.ClassFile.FieldType.int)).before args0 about1 = true := code_word (m := ⟨1, 5⟩) (meth := k1m5) (c := k1c5) (by decide +kernel) rfl rfl rfl (by decide +kernel)
set_option maxRecDepth 65536 in
theorem w_c6 : (Jvm.Cond.code ({ cls := "java/lang/String", name := "<init>", desc := "([C)V" } : Jvm.MethodName) jdk_42_method_3_code (2 : Nat) (Option.none : Option Jvm.ClassFile.FieldType)).before args0 about1 = true := code_word (m := ⟨7, 1⟩) (meth := k7m1) (c := k7c1) (by decide +kernel) rfl rfl rfl (by decide +kernel)
set_option maxRecDepth 65536 in
theorem w_c7 : (Jvm.Cond.code ({ cls := "java/lang/String", name := "<init>", desc := "([CIILjava/lang/Void;)V" } : Jvm.MethodName) jdk_42_method_149_code (6 : Nat) (Option.none : Option Jvm.ClassFile.FieldType)).before args0 about1 = true := code_word (m := ⟨7, 6⟩) (meth := k7m6) (c := k7c6) (by decide +kernel) rfl rfl rfl (by decide +kernel)
set_option maxRecDepth 65536 in
theorem w_c8 : (Jvm.Cond.code ({ cls := "java/lang/Object", name := "<init>", desc := "()V" } : Jvm.MethodName) object_method_1_code (1 : Nat) (Option.none : Option Jvm.ClassFile.FieldType)).before args0 about1 = true := code_word (m := ⟨0, 0⟩) (meth := k0m0) (c := k0c0) (by decide +kernel) rfl rfl rfl (by decide +kernel)
set_option maxRecDepth 65536 in
theorem w_c9 : (Jvm.Cond.code ({ cls := "java/lang/StringUTF16", name := "compress", desc := "([CII)[B" } : Jvm.MethodName) jdk_52_method_16_code (6 : Nat) (Option.some (Jvm.ClassFile.FieldType.array Jvm.ClassFile.FieldType.byte))).before args0 about1 = true := code_word (m := ⟨8, 11⟩) (meth := k8m11) (c := k8c11) (by decide +kernel) rfl rfl rfl (by decide +kernel)
set_option maxRecDepth 65536 in
theorem w_c10 : (Jvm.Cond.code ({ cls := "java/lang/StringUTF16", name := "compress", desc := "([CI[BII)I" } : Jvm.MethodName) jdk_52_method_21_code (7 : Nat) (Option.some Jvm.ClassFile.FieldType.int)).before args0 about1 = true := code_word (m := ⟨8, 12⟩) (meth := k8m12) (c := k8c12) (by decide +kernel) rfl rfl rfl (by decide +kernel)
set_option maxRecDepth 65536 in
theorem w_c11 : (Jvm.Cond.code ({ cls := "java/lang/StringUTF16", name := "coderFromArrayLen", desc := "([BI)B" } : Jvm.MethodName) jdk_52_method_15_code (2 : Nat) (Option.some Jvm.ClassFile.FieldType.byte)).before args0 about1 = true := code_word (m := ⟨8, 10⟩) (meth := k8m10) (c := k8c10) (by decide +kernel) rfl rfl rfl (by decide +kernel)
set_option maxRecDepth 65536 in
theorem w_c12 : (Jvm.Cond.code ({ cls := "com/example/bounded_lock/boundedlock/LockName", name := "of", desc := "(Ljava/lang/String;)Lcom/example/bounded_lock/boundedlock/LockName;" } : Jvm.MethodName) prog_1_method_2_code (3 : Nat) (Option.some (Jvm.ClassFile.FieldType.object "com/example/bounded_lock/boundedlock/LockName"))).before args0 about1 = true := code_word (m := ⟨9, 1⟩) (meth := k9m1) (c := k9c1) (by decide +kernel) rfl rfl rfl (by decide +kernel)
set_option maxRecDepth 65536 in
theorem w_c13 : (Jvm.Cond.code ({ cls := "java/util/Objects", name := "requireNonNull", desc := "(Ljava/lang/Object;Ljava/lang/String;)Ljava/lang/Object;" } : Jvm.MethodName) jdk_31_method_11_code (2 : Nat) (Option.some (Jvm.ClassFile.FieldType.object "java/lang/Object"))).before args0 about1 = true := code_word (m := ⟨10, 1⟩) (meth := k10m1) (c := k10c1) (by decide +kernel) rfl rfl rfl (by decide +kernel)
set_option maxRecDepth 65536 in
theorem w_c14 : (Jvm.Cond.code ({ cls := "java/lang/String", name := "length", desc := "()I" } : Jvm.MethodName) jdk_42_method_54_code (1 : Nat) (Option.some Jvm.ClassFile.FieldType.int)).before args0 about1 = true := code_word (m := ⟨7, 2⟩) (meth := k7m2) (c := k7c2) (by decide +kernel) rfl rfl rfl (by decide +kernel)
set_option maxRecDepth 65536 in
theorem w_c15 : (Jvm.Cond.code ({ cls := "java/lang/String", name := "coder", desc := "()B" } : Jvm.MethodName) jdk_42_method_152_code (1 : Nat) (Option.some Jvm.ClassFile.FieldType.byte)).before args0 about1 = true := code_word (m := ⟨7, 7⟩) (meth := k7m7) (c := k7c7) (by decide +kernel) rfl rfl rfl (by decide +kernel)
set_option maxRecDepth 65536 in
theorem w_c16 : (Jvm.Cond.code ({ cls := "java/lang/String", name := "codePointCount", desc := "(II)I" } : Jvm.MethodName) jdk_42_method_59_code (3 : Nat) (Option.some Jvm.ClassFile.FieldType.int)).before args0 about1 = true := code_word (m := ⟨7, 4⟩) (meth := k7m4) (c := k7c4) (by decide +kernel) rfl rfl rfl (by decide +kernel)
set_option maxRecDepth 65536 in
theorem w_c17 : (Jvm.Cond.code ({ cls := "java/util/Objects", name := "checkFromToIndex", desc := "(III)I" } : Jvm.MethodName) jdk_31_method_18_code (3 : Nat) (Option.some Jvm.ClassFile.FieldType.int)).before args0 about1 = true := code_word (m := ⟨10, 2⟩) (meth := k10m2) (c := k10c2) (by decide +kernel) rfl rfl rfl (by decide +kernel)
set_option maxRecDepth 65536 in
theorem w_c18 : (Jvm.Cond.code ({ cls := "jdk/internal/util/Preconditions", name := "checkFromToIndex", desc := "(IIILjava/util/function/BiFunction;)I" } : Jvm.MethodName) jdk_41_method_12_code (4 : Nat) (Option.some Jvm.ClassFile.FieldType.int)).before args0 about1 = true := code_word (m := ⟨11, 2⟩) (meth := k11m2) (c := k11c2) (by decide +kernel) rfl rfl rfl (by decide +kernel)
set_option maxRecDepth 65536 in
theorem w_c19 : (Jvm.Cond.code ({ cls := "java/lang/String", name := "isLatin1", desc := "()Z" } : Jvm.MethodName) jdk_42_method_154_code (1 : Nat) (Option.some Jvm.ClassFile.FieldType.boolean)).before args0 about1 = true := code_word (m := ⟨7, 8⟩) (meth := k7m8) (c := k7c8) (by decide +kernel) rfl rfl rfl (by decide +kernel)
set_option maxRecDepth 65536 in
theorem w_c20 : (Jvm.Cond.code ({ cls := "com/example/bounded_lock/boundedlock/LockName", name := "indexOfUnpairedSurrogate", desc := "(Ljava/lang/String;)I" } : Jvm.MethodName) prog_1_method_3_code (3 : Nat) (Option.some Jvm.ClassFile.FieldType.int)).before args0 about1 = true := code_word (m := ⟨9, 2⟩) (meth := k9m2) (c := k9c2) (by decide +kernel) rfl rfl rfl (by decide +kernel)
set_option maxRecDepth 65536 in
theorem w_c21 : (Jvm.Cond.code ({ cls := "java/lang/String", name := "codePointAt", desc := "(I)I" } : Jvm.MethodName) jdk_42_method_57_code (3 : Nat) (Option.some Jvm.ClassFile.FieldType.int)).before args0 about1 = true := code_word (m := ⟨7, 3⟩) (meth := k7m3) (c := k7c3) (by decide +kernel) rfl rfl rfl (by decide +kernel)
set_option maxRecDepth 65536 in
theorem w_c22 : (Jvm.Cond.code ({ cls := "java/lang/String", name := "checkIndex", desc := "(II)V" } : Jvm.MethodName) jdk_42_method_155_code (2 : Nat) (Option.none : Option Jvm.ClassFile.FieldType)).before args0 about1 = true := code_word (m := ⟨7, 9⟩) (meth := k7m9) (c := k7c9) (by decide +kernel) rfl rfl rfl (by decide +kernel)
set_option maxRecDepth 65536 in
theorem w_c23 : (Jvm.Cond.code ({ cls := "jdk/internal/util/Preconditions", name := "checkIndex", desc := "(IILjava/util/function/BiFunction;)I" } : Jvm.MethodName) jdk_41_method_11_code (3 : Nat) (Option.some Jvm.ClassFile.FieldType.int)).before args0 about1 = true := code_word (m := ⟨11, 1⟩) (meth := k11m1) (c := k11c1) (by decide +kernel) rfl rfl rfl (by decide +kernel)
set_option maxRecDepth 65536 in
theorem w_c24 : (Jvm.Cond.code ({ cls := "java/lang/Character", name := "charCount", desc := "(I)I" } : Jvm.MethodName) jdk_89_method_18_code (1 : Nat) (Option.some Jvm.ClassFile.FieldType.int)).before args0 about1 = true := code_word (m := ⟨12, 2⟩) (meth := k12m2) (c := k12c2) (by decide +kernel) rfl rfl rfl (by decide +kernel)
set_option maxRecDepth 65536 in
theorem w_c25 : (Jvm.Cond.code ({ cls := "com/example/bounded_lock/boundedlock/LockName", name := "<init>", desc := "(Ljava/lang/String;)V" } : Jvm.MethodName) prog_1_method_1_code (2 : Nat) (Option.none : Option Jvm.ClassFile.FieldType)).before args0 about1 = true := code_word (m := ⟨9, 0⟩) (meth := k9m0) (c := k9c0) (by decide +kernel) rfl rfl rfl (by decide +kernel)
set_option maxRecDepth 65536 in
theorem w_c26 : (Jvm.Cond.code ({ cls := "com/example/bounded_lock/boundedlock/LockName", name := "value", desc := "()Ljava/lang/String;" } : Jvm.MethodName) prog_1_method_4_code (1 : Nat) (Option.some (Jvm.ClassFile.FieldType.object "java/lang/String"))).before args0 about1 = true := code_word (m := ⟨9, 3⟩) (meth := k9m3) (c := k9c3) (by decide +kernel) rfl rfl rfl (by decide +kernel)
set_option maxRecDepth 65536 in
theorem w_c27 : (Jvm.Cond.code ({ cls := "java/lang/String", name := "equals", desc := "(Ljava/lang/Object;)Z" } : Jvm.MethodName) jdk_42_method_66_code (3 : Nat) (Option.some Jvm.ClassFile.FieldType.boolean)).before args0 about1 = true := code_word (m := ⟨7, 5⟩) (meth := k7m5) (c := k7c5) (by decide +kernel) rfl rfl rfl (by decide +kernel)
set_option maxRecDepth 65536 in
theorem w_c28 : (Jvm.Cond.code ({ cls := "java/lang/StringLatin1", name := "equals", desc := "([B[B)Z" } : Jvm.MethodName) jdk_43_method_13_code (3 : Nat) (Option.some Jvm.ClassFile.FieldType.boolean)).before args0 about1 = true := code_word (m := ⟨13, 1⟩) (meth := k13m1) (c := k13c1) (by decide +kernel) rfl rfl rfl (by decide +kernel)
set_option maxRecDepth 65536 in
theorem w_c29 : (Jvm.Cond.code ({ cls := "com/example/bounded_lock/boundedlock/LockName", name := "equals", desc := "(Ljava/lang/Object;)Z" } : Jvm.MethodName) prog_1_method_5_code (3 : Nat) (Option.some Jvm.ClassFile.FieldType.boolean)).before args0 about1 = true := code_word (m := ⟨9, 4⟩) (meth := k9m4) (c := k9c4) (by decide +kernel) rfl rfl rfl (by decide +kernel)
set_option maxRecDepth 65536 in
theorem w_c30 : (Jvm.Cond.code ({ cls := "java/lang/StringUTF16", name := "toBytes", desc := "([CII)[B" } : Jvm.MethodName) jdk_52_method_14_code (5 : Nat) (Option.some (Jvm.ClassFile.FieldType.array Jvm.ClassFile.FieldType.byte))).before args0 about1 = true := code_word (m := ⟨8, 9⟩) (meth := k8m9) (c := k8c9) (by decide +kernel) rfl rfl rfl (by decide +kernel)
set_option maxRecDepth 65536 in
theorem w_c31 : (Jvm.Cond.code ({ cls := "java/lang/StringUTF16", name := "newBytesFor", desc := "(I)[B" } : Jvm.MethodName) jdk_52_method_2_code (1 : Nat) (Option.some (Jvm.ClassFile.FieldType.array Jvm.ClassFile.FieldType.byte))).before args0 about1 = true := code_word (m := ⟨8, 1⟩) (meth := k8m1) (c := k8c1) (by decide +kernel) rfl rfl rfl (by decide +kernel)
set_option maxRecDepth 65536 in
theorem w_c32 : (Jvm.Cond.code ({ cls := "java/lang/StringUTF16", name := "newBytesLength", desc := "(I)I" } : Jvm.MethodName) jdk_52_method_3_code (1 : Nat) (Option.some Jvm.ClassFile.FieldType.int)).before args0 about1 = true := code_word (m := ⟨8, 2⟩) (meth := k8m2) (c := k8c2) (by decide +kernel) rfl rfl rfl (by decide +kernel)
set_option maxRecDepth 65536 in
theorem w_c33 : (Jvm.Cond.code ({ cls := "java/lang/StringUTF16", name := "putChar", desc := "([BII)V" } : Jvm.MethodName) jdk_52_method_4_code (3 : Nat) (Option.none : Option Jvm.ClassFile.FieldType)).before args0 about1 = true := code_word (m := ⟨8, 3⟩) (meth := k8m3) (c := k8c3) (by decide +kernel) rfl rfl rfl (by decide +kernel)
set_option maxRecDepth 65536 in
theorem w_c34 : (Jvm.Cond.code ({ cls := "java/lang/StringUTF16", name := "getChar", desc := "([BI)C" } : Jvm.MethodName) jdk_52_method_5_code (2 : Nat) (Option.some Jvm.ClassFile.FieldType.char)).before args0 about1 = true := code_word (m := ⟨8, 4⟩) (meth := k8m4) (c := k8c4) (by decide +kernel) rfl rfl rfl (by decide +kernel)
set_option maxRecDepth 65536 in
theorem w_c35 : (Jvm.Cond.code ({ cls := "java/lang/StringUTF16", name := "codePointCount", desc := "([BII)I" } : Jvm.MethodName) jdk_52_method_12_code (3 : Nat) (Option.some Jvm.ClassFile.FieldType.int)).before args0 about1 = true := code_word (m := ⟨8, 8⟩) (meth := k8m8) (c := k8c8) (by decide +kernel) rfl rfl rfl (by decide +kernel)
set_option maxRecDepth 65536 in
theorem w_c36 : (Jvm.Cond.code ({ cls := "java/lang/StringUTF16", name := "codePointCount", desc := "([BIIZ)I" } : Jvm.MethodName) jdk_52_method_11_code (6 : Nat) (Option.some Jvm.ClassFile.FieldType.int)).before args0 about1 = true := code_word (m := ⟨8, 7⟩) (meth := k8m7) (c := k8c7) (by decide +kernel) rfl rfl rfl (by decide +kernel)
set_option maxRecDepth 65536 in
theorem w_c37 : (Jvm.Cond.code ({ cls := "java/lang/Character", name := "isHighSurrogate", desc := "(C)Z" } : Jvm.MethodName) jdk_89_method_14_code (1 : Nat) (Option.some Jvm.ClassFile.FieldType.boolean)).before args0 about1 = true := code_word (m := ⟨12, 0⟩) (meth := k12m0) (c := k12c0) (by decide +kernel) rfl rfl rfl (by decide +kernel)
set_option maxRecDepth 65536 in
theorem w_c38 : (Jvm.Cond.code ({ cls := "java/lang/StringUTF16", name := "codePointAt", desc := "([BII)I" } : Jvm.MethodName) jdk_52_method_8_code (3 : Nat) (Option.some Jvm.ClassFile.FieldType.int)).before args0 about1 = true := code_word (m := ⟨8, 6⟩) (meth := k8m6) (c := k8c6) (by decide +kernel) rfl rfl rfl (by decide +kernel)
set_option maxRecDepth 65536 in
theorem w_c39 : (Jvm.Cond.code ({ cls := "java/lang/StringUTF16", name := "codePointAt", desc := "([BIIZ)I" } : Jvm.MethodName) jdk_52_method_7_code (6 : Nat) (Option.some Jvm.ClassFile.FieldType.int)).before args0 about1 = true := code_word (m := ⟨8, 5⟩) (meth := k8m5) (c := k8c5) (by decide +kernel) rfl rfl rfl (by decide +kernel)
set_option maxRecDepth 65536 in
theorem w_c40 : (Jvm.Cond.code ({ cls := "java/lang/Character", name := "isLowSurrogate", desc := "(C)Z" } : Jvm.MethodName) jdk_89_method_15_code (1 : Nat) (Option.some Jvm.ClassFile.FieldType.boolean)).before args0 about1 = true := code_word (m := ⟨12, 1⟩) (meth := k12m1) (c := k12c1) (by decide +kernel) rfl rfl rfl (by decide +kernel)
set_option maxRecDepth 65536 in
theorem w_c41 : (Jvm.Cond.code ({ cls := "java/lang/Character", name := "toCodePoint", desc := "(CC)I" } : Jvm.MethodName) jdk_89_method_19_code (2 : Nat) (Option.some Jvm.ClassFile.FieldType.int)).before args0 about1 = true := code_word (m := ⟨12, 3⟩) (meth := k12m3) (c := k12c3) (by decide +kernel) rfl rfl rfl (by decide +kernel)
def codes1 : List Jvm.Cond := [Jvm.Cond.code x code maxLocals ret, Jvm.Cond.code ({ cls := "com/example/bounded_lock/boundedlock/LockNameOfPinLaw", name := "draw", desc := "(I)C" } : Jvm.MethodName) method_2_code (3 : Nat) (Option.some Jvm.ClassFile.FieldType.char), Jvm.Cond.code ({ cls := "com/example/bounded_lock/boundedlock/LockNameOfPinLaw", name := "okAt", desc := "([CII)Z" } : Jvm.MethodName) method_5_code (3 : Nat) (Option.some Jvm.ClassFile.FieldType.boolean), Jvm.Cond.code ({ cls := "com/example/bounded_lock/boundedlock/LockNameOfPinLaw", name := "isHigh", desc := "(C)Z" } : Jvm.MethodName) method_3_code (1 : Nat) (Option.some Jvm.ClassFile.FieldType.boolean), Jvm.Cond.code ({ cls := "com/example/bounded_lock/boundedlock/LockNameOfPinLaw", name := "isLow", desc := "(C)Z" } : Jvm.MethodName) method_4_code (1 : Nat) (Option.some Jvm.ClassFile.FieldType.boolean), Jvm.Cond.code ({ cls := "com/example/bounded_lock/boundedlock/LockNameOfPinLaw", name := "highAt", desc := "([CII)I" } : Jvm.MethodName) method_6_code (3 : Nat) (Option.some Jvm.ClassFile.FieldType.int), Jvm.Cond.code ({ cls := "java/lang/String", name := "<init>", desc := "([C)V" } : Jvm.MethodName) jdk_42_method_3_code (2 : Nat) (Option.none : Option Jvm.ClassFile.FieldType), Jvm.Cond.code ({ cls := "java/lang/String", name := "<init>", desc := "([CIILjava/lang/Void;)V" } : Jvm.MethodName) jdk_42_method_149_code (6 : Nat) (Option.none : Option Jvm.ClassFile.FieldType), Jvm.Cond.code ({ cls := "java/lang/Object", name := "<init>", desc := "()V" } : Jvm.MethodName) object_method_1_code (1 : Nat) (Option.none : Option Jvm.ClassFile.FieldType), Jvm.Cond.code ({ cls := "java/lang/StringUTF16", name := "compress", desc := "([CII)[B" } : Jvm.MethodName) jdk_52_method_16_code (6 : Nat) (Option.some (Jvm.ClassFile.FieldType.array Jvm.ClassFile.FieldType.byte)), Jvm.Cond.code ({ cls := "java/lang/StringUTF16", name := "compress", desc := "([CI[BII)I" } : Jvm.MethodName) jdk_52_method_21_code (7 : Nat) (Option.some Jvm.ClassFile.FieldType.int), Jvm.Cond.code ({ cls := "java/lang/StringUTF16", name := "coderFromArrayLen", desc := "([BI)B" } : Jvm.MethodName) jdk_52_method_15_code (2 : Nat) (Option.some Jvm.ClassFile.FieldType.byte), Jvm.Cond.code ({ cls := "com/example/bounded_lock/boundedlock/LockName", name := "of", desc := "(Ljava/lang/String;)Lcom/example/bounded_lock/boundedlock/LockName;" } : Jvm.MethodName) prog_1_method_2_code (3 : Nat) (Option.some (Jvm.ClassFile.FieldType.object "com/example/bounded_lock/boundedlock/LockName")), Jvm.Cond.code ({ cls := "java/util/Objects", name := "requireNonNull", desc := "(Ljava/lang/Object;Ljava/lang/String;)Ljava/lang/Object;" } : Jvm.MethodName) jdk_31_method_11_code (2 : Nat) (Option.some (Jvm.ClassFile.FieldType.object "java/lang/Object")), Jvm.Cond.code ({ cls := "java/lang/String", name := "length", desc := "()I" } : Jvm.MethodName) jdk_42_method_54_code (1 : Nat) (Option.some Jvm.ClassFile.FieldType.int), Jvm.Cond.code ({ cls := "java/lang/String", name := "coder", desc := "()B" } : Jvm.MethodName) jdk_42_method_152_code (1 : Nat) (Option.some Jvm.ClassFile.FieldType.byte), Jvm.Cond.code ({ cls := "java/lang/String", name := "codePointCount", desc := "(II)I" } : Jvm.MethodName) jdk_42_method_59_code (3 : Nat) (Option.some Jvm.ClassFile.FieldType.int), Jvm.Cond.code ({ cls := "java/util/Objects", name := "checkFromToIndex", desc := "(III)I" } : Jvm.MethodName) jdk_31_method_18_code (3 : Nat) (Option.some Jvm.ClassFile.FieldType.int), Jvm.Cond.code ({ cls := "jdk/internal/util/Preconditions", name := "checkFromToIndex", desc := "(IIILjava/util/function/BiFunction;)I" } : Jvm.MethodName) jdk_41_method_12_code (4 : Nat) (Option.some Jvm.ClassFile.FieldType.int), Jvm.Cond.code ({ cls := "java/lang/String", name := "isLatin1", desc := "()Z" } : Jvm.MethodName) jdk_42_method_154_code (1 : Nat) (Option.some Jvm.ClassFile.FieldType.boolean), Jvm.Cond.code ({ cls := "com/example/bounded_lock/boundedlock/LockName", name := "indexOfUnpairedSurrogate", desc := "(Ljava/lang/String;)I" } : Jvm.MethodName) prog_1_method_3_code (3 : Nat) (Option.some Jvm.ClassFile.FieldType.int), Jvm.Cond.code ({ cls := "java/lang/String", name := "codePointAt", desc := "(I)I" } : Jvm.MethodName) jdk_42_method_57_code (3 : Nat) (Option.some Jvm.ClassFile.FieldType.int), Jvm.Cond.code ({ cls := "java/lang/String", name := "checkIndex", desc := "(II)V" } : Jvm.MethodName) jdk_42_method_155_code (2 : Nat) (Option.none : Option Jvm.ClassFile.FieldType), Jvm.Cond.code ({ cls := "jdk/internal/util/Preconditions", name := "checkIndex", desc := "(IILjava/util/function/BiFunction;)I" } : Jvm.MethodName) jdk_41_method_11_code (3 : Nat) (Option.some Jvm.ClassFile.FieldType.int), Jvm.Cond.code ({ cls := "java/lang/Character", name := "charCount", desc := "(I)I" } : Jvm.MethodName) jdk_89_method_18_code (1 : Nat) (Option.some Jvm.ClassFile.FieldType.int), Jvm.Cond.code ({ cls := "com/example/bounded_lock/boundedlock/LockName", name := "<init>", desc := "(Ljava/lang/String;)V" } : Jvm.MethodName) prog_1_method_1_code (2 : Nat) (Option.none : Option Jvm.ClassFile.FieldType), Jvm.Cond.code ({ cls := "com/example/bounded_lock/boundedlock/LockName", name := "value", desc := "()Ljava/lang/String;" } : Jvm.MethodName) prog_1_method_4_code (1 : Nat) (Option.some (Jvm.ClassFile.FieldType.object "java/lang/String")), Jvm.Cond.code ({ cls := "java/lang/String", name := "equals", desc := "(Ljava/lang/Object;)Z" } : Jvm.MethodName) jdk_42_method_66_code (3 : Nat) (Option.some Jvm.ClassFile.FieldType.boolean), Jvm.Cond.code ({ cls := "java/lang/StringLatin1", name := "equals", desc := "([B[B)Z" } : Jvm.MethodName) jdk_43_method_13_code (3 : Nat) (Option.some Jvm.ClassFile.FieldType.boolean), Jvm.Cond.code ({ cls := "com/example/bounded_lock/boundedlock/LockName", name := "equals", desc := "(Ljava/lang/Object;)Z" } : Jvm.MethodName) prog_1_method_5_code (3 : Nat) (Option.some Jvm.ClassFile.FieldType.boolean), Jvm.Cond.code ({ cls := "java/lang/StringUTF16", name := "toBytes", desc := "([CII)[B" } : Jvm.MethodName) jdk_52_method_14_code (5 : Nat) (Option.some (Jvm.ClassFile.FieldType.array Jvm.ClassFile.FieldType.byte)), Jvm.Cond.code ({ cls := "java/lang/StringUTF16", name := "newBytesFor", desc := "(I)[B" } : Jvm.MethodName) jdk_52_method_2_code (1 : Nat) (Option.some (Jvm.ClassFile.FieldType.array Jvm.ClassFile.FieldType.byte)), Jvm.Cond.code ({ cls := "java/lang/StringUTF16", name := "newBytesLength", desc := "(I)I" } : Jvm.MethodName) jdk_52_method_3_code (1 : Nat) (Option.some Jvm.ClassFile.FieldType.int), Jvm.Cond.code ({ cls := "java/lang/StringUTF16", name := "putChar", desc := "([BII)V" } : Jvm.MethodName) jdk_52_method_4_code (3 : Nat) (Option.none : Option Jvm.ClassFile.FieldType), Jvm.Cond.code ({ cls := "java/lang/StringUTF16", name := "getChar", desc := "([BI)C" } : Jvm.MethodName) jdk_52_method_5_code (2 : Nat) (Option.some Jvm.ClassFile.FieldType.char), Jvm.Cond.code ({ cls := "java/lang/StringUTF16", name := "codePointCount", desc := "([BII)I" } : Jvm.MethodName) jdk_52_method_12_code (3 : Nat) (Option.some Jvm.ClassFile.FieldType.int), Jvm.Cond.code ({ cls := "java/lang/StringUTF16", name := "codePointCount", desc := "([BIIZ)I" } : Jvm.MethodName) jdk_52_method_11_code (6 : Nat) (Option.some Jvm.ClassFile.FieldType.int), Jvm.Cond.code ({ cls := "java/lang/Character", name := "isHighSurrogate", desc := "(C)Z" } : Jvm.MethodName) jdk_89_method_14_code (1 : Nat) (Option.some Jvm.ClassFile.FieldType.boolean), Jvm.Cond.code ({ cls := "java/lang/StringUTF16", name := "codePointAt", desc := "([BII)I" } : Jvm.MethodName) jdk_52_method_8_code (3 : Nat) (Option.some Jvm.ClassFile.FieldType.int), Jvm.Cond.code ({ cls := "java/lang/StringUTF16", name := "codePointAt", desc := "([BIIZ)I" } : Jvm.MethodName) jdk_52_method_7_code (6 : Nat) (Option.some Jvm.ClassFile.FieldType.int), Jvm.Cond.code ({ cls := "java/lang/Character", name := "isLowSurrogate", desc := "(C)Z" } : Jvm.MethodName) jdk_89_method_15_code (1 : Nat) (Option.some Jvm.ClassFile.FieldType.boolean), Jvm.Cond.code ({ cls := "java/lang/Character", name := "toCodePoint", desc := "(CC)I" } : Jvm.MethodName) jdk_89_method_19_code (2 : Nat) (Option.some Jvm.ClassFile.FieldType.int)]
set_option maxRecDepth 65536 in
theorem codes_eq : words1.filter isCode = codes1 := rfl
theorem w_codes : ∀ c ∈ words1.filter isCode, c.before args0 about1 = true := by
  rw [codes_eq]
  intro c hc
  simp only [codes1, List.mem_cons, List.not_mem_nil, or_false] at hc
  rcases hc with rfl | rfl | rfl | rfl | rfl | rfl | rfl | rfl | rfl | rfl | rfl | rfl | rfl | rfl | rfl | rfl | rfl | rfl | rfl | rfl | rfl | rfl | rfl | rfl | rfl | rfl | rfl | rfl | rfl | rfl | rfl | rfl | rfl | rfl | rfl | rfl | rfl | rfl | rfl | rfl | rfl | rfl
  · exact w_c0
  · exact w_c1
  · exact w_c2
  · exact w_c3
  · exact w_c4
  · exact w_c5
  · exact w_c6
  · exact w_c7
  · exact w_c8
  · exact w_c9
  · exact w_c10
  · exact w_c11
  · exact w_c12
  · exact w_c13
  · exact w_c14
  · exact w_c15
  · exact w_c16
  · exact w_c17
  · exact w_c18
  · exact w_c19
  · exact w_c20
  · exact w_c21
  · exact w_c22
  · exact w_c23
  · exact w_c24
  · exact w_c25
  · exact w_c26
  · exact w_c27
  · exact w_c28
  · exact w_c29
  · exact w_c30
  · exact w_c31
  · exact w_c32
  · exact w_c33
  · exact w_c34
  · exact w_c35
  · exact w_c36
  · exact w_c37
  · exact w_c38
  · exact w_c39
  · exact w_c40
  · exact w_c41
set_option maxRecDepth 65536 in
theorem w_t1 : (words1.take 24).all (fun c => isCode c || c.before args0 about1) = true := by decide +kernel
set_option maxRecDepth 65536 in
theorem w_t2 : ((words1.drop 24).take 24).all (fun c => isCode c || c.before args0 about1) = true := by decide +kernel
set_option maxRecDepth 65536 in
theorem w_t3 : (((words1.drop 24).drop 24).take 24).all (fun c => isCode c || c.before args0 about1) = true := by decide +kernel
set_option maxRecDepth 65536 in
theorem w_t4 : ((((words1.drop 24).drop 24).drop 24).take 24).all (fun c => isCode c || c.before args0 about1) = true := by decide +kernel
set_option maxRecDepth 65536 in
theorem w_t5 : (((((words1.drop 24).drop 24).drop 24).drop 24).take 24).all (fun c => isCode c || c.before args0 about1) = true := by decide +kernel
set_option maxRecDepth 65536 in
theorem w_t6 : ((((((words1.drop 24).drop 24).drop 24).drop 24).drop 24).take 24).all (fun c => isCode c || c.before args0 about1) = true := by decide +kernel
set_option maxRecDepth 65536 in
theorem w_t7 : (((((((words1.drop 24).drop 24).drop 24).drop 24).drop 24).drop 24).take 24).all (fun c => isCode c || c.before args0 about1) = true := by decide +kernel
set_option maxRecDepth 65536 in
theorem w_t8 : (((((((words1.drop 24).drop 24).drop 24).drop 24).drop 24).drop 24).drop 24).all (fun c => isCode c || c.before args0 about1) = true := by decide +kernel
theorem w_tables : (allAtoms (Jvm.Cond.code x code maxLocals ret :: tables_1)).before args0 about1 = true := by
  rw [allAtoms_all]
  show words1.all (fun c => c.before args0 about1) = true
  refine all_split ?_ w_codes
  rw [← List.take_append_drop 24 words1, List.all_append, w_t1, ← List.take_append_drop 24 (words1.drop 24), List.all_append, w_t2, ← List.take_append_drop 24 ((words1.drop 24).drop 24), List.all_append, w_t3, ← List.take_append_drop 24 (((words1.drop 24).drop 24).drop 24), List.all_append, w_t4, ← List.take_append_drop 24 ((((words1.drop 24).drop 24).drop 24).drop 24), List.all_append, w_t5, ← List.take_append_drop 24 (((((words1.drop 24).drop 24).drop 24).drop 24).drop 24), List.all_append, w_t6, ← List.take_append_drop 24 ((((((words1.drop 24).drop 24).drop 24).drop 24).drop 24).drop 24), List.all_append, w_t7, w_t8]
  rfl
set_option maxRecDepth 65536 in
theorem w_rest : rest_1_c.before args0 about1 = true := by decide +kernel
set_option maxRecDepth 65536 in
theorem w_case : (Jvm.Cond.and given_1 narrow_1).before args0 about1 = true := by decide +kernel
theorem w_applies : (headSpec (Jvm.Cond.code x code maxLocals ret :: tables_1) room_1).applies x e0.platform about1 = true :=
  (Spec.applies_iff w_frames).mpr ⟨w_running, w_runnable, w_alone, w_named, w_hears, w_ripe, w_room, w_tables⟩
theorem atStart : AtStart classFile x code maxLocals ret World_1 tables_1 room_1 Calls_1 rest_1 Pre_1 launch0 p0 e0 about1 theMethod args0 below0 :=
  ⟨lists_1, trivial, launch0.admits_env _ _ _, launch0.least_env, fairChoices_fair.cas, fairChoices_fair.clock, w_frames, w_args, w_heap, w_applies, trivial, w_rest, w_case⟩
end start1
theorem witness_1 : WitnessClaimed_1 := ⟨start1.p0, start1.e0, start1.about1, start1.theMethod, start1.args0, start1.below0, start1.atStart⟩
end Jvm.Pilot.@@N@@
