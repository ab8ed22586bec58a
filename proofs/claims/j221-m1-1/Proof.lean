import JvmDerived
import JvmDerived.Pilot.@@N@@Statement
import JvmDerived.Pilot.@@N@@Code
set_option linter.unusedVariables false
set_option linter.unusedSimpArgs false
/-! The walk's calculus (own text): W says: from any state that stands in this method with heap h (k cells, n slots made, the addresses in M still to be written), the frame (pc, L, S) runs to a good end. -/
namespace Jvm.Pilot.@@N@@.Wk
open Jvm Jvm.ClassFile Sem Op Lib Jvm.Free Jvm.Stand Jvm.LawKit Jvm.RoadKit Bundle Jvm.Free.SB Jvm.Free.SBG
/-! ### the intern table's texts, apart from what is still written -/
def SlM (M : List Addr) (U : State) (a : Addr) (units : Array UInt16) : Prop :=
  ∃ (q : SQ) (cS : ClassId), q.sa = a ∧ Sl q cS U ∧ (∃ kS : Class, U.vm.classes[cS]? = some kS ∧ kS.kind = .ordinary ∧ q.sC.slots.size = kS.instanceTypes.size) ∧ U.vm.findClass "[B" = some q.SA.cls ∧ q.SA.slots = stringBytes units ∧ q.sa ∉ M ∧ q.sd ∉ M
theorem SlM.mono {M M' : List Addr} {U : State} {a : Addr} {u : Array UInt16} (h : SlM M U a u) (hM : ∀ b ∈ M', b ∈ M ∨ U.heap.size ≤ b) : SlM M' U a u := by
  obtain ⟨q, cS, h1, h2, h3, h4, h5, h6, h7⟩ := h
  have l1 := (Array.getElem?_eq_some_iff.mp h2.1.1).1
  have l2 := (Array.getElem?_eq_some_iff.mp h2.1.2.2.2.2.2.2.2.2.2.1).1
  exact ⟨q, cS, h1, h2, h3, h4, h5, fun r => (hM _ r).elim h6 fun z => absurd l1 (Nat.not_lt.mpr z), fun r => (hM _ r).elim h7 fun z => absurd l2 (Nat.not_lt.mpr z)⟩
theorem SlM.move {M : List Addr} {U U' : State} {a : Addr} {u : Array UInt16} (h : SlM M U a u) (hal : U.vm.Alike U'.vm) (hk : ∀ (b : Addr) (c : Cell), U.heap[b]? = some c → b ∉ M → U'.heap[b]? = some c) : SlM M U' a u := by
  obtain ⟨q, cS, h1, h2, ⟨kS, k1, k2, k3⟩, h4, h5, h6, h7⟩ := h
  obtain ⟨kS', hk', ek⟩ := hal.2.2 _ _ k1
  exact ⟨q, cS, h1, h2.carry hal (hk _ _ h2.1.1 h6) (hk _ _ h2.1.2.2.2.2.2.2.2.2.2.1 h7), ⟨kS', hk', by rw [ek]; exact k2, by rw [ek]; exact k3⟩, by rw [hal.findClass]; exact h4, h5, h6, h7⟩
def IOk (Z : State) (M : List Addr) (U : State) : Prop := ∀ (units : Array UInt16) (a : Addr), units.all (· < 256) = true → U.vm.interned.find? (fun p => p.1 == units) = some (units, a) → Z.vm.interned.find? (fun p => p.1 == units) = some (units, a) ∨ SlM M U a units
/-- what every method finds and leaves: the tables warmed, the texts sound, the first heap as it was -/
def Bg (Z : State) (M : List Addr) (U : State) : Prop := Z.Warmed39 U.vm ∧ IOk Z M U ∧ Ext Z.heap U.heap ∧ (∀ b ∈ M, Z.heap.size ≤ b) ∧ ∀ b ∈ M, b < U.heap.size
def Kept (M : List Addr) (h h' : Heap) : Prop := h.size ≤ h'.size ∧ ∀ (b : Addr) (c : Cell), h[b]? = some c → b ∉ M → h'[b]? = some c
theorem Kept.refl (M : List Addr) (h : Heap) : Kept M h h := ⟨Nat.le_refl _, fun _ _ q _ => q⟩
theorem Kept.ext {M : List Addr} {h h' : Heap} (E : Ext h h') : Kept M h h' := ⟨E.1, fun b c q _ => E.2 b c q⟩
theorem Kept.keep {M ws : List Addr} {h h' : Heap} (K : Keep h h' ws) (hw : ∀ w ∈ ws, w ∈ M) : Kept M h h' := ⟨K.1, fun b c q r => K.2.1 b c q fun z => r (hw b z)⟩
theorem Kept.wr {M : List Addr} {h h' : Heap} {a : Addr} {sl : Nat} {v : Value} (W : Wr h h' a sl v) (ha : a ∈ M) : Kept M h h' := Kept.keep (Keep.of_wr W) (fun w hw => by cases List.mem_singleton.mp hw; exact ha)
theorem Bg.move {Z : State} {M : List Addr} {U U' : State} (b : Bg Z M U) (hW : Z.Warmed39 U'.vm) (hi : U'.vm.interned = U.vm.interned) (hk : Kept M U.heap U'.heap) : Bg Z M U' := by
  obtain ⟨b1, b2, b3, b4, b5⟩ := b
  have hal : U.vm.Alike U'.vm := b1.alike.symm.trans hW.alike
  refine ⟨hW, fun units a hl hf => ?_, ⟨Nat.le_trans b3.1 hk.1, fun x c q => hk.2 x c (b3.2 x c q) fun z => absurd (Array.getElem?_eq_some_iff.mp q).1 (Nat.not_lt.mpr (b4 x z))⟩, b4, fun x z => Nat.lt_of_lt_of_le (b5 x z) hk.1⟩
  rw [hi] at hf
  exact (b2 units a hl hf).imp id fun s => s.move hal hk.2
theorem Bg.shrink {Z : State} {M M' : List Addr} {U : State} (b : Bg Z M U) (hM : ∀ x ∈ M', x ∈ M) : Bg Z M' U :=
  ⟨b.1, fun units a hl hf => (b.2.1 units a hl hf).imp id fun s => s.mono fun x hx => Or.inl (hM x hx), b.2.2.1, fun x hx => b.2.2.2.1 x (hM x hx), fun x hx => b.2.2.2.2 x (hM x hx)⟩
/-- a new address may be written: it was not there when b held -/
theorem Bg.grow {Z : State} {M M' : List Addr} {U U' : State} (b : Bg Z M U) (hW : Z.Warmed39 U'.vm) (hi : U'.vm.interned = U.vm.interned) (hk : Kept M U.heap U'.heap) (hM : ∀ x ∈ M', x ∈ M ∨ (U.heap.size ≤ x ∧ x < U'.heap.size)) : Bg Z M' U' := by
  obtain ⟨b1, b2, b3, b4, b5⟩ := b
  have hal : U.vm.Alike U'.vm := b1.alike.symm.trans hW.alike
  refine ⟨hW, fun units a hl hf => ?_, ⟨Nat.le_trans b3.1 hk.1, fun x c q => hk.2 x c (b3.2 x c q) fun z => absurd (Array.getElem?_eq_some_iff.mp q).1 (Nat.not_lt.mpr (b4 x z))⟩, fun x z => (hM x z).elim (b4 x) fun q => Nat.le_trans b3.1 q.1, fun x z => (hM x z).elim (fun q => Nat.lt_of_lt_of_le (b5 x q) hk.1) fun q => q.2⟩
  rw [hi] at hf
  refine (b2 units a hl hf).imp id fun s => ?_
  have s' : SlM M' U a units := s.mono fun x hx => (hM x hx).imp id fun q => q.1
  obtain ⟨q, cS, h1, h2, ⟨kS, k1, k2, k3⟩, h4, h5, h6, h7⟩ := s
  obtain ⟨kS', hk', ek⟩ := hal.2.2 _ _ k1
  have l1 := (Array.getElem?_eq_some_iff.mp h2.1.1).1
  have l2 := (Array.getElem?_eq_some_iff.mp h2.1.2.2.2.2.2.2.2.2.2.1).1
  exact ⟨q, cS, h1, h2.carry hal (hk.2 _ _ h2.1.1 h6) (hk.2 _ _ h2.1.2.2.2.2.2.2.2.2.2.1 h7), ⟨kS', hk', by rw [ek]; exact k2, by rw [ek]; exact k3⟩, by rw [hal.findClass]; exact h4, h5, fun r => (hM _ r).elim h6 fun z => absurd l1 (Nat.not_lt.mpr z.1), fun r => (hM _ r).elim h7 fun z => absurd l2 (Nat.not_lt.mpr z.1)⟩
/-! ### the context of a walk -/
abbrev Cx : Type _ := Program × Launch × Env × Room × State × MethodId × Array Value × List Frame × Method × Code × State × Bool × List Addr × List Addr × Bool × (List Addr → Option Value → Heap → Prop)
abbrev Cx.p (B : Cx) : Program := B.1
abbrev Cx.l (B : Cx) : Launch := B.2.1
abbrev Cx.e (B : Cx) : Env := B.2.2.1
abbrev Cx.R (B : Cx) : Room := B.2.2.2.1
abbrev Cx.s (B : Cx) : State := B.2.2.2.2.1
abbrev Cx.m (B : Cx) : MethodId := B.2.2.2.2.2.1
abbrev Cx.args (B : Cx) : Array Value := B.2.2.2.2.2.2.1
abbrev Cx.below (B : Cx) : List Frame := B.2.2.2.2.2.2.2.1
abbrev Cx.meth (B : Cx) : Method := B.2.2.2.2.2.2.2.2.1
abbrev Cx.c (B : Cx) : Code := B.2.2.2.2.2.2.2.2.2.1
abbrev Cx.Z (B : Cx) : State := B.2.2.2.2.2.2.2.2.2.2.1
abbrev Cx.nar (B : Cx) : Bool := B.2.2.2.2.2.2.2.2.2.2.2.1
abbrev Cx.ws (B : Cx) : List Addr := B.2.2.2.2.2.2.2.2.2.2.2.2.1
abbrev Cx.Me (B : Cx) : List Addr := B.2.2.2.2.2.2.2.2.2.2.2.2.2.1
abbrev Cx.fr (B : Cx) : Bool := B.2.2.2.2.2.2.2.2.2.2.2.2.2.2.1
abbrev Cx.Q (B : Cx) : List Addr → Option Value → Heap → Prop := B.2.2.2.2.2.2.2.2.2.2.2.2.2.2.2
def refs (fr : Bool) (v : Option Value) : List Addr := match fr, v with
  | true, some (.ref a) => [a]
  | _, _ => []
/-- the plain posts: what is made and may still be written is the result alone (fr), or nothing -/
def OldQ (fr : Bool) (Q : Option Value → Heap → Prop) : List Addr → Option Value → Heap → Prop := fun N v h => N = refs fr v ∧ Q v h
/-- cl.1: no cell that stood at the method's start has been written; cl.2: String entries that are resolved -/
abbrev Cl : Type := Bool × List (String × Nat)
def Pos (B : Cx) (T : State) (h : Heap) (k n : Nat) (M : List Addr) (cl : Cl) : Prop :=
  ∃ (vm0 : Vm) (k0 : Nat) (locs : List Loc), Stand B.p B.l B.e B.R (B.s.setVm vm0) B.m B.args B.below B.meth B.c T locs k n ∧ B.s.Since vm0 k0 ∧ k0 ≤ T.heap.size ∧ (B.nar = true → B.s.WarmedH vm0) ∧
    (∀ y ∈ locs, y.base ∈ B.ws ∨ B.s.heap.size ≤ y.base) ∧ (cl.1 = true → ∀ y ∈ locs, B.s.heap.size ≤ y.base) ∧ (∀ e ∈ cl.2, ∃ a, Lit (B.s.setVm vm0) e.1 e.2 a) ∧ T.heap = h ∧ Bg B.Z M T
def Gd (B : Cx) (U : State) : Prop :=
  ∃ t o, Steps B.p.tables B.e B.below U t ∧ t.status = .running ∧ Ended t B.below o ∧ ∃ v L N, o = .returned v ∧ B.Q N v t.heap ∧ Keep B.s.heap t.heap B.ws ∧ Bg B.Z (N ++ B.Me) t ∧ (∀ y ∈ L, y.base ∈ B.ws ∨ B.s.heap.size ≤ y.base) ∧ ReturnedEndW B.s o t L B.R.cells B.R.slots ∧ (B.nar = true → B.s.WarmedH t.vm)
theorem Gd.step {B : Cx} {U U' : State} (st : ∀ t, Steps B.p.tables B.e B.below U' t → Steps B.p.tables B.e B.below U t) (g : Gd B U') : Gd B U := by
  obtain ⟨t, o, q, r⟩ := g
  exact ⟨t, o, st t q, r⟩
def W (B : Cx) (h : Heap) (k n : Nat) (M : List Addr) (cl : Cl) (pc : Nat) (L : Array Slot) (S : List Value) : Prop := ∀ T, Pos B T h k n M cl → Gd B (T.setTop (mkF B.m pc L S))
def Ok (B : Cx) (l : Launch) (Z : State) (nar : Bool) (own nm : String) (code : ByteArray) (ml : Nat) (ret : Option FieldType) (R : Room) (h0 : Heap) (ws : List Addr) (fr : Bool) (Q : List Addr → Option Value → Heap → Prop) (M : List Addr) : Prop :=
  B.p.tables.exec = Jvm.exec ∧ B.c.code = code ∧ B.c.maxLocals = ml ∧ B.s.vm.findClass own = some B.m.cls ∧ B.meth.name = nm ∧ B.meth.sig.returnType = ret ∧ B.meth.locks = false ∧ Z.Warmed39 B.s.vm ∧ B.l = l ∧ B.R = R ∧ B.Z = Z ∧ B.nar = nar ∧ B.ws = ws ∧ B.Me = M ∧ B.fr = fr ∧ B.Q = Q ∧ B.s.heap = h0
section Acc
variable {B : Cx} {l : Launch} {Z : State} {nar : Bool} {own nm : String} {code : ByteArray} {ml : Nat} {ret : Option FieldType} {R : Room} {h0 : Heap} {ws : List Addr} {fr : Bool} {Q : List Addr → Option Value → Heap → Prop} {Me : List Addr}
theorem Ok.x (ok : Ok B l Z nar own nm code ml ret R h0 ws fr Q Me) : B.p.tables.exec = Jvm.exec := ok.1
theorem Ok.by_ (ok : Ok B l Z nar own nm code ml ret R h0 ws fr Q Me) : B.c.code = code := ok.2.1
theorem Ok.ml_ (ok : Ok B l Z nar own nm code ml ret R h0 ws fr Q Me) : B.c.maxLocals = ml := ok.2.2.1
theorem Ok.own_ (ok : Ok B l Z nar own nm code ml ret R h0 ws fr Q Me) : B.s.vm.findClass own = some B.m.cls := ok.2.2.2.1
theorem Ok.nm_ (ok : Ok B l Z nar own nm code ml ret R h0 ws fr Q Me) : B.meth.name = nm := ok.2.2.2.2.1
theorem Ok.ret_ (ok : Ok B l Z nar own nm code ml ret R h0 ws fr Q Me) : B.meth.sig.returnType = ret := ok.2.2.2.2.2.1
theorem Ok.lk (ok : Ok B l Z nar own nm code ml ret R h0 ws fr Q Me) : B.meth.locks = false := ok.2.2.2.2.2.2.1
theorem Ok.zs (ok : Ok B l Z nar own nm code ml ret R h0 ws fr Q Me) : Z.Warmed39 B.s.vm := ok.2.2.2.2.2.2.2.1
theorem Ok.l_ (ok : Ok B l Z nar own nm code ml ret R h0 ws fr Q Me) : B.l = l := ok.2.2.2.2.2.2.2.2.1
theorem Ok.R_ (ok : Ok B l Z nar own nm code ml ret R h0 ws fr Q Me) : B.R = R := ok.2.2.2.2.2.2.2.2.2.1
theorem Ok.Z_ (ok : Ok B l Z nar own nm code ml ret R h0 ws fr Q Me) : B.Z = Z := ok.2.2.2.2.2.2.2.2.2.2.1
theorem Ok.nar_ (ok : Ok B l Z nar own nm code ml ret R h0 ws fr Q Me) : B.nar = nar := ok.2.2.2.2.2.2.2.2.2.2.2.1
theorem Ok.ws_ (ok : Ok B l Z nar own nm code ml ret R h0 ws fr Q Me) : B.ws = ws := ok.2.2.2.2.2.2.2.2.2.2.2.2.1
theorem Ok.Me_ (ok : Ok B l Z nar own nm code ml ret R h0 ws fr Q Me) : B.Me = Me := ok.2.2.2.2.2.2.2.2.2.2.2.2.2.1
theorem Ok.fr_ (ok : Ok B l Z nar own nm code ml ret R h0 ws fr Q Me) : B.fr = fr := ok.2.2.2.2.2.2.2.2.2.2.2.2.2.2.1
theorem Ok.Q_ (ok : Ok B l Z nar own nm code ml ret R h0 ws fr Q Me) : B.Q = Q := ok.2.2.2.2.2.2.2.2.2.2.2.2.2.2.2.1
theorem Ok.h_ (ok : Ok B l Z nar own nm code ml ret R h0 ws fr Q Me) : B.s.heap = h0 := ok.2.2.2.2.2.2.2.2.2.2.2.2.2.2.2.2
theorem Ok.zv (ok : Ok B l Z nar own nm code ml ret R h0 ws fr Q Me) {vm0 : Vm} {k0 : Nat} (hS : B.s.Since vm0 k0) : Z.Warmed39 (B.s.setVm vm0).vm := State.Warmed39.trans (t := B.s) ok.zs hS.1
theorem Ok.ownv (ok : Ok B l Z nar own nm code ml ret R h0 ws fr Q Me) {vm0 : Vm} {k0 : Nat} (hS : B.s.Since vm0 k0) : (B.s.setVm vm0).vm.findClass own = some B.m.cls := (hS.1.alike.findClass _ _).trans ok.own_
end Acc
/-- behind a step that leaves the start's tables narrow-warm -/
theorem Bg.next {p : Program} {l : Launch} {e : Env} {R : Room} {s : State} {m : MethodId} {args : Array Value} {below : List Frame} {meth : Method} {c : Code} {T T' Z : State} {locs locs' : List Loc} {k n k' n' : Nat} {M : List Addr}
    (bg : Bg Z M T) (hZ : Z.Warmed39 s.vm) (X : Stand p l e R s m args below meth c T locs k n) (X' : Stand p l e R s m args below meth c T' locs' k' n') (hk : Kept M T.heap T'.heap) : Bg Z M T' :=
  bg.move (wtrans hZ X'.warmed) ((X'.warmed.interned_eq).trans X.warmed.interned_eq.symm) hk
theorem Bg.nextN {p : Program} {l : Launch} {e : Env} {R : Room} {s : State} {m : MethodId} {args : Array Value} {below : List Frame} {meth : Method} {c : Code} {T T' Z : State} {locs locs' : List Loc} {k n k' n' : Nat} {M M' : List Addr}
    (bg : Bg Z M T) (hZ : Z.Warmed39 s.vm) (X : Stand p l e R s m args below meth c T locs k n) (X' : Stand p l e R s m args below meth c T' locs' k' n') (hk : Kept M T.heap T'.heap) (hM : ∀ x ∈ M', x ∈ M ∨ (T.heap.size ≤ x ∧ x < T'.heap.size)) : Bg Z M' T' :=
  bg.grow (wtrans hZ X'.warmed) ((X'.warmed.interned_eq).trans X.warmed.interned_eq.symm) hk hM
end Jvm.Pilot.@@N@@.Wk
namespace Jvm.Pilot.@@N@@.Wk
open Jvm Jvm.ClassFile Sem Op Lib Jvm.Free Jvm.Stand Jvm.LawKit Jvm.RoadKit Bundle
section Pure
variable {B : Cx} {l : Launch} {Z : State} {nar : Bool} {own nm : String} {code : ByteArray} {ml : Nat} {ret : Option FieldType} {R : Room} {h0 : Heap} {ws : List Addr} {fr : Bool} {Q : List Addr → Option Value → Heap → Prop} {Me : List Addr}
variable {h : Heap} {k n : Nat} {M : List Addr} {cl : Cl} {pc pc' : Nat} {L L' : Array Slot} {S S' : List Value}
/-- Java's (char) x -/
def c16 (x : Int32) : Int32 := x.toUInt32.toUInt16.toUInt32.toInt32
/-- Java's (byte) x -/
def b8 (x : Int32) : Int32 := x.toInt8.toInt32
theorem W.pure (st : ∀ (T target : State), At T B.m B.c B.below → Steps B.p.tables B.e B.below (T.setTop (mkF B.m pc' L' S')) target → Steps B.p.tables B.e B.below (T.setTop (mkF B.m pc L S)) target) (K : W B h k n M cl pc' L' S') : W B h k n M cl pc L S :=
  fun T P => Gd.step (fun t q => st T t (by obtain ⟨_, _, _, X, _⟩ := P; exact X.here) q) (K T P)
theorem W.aload (ok : Ok B l Z nar own nm code ml ret R h0 ws fr Q Me) {i : Nat} {v : Value} (hd : decode code pc = .ok (.aload i, 2)) (hp : pc + 2 = pc') (hl : L[i]? = some (.val v)) (hv : v.isRef = true) (K : W B h k n M cl pc' L (v :: S)) : W B h k n M cl pc L S := by
  subst hp; exact W.pure (fun T t hA q => XS.aload hA ok.x rfl (hb ok.by_ hd) hl hv q) K
theorem W.aloadN (ok : Ok B l Z nar own nm code ml ret R h0 ws fr Q Me) {i : Fin 4} {v : Value} (hd : decode code pc = .ok (.aload_n i, 1)) (hp : pc + 1 = pc') (hl : L[i.val]? = some (.val v)) (hv : v.isRef = true) (K : W B h k n M cl pc' L (v :: S)) : W B h k n M cl pc L S := by
  subst hp; exact W.pure (fun T t hA q => XS.aloadN hA ok.x rfl (hb ok.by_ hd) hl hv q) K
theorem W.iload (ok : Ok B l Z nar own nm code ml ret R h0 ws fr Q Me) {i : Nat} {v : Int32} (hd : decode code pc = .ok (.iload i, 2)) (hp : pc + 2 = pc') (hl : L[i]? = some (.val (.int v))) (K : W B h k n M cl pc' L (.int v :: S)) : W B h k n M cl pc L S := by
  subst hp; exact W.pure (fun T t hA q => XS.iload hA ok.x rfl (hb ok.by_ hd) hl q) K
theorem W.iloadN (ok : Ok B l Z nar own nm code ml ret R h0 ws fr Q Me) {i : Fin 4} {v : Int32} (hd : decode code pc = .ok (.iload_n i, 1)) (hp : pc + 1 = pc') (hl : L[i.val]? = some (.val (.int v))) (K : W B h k n M cl pc' L (.int v :: S)) : W B h k n M cl pc L S := by
  subst hp; exact W.pure (fun T t hA q => XS.iloadN hA ok.x rfl (hb ok.by_ hd) hl q) K
theorem W.lload (ok : Ok B l Z nar own nm code ml ret R h0 ws fr Q Me) {i : Nat} {v : Int64} (hd : decode code pc = .ok (.lload i, 2)) (hp : pc + 2 = pc') (hl : L[i]? = some (.val (.long v))) (K : W B h k n M cl pc' L (.long v :: S)) : W B h k n M cl pc L S := by
  subst hp; exact W.pure (fun T t hA q => XT.lload hA ok.x rfl (hb ok.by_ hd) hl q) K
theorem W.lloadN (ok : Ok B l Z nar own nm code ml ret R h0 ws fr Q Me) {i : Fin 4} {v : Int64} (hd : decode code pc = .ok (.lload_n i, 1)) (hp : pc + 1 = pc') (hl : L[i.val]? = some (.val (.long v))) (K : W B h k n M cl pc' L (.long v :: S)) : W B h k n M cl pc L S := by
  subst hp; exact W.pure (fun T t hA q => XT.lloadN hA ok.x rfl (hb ok.by_ hd) hl q) K
theorem W.iconst (ok : Ok B l Z nar own nm code ml ret R h0 ws fr Q Me) {i : Int} (v : Int32) (hd : decode code pc = .ok (.iconst i, 1)) (hp : pc + 1 = pc') (hv : Int32.ofInt i = v) (K : W B h k n M cl pc' L (.int v :: S)) : W B h k n M cl pc L S := by
  subst hp; exact W.pure (fun T t hA q => XT.iconstV hA ok.x rfl v (hb ok.by_ hd) hv q) K
theorem W.bipush (ok : Ok B l Z nar own nm code ml ret R h0 ws fr Q Me) {i : Int} (v : Int32) (hd : decode code pc = .ok (.bipush i, 2)) (hp : pc + 2 = pc') (hv : (Int8.ofInt i).toInt32 = v) (K : W B h k n M cl pc' L (.int v :: S)) : W B h k n M cl pc L S := by
  subst hp; exact W.pure (fun T t hA q => XT.bipushV hA ok.x rfl v (hb ok.by_ hd) hv q) K
theorem W.sipush (ok : Ok B l Z nar own nm code ml ret R h0 ws fr Q Me) {i : Int} (v : Int32) (hd : decode code pc = .ok (.sipush i, 3)) (hp : pc + 3 = pc') (hv : (Int16.ofInt i).toInt32 = v) (K : W B h k n M cl pc' L (.int v :: S)) : W B h k n M cl pc L S := by
  subst hp; exact W.pure (fun T t hA q => XT.sipushV hA ok.x rfl v (hb ok.by_ hd) hv q) K
theorem W.lconst (ok : Ok B l Z nar own nm code ml ret R h0 ws fr Q Me) {i : Fin 2} (v : Int64) (hd : decode code pc = .ok (.lconst i, 1)) (hp : pc + 1 = pc') (hv : Int64.ofNat i = v) (K : W B h k n M cl pc' L (.long v :: S)) : W B h k n M cl pc L S := by
  subst hp; exact W.pure (fun T t hA q => XT.lconstV hA ok.x rfl v (hb ok.by_ hd) hv q) K
theorem W.aconstNull (ok : Ok B l Z nar own nm code ml ret R h0 ws fr Q Me)  (hd : decode code pc = .ok (.aconst_null, 1)) (hp : pc + 1 = pc')  (K : W B h k n M cl pc' L (.null :: S)) : W B h k n M cl pc L S := by
  subst hp; exact W.pure (fun T t hA q => XS.aconstNull hA ok.x rfl (hb ok.by_ hd) q) K
theorem W.iadd (ok : Ok B l Z nar own nm code ml ret R h0 ws fr Q Me) {x y : Int32} (hd : decode code pc = .ok (.iadd, 1)) (hp : pc + 1 = pc')  (K : W B h k n M cl pc' L (.int (x + y) :: S)) : W B h k n M cl pc L (.int y :: .int x :: S) := by
  subst hp; exact W.pure (fun T t hA q => XS.iadd hA ok.x rfl (hb ok.by_ hd) rfl q) K
theorem W.isub (ok : Ok B l Z nar own nm code ml ret R h0 ws fr Q Me) {x y : Int32} (hd : decode code pc = .ok (.isub, 1)) (hp : pc + 1 = pc')  (K : W B h k n M cl pc' L (.int (x - y) :: S)) : W B h k n M cl pc L (.int y :: .int x :: S) := by
  subst hp; exact W.pure (fun T t hA q => XS.isub hA ok.x rfl (hb ok.by_ hd) rfl q) K
theorem W.iand (ok : Ok B l Z nar own nm code ml ret R h0 ws fr Q Me) {x y : Int32} (hd : decode code pc = .ok (.iand, 1)) (hp : pc + 1 = pc')  (K : W B h k n M cl pc' L (.int (x &&& y) :: S)) : W B h k n M cl pc L (.int y :: .int x :: S) := by
  subst hp; exact W.pure (fun T t hA q => XS.iand hA ok.x rfl (hb ok.by_ hd) rfl q) K
theorem W.imul (ok : Ok B l Z nar own nm code ml ret R h0 ws fr Q Me) {x y : Int32} (hd : decode code pc = .ok (.imul, 1)) (hp : pc + 1 = pc')  (K : W B h k n M cl pc' L (.int (x * y) :: S)) : W B h k n M cl pc L (.int y :: .int x :: S) := by
  subst hp; exact W.pure (fun T t hA q => XS.imul hA ok.x rfl (hb ok.by_ hd) rfl q) K
theorem W.ior (ok : Ok B l Z nar own nm code ml ret R h0 ws fr Q Me) {x y : Int32} (hd : decode code pc = .ok (.ior, 1)) (hp : pc + 1 = pc')  (K : W B h k n M cl pc' L (.int (x ||| y) :: S)) : W B h k n M cl pc L (.int y :: .int x :: S) := by
  subst hp; exact W.pure (fun T t hA q => XT.ior hA ok.x rfl (hb ok.by_ hd) rfl q) K
theorem W.ixor (ok : Ok B l Z nar own nm code ml ret R h0 ws fr Q Me) {x y : Int32} (hd : decode code pc = .ok (.ixor, 1)) (hp : pc + 1 = pc')  (K : W B h k n M cl pc' L (.int (x ^^^ y) :: S)) : W B h k n M cl pc L (.int y :: .int x :: S) := by
  subst hp; exact W.pure (fun T t hA q => XT.ixor hA ok.x rfl (hb ok.by_ hd) rfl q) K
theorem W.ishl (ok : Ok B l Z nar own nm code ml ret R h0 ws fr Q Me) {x y : Int32} (hd : decode code pc = .ok (.ishl, 1)) (hp : pc + 1 = pc')  (K : W B h k n M cl pc' L (.int (x <<< (y &&& 31)) :: S)) : W B h k n M cl pc L (.int y :: .int x :: S) := by
  subst hp; exact W.pure (fun T t hA q => XT.ishl hA ok.x rfl (hb ok.by_ hd) rfl q) K
theorem W.ishr (ok : Ok B l Z nar own nm code ml ret R h0 ws fr Q Me) {x y : Int32} (hd : decode code pc = .ok (.ishr, 1)) (hp : pc + 1 = pc')  (K : W B h k n M cl pc' L (.int (x >>> (y &&& 31)) :: S)) : W B h k n M cl pc L (.int y :: .int x :: S) := by
  subst hp; exact W.pure (fun T t hA q => XT.ishr hA ok.x rfl (hb ok.by_ hd) rfl q) K
theorem W.iushr (ok : Ok B l Z nar own nm code ml ret R h0 ws fr Q Me) {x y : Int32} (hd : decode code pc = .ok (.iushr, 1)) (hp : pc + 1 = pc')  (K : W B h k n M cl pc' L (.int (XT.ushr x y) :: S)) : W B h k n M cl pc L (.int y :: .int x :: S) := by
  subst hp; exact W.pure (fun T t hA q => XT.iushr hA ok.x rfl (hb ok.by_ hd) rfl q) K
theorem W.irem (ok : Ok B l Z nar own nm code ml ret R h0 ws fr Q Me) {x y : Int32} (hd : decode code pc = .ok (.irem, 1)) (hp : pc + 1 = pc') (hy : y ≠ 0) (K : W B h k n M cl pc' L (.int (x % y) :: S)) : W B h k n M cl pc L (.int y :: .int x :: S) := by
  subst hp; exact W.pure (fun T t hA q => XS.irem hA ok.x rfl (hb ok.by_ hd) rfl hy (by rw [show x - x / y * y = x % y from irem_eq_mod x y]; exact q)) K
theorem W.idiv (ok : Ok B l Z nar own nm code ml ret R h0 ws fr Q Me) {x y : Int32} (hd : decode code pc = .ok (.idiv, 1)) (hp : pc + 1 = pc') (hy : y ≠ 0) (K : W B h k n M cl pc' L (.int (x / y) :: S)) : W B h k n M cl pc L (.int y :: .int x :: S) := by
  subst hp; exact W.pure (fun T t hA q => XS.idiv hA ok.x rfl (hb ok.by_ hd) rfl hy q) K
theorem W.ineg (ok : Ok B l Z nar own nm code ml ret R h0 ws fr Q Me) {x : Int32} (hd : decode code pc = .ok (.ineg, 1)) (hp : pc + 1 = pc')  (K : W B h k n M cl pc' L (.int (-x) :: S)) : W B h k n M cl pc L (.int x :: S) := by
  subst hp; exact W.pure (fun T t hA q => XS.ineg hA ok.x rfl (hb ok.by_ hd) rfl q) K
theorem W.land (ok : Ok B l Z nar own nm code ml ret R h0 ws fr Q Me) {x y : Int64} (hd : decode code pc = .ok (.land, 1)) (hp : pc + 1 = pc')  (K : W B h k n M cl pc' L (.long (x &&& y) :: S)) : W B h k n M cl pc L (.long y :: .long x :: S) := by
  subst hp; exact W.pure (fun T t hA q => XT.land hA ok.x rfl (hb ok.by_ hd) rfl q) K
theorem W.lor (ok : Ok B l Z nar own nm code ml ret R h0 ws fr Q Me) {x y : Int64} (hd : decode code pc = .ok (.lor, 1)) (hp : pc + 1 = pc')  (K : W B h k n M cl pc' L (.long (x ||| y) :: S)) : W B h k n M cl pc L (.long y :: .long x :: S) := by
  subst hp; exact W.pure (fun T t hA q => XT.lor hA ok.x rfl (hb ok.by_ hd) rfl q) K
theorem W.lxor (ok : Ok B l Z nar own nm code ml ret R h0 ws fr Q Me) {x y : Int64} (hd : decode code pc = .ok (.lxor, 1)) (hp : pc + 1 = pc')  (K : W B h k n M cl pc' L (.long (x ^^^ y) :: S)) : W B h k n M cl pc L (.long y :: .long x :: S) := by
  subst hp; exact W.pure (fun T t hA q => XT.lxor hA ok.x rfl (hb ok.by_ hd) rfl q) K
theorem W.ladd (ok : Ok B l Z nar own nm code ml ret R h0 ws fr Q Me) {x y : Int64} (hd : decode code pc = .ok (.ladd, 1)) (hp : pc + 1 = pc')  (K : W B h k n M cl pc' L (.long (x + y) :: S)) : W B h k n M cl pc L (.long y :: .long x :: S) := by
  subst hp; exact W.pure (fun T t hA q => XT.ladd hA ok.x rfl (hb ok.by_ hd) rfl q) K
theorem W.lsub (ok : Ok B l Z nar own nm code ml ret R h0 ws fr Q Me) {x y : Int64} (hd : decode code pc = .ok (.lsub, 1)) (hp : pc + 1 = pc')  (K : W B h k n M cl pc' L (.long (x - y) :: S)) : W B h k n M cl pc L (.long y :: .long x :: S) := by
  subst hp; exact W.pure (fun T t hA q => XT.lsub hA ok.x rfl (hb ok.by_ hd) rfl q) K
theorem W.lmul (ok : Ok B l Z nar own nm code ml ret R h0 ws fr Q Me) {x y : Int64} (hd : decode code pc = .ok (.lmul, 1)) (hp : pc + 1 = pc')  (K : W B h k n M cl pc' L (.long (x * y) :: S)) : W B h k n M cl pc L (.long y :: .long x :: S) := by
  subst hp; exact W.pure (fun T t hA q => XT.lmul hA ok.x rfl (hb ok.by_ hd) rfl q) K
theorem W.lushr (ok : Ok B l Z nar own nm code ml ret R h0 ws fr Q Me) {x : Int64} {y : Int32} (hd : decode code pc = .ok (.lushr, 1)) (hp : pc + 1 = pc')  (K : W B h k n M cl pc' L (.long (XT.ushrL x y) :: S)) : W B h k n M cl pc L (.int y :: .long x :: S) := by
  subst hp; exact W.pure (fun T t hA q => XT.lushr hA ok.x rfl (hb ok.by_ hd) rfl q) K
theorem W.lshr (ok : Ok B l Z nar own nm code ml ret R h0 ws fr Q Me) {x : Int64} {y : Int32} (hd : decode code pc = .ok (.lshr, 1)) (hp : pc + 1 = pc')  (K : W B h k n M cl pc' L (.long (x >>> (y.toInt64 &&& 63)) :: S)) : W B h k n M cl pc L (.int y :: .long x :: S) := by
  subst hp; exact W.pure (fun T t hA q => XT.lshr hA ok.x rfl (hb ok.by_ hd) rfl q) K
theorem W.lshl (ok : Ok B l Z nar own nm code ml ret R h0 ws fr Q Me) {x : Int64} {y : Int32} (hd : decode code pc = .ok (.lshl, 1)) (hp : pc + 1 = pc')  (K : W B h k n M cl pc' L (.long (x <<< (y.toInt64 &&& 63)) :: S)) : W B h k n M cl pc L (.int y :: .long x :: S) := by
  subst hp; exact W.pure (fun T t hA q => XT.lshl hA ok.x rfl (hb ok.by_ hd) rfl q) K
theorem W.i2l (ok : Ok B l Z nar own nm code ml ret R h0 ws fr Q Me) {x : Int32} (hd : decode code pc = .ok (.i2l, 1)) (hp : pc + 1 = pc')  (K : W B h k n M cl pc' L (.long x.toInt64 :: S)) : W B h k n M cl pc L (.int x :: S) := by
  subst hp; exact W.pure (fun T t hA q => XT.i2l hA ok.x rfl (hb ok.by_ hd) rfl q) K
theorem W.l2i (ok : Ok B l Z nar own nm code ml ret R h0 ws fr Q Me) {x : Int64} (hd : decode code pc = .ok (.l2i, 1)) (hp : pc + 1 = pc')  (K : W B h k n M cl pc' L (.int x.toInt32 :: S)) : W B h k n M cl pc L (.long x :: S) := by
  subst hp; exact W.pure (fun T t hA q => XT.l2i hA ok.x rfl (hb ok.by_ hd) rfl q) K
theorem W.i2b (ok : Ok B l Z nar own nm code ml ret R h0 ws fr Q Me) {x : Int32} (hd : decode code pc = .ok (.i2b, 1)) (hp : pc + 1 = pc')  (K : W B h k n M cl pc' L (.int (b8 x) :: S)) : W B h k n M cl pc L (.int x :: S) := by
  subst hp; exact W.pure (fun T t hA q => XT.i2b hA ok.x rfl (hb ok.by_ hd) rfl q) K
theorem W.i2c (ok : Ok B l Z nar own nm code ml ret R h0 ws fr Q Me) {x : Int32} (hd : decode code pc = .ok (.i2c, 1)) (hp : pc + 1 = pc')  (K : W B h k n M cl pc' L (.int (c16 x) :: S)) : W B h k n M cl pc L (.int x :: S) := by
  subst hp; exact W.pure (fun T t hA q => XT.i2c hA ok.x rfl (hb ok.by_ hd) rfl q) K
theorem W.dup (ok : Ok B l Z nar own nm code ml ret R h0 ws fr Q Me) {x : Value} (hd : decode code pc = .ok (.dup, 1)) (hp : pc + 1 = pc') (hc : x.category = 1) (K : W B h k n M cl pc' L (x :: x :: S)) : W B h k n M cl pc L (x :: S) := by
  subst hp; exact W.pure (fun T t hA q => XS.dup hA ok.x rfl (hb ok.by_ hd) rfl hc q) K
theorem W.dup2 (ok : Ok B l Z nar own nm code ml ret R h0 ws fr Q Me) {x y : Value} (hd : decode code pc = .ok (.dup2, 1)) (hp : pc + 1 = pc') (hc : x.category = 1) (hc' : y.category = 1) (K : W B h k n M cl pc' L (x :: y :: x :: y :: S)) : W B h k n M cl pc L (x :: y :: S) := by
  subst hp; exact W.pure (fun T t hA q => XT.dup2 hA ok.x rfl (hb ok.by_ hd) rfl hc hc' q) K
theorem W.dupX1 (ok : Ok B l Z nar own nm code ml ret R h0 ws fr Q Me) {x y : Value} (hd : decode code pc = .ok (.dup_x1, 1)) (hp : pc + 1 = pc') (hc : x.category = 1) (hc' : y.category = 1) (K : W B h k n M cl pc' L (x :: y :: x :: S)) : W B h k n M cl pc L (x :: y :: S) := by
  subst hp; exact W.pure (fun T t hA q => XT.dupX1 hA ok.x rfl (hb ok.by_ hd) rfl hc hc' q) K
theorem W.pop1 (ok : Ok B l Z nar own nm code ml ret R h0 ws fr Q Me) {x : Value} (hd : decode code pc = .ok (.pop, 1)) (hp : pc + 1 = pc') (hc : x.category = 1) (K : W B h k n M cl pc' L S) : W B h k n M cl pc L (x :: S) := by
  subst hp; exact W.pure (fun T t hA q => XT.pop hA ok.x rfl (hb ok.by_ hd) rfl hc q) K
theorem W.istore (ok : Ok B l Z nar own nm code ml ret R h0 ws fr Q Me) {i : Nat} {v : Int32} (hd : decode code pc = .ok (.istore i, 2)) (hp : pc + 2 = pc') (hl : storeLocals L i (.int v) = some L') (K : W B h k n M cl pc' L' S) : W B h k n M cl pc L (.int v :: S) := by
  subst hp; exact W.pure (fun T t hA q => XS.istore hA ok.x rfl (hb ok.by_ hd) rfl hl q) K
theorem W.istoreN (ok : Ok B l Z nar own nm code ml ret R h0 ws fr Q Me) {i : Fin 4} {v : Int32} (hd : decode code pc = .ok (.istore_n i, 1)) (hp : pc + 1 = pc') (hl : storeLocals L i.val (.int v) = some L') (K : W B h k n M cl pc' L' S) : W B h k n M cl pc L (.int v :: S) := by
  subst hp; exact W.pure (fun T t hA q => XS.istoreN hA ok.x rfl (hb ok.by_ hd) rfl hl q) K
theorem W.astore (ok : Ok B l Z nar own nm code ml ret R h0 ws fr Q Me) {i : Nat} {v : Value} (hd : decode code pc = .ok (.astore i, 2)) (hp : pc + 2 = pc') (hv : v.isRef = true) (hl : storeLocals L i v = some L') (K : W B h k n M cl pc' L' S) : W B h k n M cl pc L (v :: S) := by
  subst hp; exact W.pure (fun T t hA q => XS.astore hA ok.x rfl (hb ok.by_ hd) rfl hv hl q) K
theorem W.astoreN (ok : Ok B l Z nar own nm code ml ret R h0 ws fr Q Me) {i : Fin 4} {v : Value} (hd : decode code pc = .ok (.astore_n i, 1)) (hp : pc + 1 = pc') (hv : v.isRef = true) (hl : storeLocals L i.val v = some L') (K : W B h k n M cl pc' L' S) : W B h k n M cl pc L (v :: S) := by
  subst hp; exact W.pure (fun T t hA q => XS.astoreN hA ok.x rfl (hb ok.by_ hd) rfl hv hl q) K
theorem W.lstore (ok : Ok B l Z nar own nm code ml ret R h0 ws fr Q Me) {i : Nat} {v : Int64} (hd : decode code pc = .ok (.lstore i, 2)) (hp : pc + 2 = pc') (hl : storeLocals L i (.long v) = some L') (K : W B h k n M cl pc' L' S) : W B h k n M cl pc L (.long v :: S) := by
  subst hp; exact W.pure (fun T t hA q => XT.lstore hA ok.x rfl (hb ok.by_ hd) rfl hl q) K
theorem W.lstoreN (ok : Ok B l Z nar own nm code ml ret R h0 ws fr Q Me) {i : Fin 4} {v : Int64} (hd : decode code pc = .ok (.lstore_n i, 1)) (hp : pc + 1 = pc') (hl : storeLocals L i.val (.long v) = some L') (K : W B h k n M cl pc' L' S) : W B h k n M cl pc L (.long v :: S) := by
  subst hp; exact W.pure (fun T t hA q => XT.lstoreN hA ok.x rfl (hb ok.by_ hd) rfl hl q) K
theorem W.astoreS (ok : Ok B l Z nar own nm code ml ret R h0 ws fr Q Me) {i : Nat} {v : Value} {o : Slot} (hd : decode code pc = .ok (.astore i, 2)) (hp : pc + 2 = pc') (hv : v.isRef = true) (hl : L[i]? = some o) (ho : One o) (e : L.setIfInBounds i (.val v) = L') (K : W B h k n M cl pc' L' S) : W B h k n M cl pc L (v :: S) := by
  subst hp; exact W.pure (fun T t hA q => XS.astore hA ok.x rfl (hb ok.by_ hd) rfl hv ((XS.store1 hl ho (XT.cat1 hv)).trans (congrArg some e)) q) K
theorem W.astoreNS (ok : Ok B l Z nar own nm code ml ret R h0 ws fr Q Me) {i : Fin 4} {v : Value} {o : Slot} (hd : decode code pc = .ok (.astore_n i, 1)) (hp : pc + 1 = pc') (hv : v.isRef = true) (hl : L[i.val]? = some o) (ho : One o) (e : L.setIfInBounds i.val (.val v) = L') (K : W B h k n M cl pc' L' S) : W B h k n M cl pc L (v :: S) := by
  subst hp; exact W.pure (fun T t hA q => XS.astoreN hA ok.x rfl (hb ok.by_ hd) rfl hv ((XS.store1 hl ho (XT.cat1 hv)).trans (congrArg some e)) q) K
theorem W.istoreS (ok : Ok B l Z nar own nm code ml ret R h0 ws fr Q Me) {i : Nat} {v : Int32} {o : Slot} (hd : decode code pc = .ok (.istore i, 2)) (hp : pc + 2 = pc') (hl : L[i]? = some o) (ho : One o) (e : L.setIfInBounds i (.val (.int v)) = L') (K : W B h k n M cl pc' L' S) : W B h k n M cl pc L (.int v :: S) := by
  subst hp; exact W.pure (fun T t hA q => XS.istore hA ok.x rfl (hb ok.by_ hd) rfl ((XS.store1 hl ho rfl).trans (congrArg some e)) q) K
theorem W.istoreNS (ok : Ok B l Z nar own nm code ml ret R h0 ws fr Q Me) {i : Fin 4} {v : Int32} {o : Slot} (hd : decode code pc = .ok (.istore_n i, 1)) (hp : pc + 1 = pc') (hl : L[i.val]? = some o) (ho : One o) (e : L.setIfInBounds i.val (.val (.int v)) = L') (K : W B h k n M cl pc' L' S) : W B h k n M cl pc L (.int v :: S) := by
  subst hp; exact W.pure (fun T t hA q => XS.istoreN hA ok.x rfl (hb ok.by_ hd) rfl ((XS.store1 hl ho rfl).trans (congrArg some e)) q) K
theorem W.iinc (ok : Ok B l Z nar own nm code ml ret R h0 ws fr Q Me) {i : Nat} {cst : Int} {x : Int32} (v : Int32) (hd : decode code pc = .ok (.iinc i cst, 3)) (hp : pc + 3 = pc') (hv : Int32.ofInt cst = v) (hl : L[i]? = some (.val (.int x))) (hl' : storeLocals L i (.int (x + v)) = some L') (K : W B h k n M cl pc' L' S) : W B h k n M cl pc L S := by
  subst hp; exact W.pure (fun T t hA q => XT.iincV hA ok.x rfl v (hb ok.by_ hd) hv hl hl' q) K
theorem W.goto (ok : Ok B l Z nar own nm code ml ret R h0 ws fr Q Me) {o : Int} (hd : decode code pc = .ok (.goto o, 3)) (ho : 0 ≤ (pc : Int) + o) (hp : ((pc : Int) + o).toNat = pc') (K : W B h k n M cl pc' L S) : W B h k n M cl pc L S :=
  W.pure (fun T t hA q => XS.goto hA ok.x rfl (pc0 := pc) rfl (hb ok.by_ hd) ho hp q) K
theorem W.ifeq (ok : Ok B l Z nar own nm code ml ret R h0 ws fr Q Me) {x : Int32} {o : Int} {pcY pcN : Nat} (hd : decode code pc = .ok (.ifCond .eq o, 3)) (hp : pc + 3 = pcN) (ho : 0 ≤ (pc : Int) + o) (hj : ((pc : Int) + o).toNat = pcY) (KT : x = 0 → W B h k n M cl pcY L S) (KF : ¬ x = 0 → W B h k n M cl pcN L S) : W B h k n M cl pc L (.int x :: S) := by
  subst hp; by_cases c : x = 0
  · exact W.pure (fun T t hA q => XS.ifYes hA ok.x rfl (pc0 := pc) rfl (hb ok.by_ hd) rfl (XT.i0_eq_t c) ho hj q) (KT c)
  · exact W.pure (fun T t hA q => XS.ifNo hA ok.x rfl (hb ok.by_ hd) rfl (XT.i0_eq_f c) q) (KF c)
theorem W.ifne (ok : Ok B l Z nar own nm code ml ret R h0 ws fr Q Me) {x : Int32} {o : Int} {pcY pcN : Nat} (hd : decode code pc = .ok (.ifCond .ne o, 3)) (hp : pc + 3 = pcN) (ho : 0 ≤ (pc : Int) + o) (hj : ((pc : Int) + o).toNat = pcY) (KT : x = 0 → W B h k n M cl pcN L S) (KF : ¬ x = 0 → W B h k n M cl pcY L S) : W B h k n M cl pc L (.int x :: S) := by
  subst hp; by_cases c : x = 0
  · exact W.pure (fun T t hA q => XS.ifNo hA ok.x rfl (hb ok.by_ hd) rfl (XT.i0_ne_f c) q) (KT c)
  · exact W.pure (fun T t hA q => XS.ifYes hA ok.x rfl (pc0 := pc) rfl (hb ok.by_ hd) rfl (XT.i0_ne_t c) ho hj q) (KF c)
theorem W.iflt (ok : Ok B l Z nar own nm code ml ret R h0 ws fr Q Me) {x : Int32} {o : Int} {pcY pcN : Nat} (hd : decode code pc = .ok (.ifCond .lt o, 3)) (hp : pc + 3 = pcN) (ho : 0 ≤ (pc : Int) + o) (hj : ((pc : Int) + o).toNat = pcY) (KT : x < 0 → W B h k n M cl pcY L S) (KF : ¬ x < 0 → W B h k n M cl pcN L S) : W B h k n M cl pc L (.int x :: S) := by
  subst hp; by_cases c : x < 0
  · exact W.pure (fun T t hA q => XS.ifYes hA ok.x rfl (pc0 := pc) rfl (hb ok.by_ hd) rfl (XT.i0_lt_t c) ho hj q) (KT c)
  · exact W.pure (fun T t hA q => XS.ifNo hA ok.x rfl (hb ok.by_ hd) rfl (XT.i0_lt_f c) q) (KF c)
theorem W.ifge (ok : Ok B l Z nar own nm code ml ret R h0 ws fr Q Me) {x : Int32} {o : Int} {pcY pcN : Nat} (hd : decode code pc = .ok (.ifCond .ge o, 3)) (hp : pc + 3 = pcN) (ho : 0 ≤ (pc : Int) + o) (hj : ((pc : Int) + o).toNat = pcY) (KT : x < 0 → W B h k n M cl pcN L S) (KF : ¬ x < 0 → W B h k n M cl pcY L S) : W B h k n M cl pc L (.int x :: S) := by
  subst hp; by_cases c : x < 0
  · exact W.pure (fun T t hA q => XS.ifNo hA ok.x rfl (hb ok.by_ hd) rfl (XT.i0_ge_f c) q) (KT c)
  · exact W.pure (fun T t hA q => XS.ifYes hA ok.x rfl (pc0 := pc) rfl (hb ok.by_ hd) rfl (XT.i0_ge_t c) ho hj q) (KF c)
theorem W.ifgt (ok : Ok B l Z nar own nm code ml ret R h0 ws fr Q Me) {x : Int32} {o : Int} {pcY pcN : Nat} (hd : decode code pc = .ok (.ifCond .gt o, 3)) (hp : pc + 3 = pcN) (ho : 0 ≤ (pc : Int) + o) (hj : ((pc : Int) + o).toNat = pcY) (KT : 0 < x → W B h k n M cl pcY L S) (KF : ¬ 0 < x → W B h k n M cl pcN L S) : W B h k n M cl pc L (.int x :: S) := by
  subst hp; by_cases c : 0 < x
  · exact W.pure (fun T t hA q => XS.ifYes hA ok.x rfl (pc0 := pc) rfl (hb ok.by_ hd) rfl (XT.i0_gt_t c) ho hj q) (KT c)
  · exact W.pure (fun T t hA q => XS.ifNo hA ok.x rfl (hb ok.by_ hd) rfl (XT.i0_gt_f c) q) (KF c)
theorem W.ifle (ok : Ok B l Z nar own nm code ml ret R h0 ws fr Q Me) {x : Int32} {o : Int} {pcY pcN : Nat} (hd : decode code pc = .ok (.ifCond .le o, 3)) (hp : pc + 3 = pcN) (ho : 0 ≤ (pc : Int) + o) (hj : ((pc : Int) + o).toNat = pcY) (KT : 0 < x → W B h k n M cl pcN L S) (KF : ¬ 0 < x → W B h k n M cl pcY L S) : W B h k n M cl pc L (.int x :: S) := by
  subst hp; by_cases c : 0 < x
  · exact W.pure (fun T t hA q => XS.ifNo hA ok.x rfl (hb ok.by_ hd) rfl (XT.i0_le_f c) q) (KT c)
  · exact W.pure (fun T t hA q => XS.ifYes hA ok.x rfl (pc0 := pc) rfl (hb ok.by_ hd) rfl (XT.i0_le_t c) ho hj q) (KF c)
theorem W.icmpeq (ok : Ok B l Z nar own nm code ml ret R h0 ws fr Q Me) {x y : Int32} {o : Int} {pcY pcN : Nat} (hd : decode code pc = .ok (.if_icmp .eq o, 3)) (hp : pc + 3 = pcN) (ho : 0 ≤ (pc : Int) + o) (hj : ((pc : Int) + o).toNat = pcY) (KT : x = y → W B h k n M cl pcY L S) (KF : ¬ x = y → W B h k n M cl pcN L S) : W B h k n M cl pc L (.int y :: .int x :: S) := by
  subst hp; by_cases c : x = y
  · exact W.pure (fun T t hA q => XS.icmpYes hA ok.x rfl (pc0 := pc) rfl (hb ok.by_ hd) rfl (XT.ii_eq_t c) ho hj q) (KT c)
  · exact W.pure (fun T t hA q => XS.icmpNo hA ok.x rfl (hb ok.by_ hd) rfl (XT.ii_eq_f c) q) (KF c)
theorem W.icmpne (ok : Ok B l Z nar own nm code ml ret R h0 ws fr Q Me) {x y : Int32} {o : Int} {pcY pcN : Nat} (hd : decode code pc = .ok (.if_icmp .ne o, 3)) (hp : pc + 3 = pcN) (ho : 0 ≤ (pc : Int) + o) (hj : ((pc : Int) + o).toNat = pcY) (KT : x = y → W B h k n M cl pcN L S) (KF : ¬ x = y → W B h k n M cl pcY L S) : W B h k n M cl pc L (.int y :: .int x :: S) := by
  subst hp; by_cases c : x = y
  · exact W.pure (fun T t hA q => XS.icmpNo hA ok.x rfl (hb ok.by_ hd) rfl (XT.ii_ne_f c) q) (KT c)
  · exact W.pure (fun T t hA q => XS.icmpYes hA ok.x rfl (pc0 := pc) rfl (hb ok.by_ hd) rfl (XT.ii_ne_t c) ho hj q) (KF c)
theorem W.icmplt (ok : Ok B l Z nar own nm code ml ret R h0 ws fr Q Me) {x y : Int32} {o : Int} {pcY pcN : Nat} (hd : decode code pc = .ok (.if_icmp .lt o, 3)) (hp : pc + 3 = pcN) (ho : 0 ≤ (pc : Int) + o) (hj : ((pc : Int) + o).toNat = pcY) (KT : x < y → W B h k n M cl pcY L S) (KF : ¬ x < y → W B h k n M cl pcN L S) : W B h k n M cl pc L (.int y :: .int x :: S) := by
  subst hp; by_cases c : x < y
  · exact W.pure (fun T t hA q => XS.icmpYes hA ok.x rfl (pc0 := pc) rfl (hb ok.by_ hd) rfl (XT.ii_lt_t c) ho hj q) (KT c)
  · exact W.pure (fun T t hA q => XS.icmpNo hA ok.x rfl (hb ok.by_ hd) rfl (XT.ii_lt_f c) q) (KF c)
theorem W.icmpge (ok : Ok B l Z nar own nm code ml ret R h0 ws fr Q Me) {x y : Int32} {o : Int} {pcY pcN : Nat} (hd : decode code pc = .ok (.if_icmp .ge o, 3)) (hp : pc + 3 = pcN) (ho : 0 ≤ (pc : Int) + o) (hj : ((pc : Int) + o).toNat = pcY) (KT : x < y → W B h k n M cl pcN L S) (KF : ¬ x < y → W B h k n M cl pcY L S) : W B h k n M cl pc L (.int y :: .int x :: S) := by
  subst hp; by_cases c : x < y
  · exact W.pure (fun T t hA q => XS.icmpNo hA ok.x rfl (hb ok.by_ hd) rfl (XT.ii_ge_f c) q) (KT c)
  · exact W.pure (fun T t hA q => XS.icmpYes hA ok.x rfl (pc0 := pc) rfl (hb ok.by_ hd) rfl (XT.ii_ge_t c) ho hj q) (KF c)
theorem W.icmpgt (ok : Ok B l Z nar own nm code ml ret R h0 ws fr Q Me) {x y : Int32} {o : Int} {pcY pcN : Nat} (hd : decode code pc = .ok (.if_icmp .gt o, 3)) (hp : pc + 3 = pcN) (ho : 0 ≤ (pc : Int) + o) (hj : ((pc : Int) + o).toNat = pcY) (KT : y < x → W B h k n M cl pcY L S) (KF : ¬ y < x → W B h k n M cl pcN L S) : W B h k n M cl pc L (.int y :: .int x :: S) := by
  subst hp; by_cases c : y < x
  · exact W.pure (fun T t hA q => XS.icmpYes hA ok.x rfl (pc0 := pc) rfl (hb ok.by_ hd) rfl (XT.ii_gt_t c) ho hj q) (KT c)
  · exact W.pure (fun T t hA q => XS.icmpNo hA ok.x rfl (hb ok.by_ hd) rfl (XT.ii_gt_f c) q) (KF c)
theorem W.icmple (ok : Ok B l Z nar own nm code ml ret R h0 ws fr Q Me) {x y : Int32} {o : Int} {pcY pcN : Nat} (hd : decode code pc = .ok (.if_icmp .le o, 3)) (hp : pc + 3 = pcN) (ho : 0 ≤ (pc : Int) + o) (hj : ((pc : Int) + o).toNat = pcY) (KT : y < x → W B h k n M cl pcN L S) (KF : ¬ y < x → W B h k n M cl pcY L S) : W B h k n M cl pc L (.int y :: .int x :: S) := by
  subst hp; by_cases c : y < x
  · exact W.pure (fun T t hA q => XS.icmpNo hA ok.x rfl (hb ok.by_ hd) rfl (XT.ii_le_f c) q) (KT c)
  · exact W.pure (fun T t hA q => XS.icmpYes hA ok.x rfl (pc0 := pc) rfl (hb ok.by_ hd) rfl (XT.ii_le_t c) ho hj q) (KF c)
theorem W.acmpeq (ok : Ok B l Z nar own nm code ml ret R h0 ws fr Q Me) {x y : Value} {o : Int} {pcY pcN : Nat} (hd : decode code pc = .ok (.if_acmp .eq o, 3)) (hp : pc + 3 = pcN) (hx : x.isRef = true) (hy : y.isRef = true) (ho : 0 ≤ (pc : Int) + o) (hj : ((pc : Int) + o).toNat = pcY) (KT : x = y → W B h k n M cl pcY L S) (KF : ¬ x = y → W B h k n M cl pcN L S) : W B h k n M cl pc L (y :: x :: S) := by
  subst hp; by_cases c : x = y
  · exact W.pure (fun T t hA q => XT.acmpYes hA ok.x rfl (pc0 := pc) rfl (hb ok.by_ hd) rfl hx hy (XT.aa_eq_t c) ho hj q) (KT c)
  · exact W.pure (fun T t hA q => XT.acmpNo hA ok.x rfl (hb ok.by_ hd) rfl hx hy (XT.aa_eq_f c) q) (KF c)
theorem W.acmpne (ok : Ok B l Z nar own nm code ml ret R h0 ws fr Q Me) {x y : Value} {o : Int} {pcY pcN : Nat} (hd : decode code pc = .ok (.if_acmp .ne o, 3)) (hp : pc + 3 = pcN) (hx : x.isRef = true) (hy : y.isRef = true) (ho : 0 ≤ (pc : Int) + o) (hj : ((pc : Int) + o).toNat = pcY) (KT : x = y → W B h k n M cl pcN L S) (KF : ¬ x = y → W B h k n M cl pcY L S) : W B h k n M cl pc L (y :: x :: S) := by
  subst hp; by_cases c : x = y
  · exact W.pure (fun T t hA q => XT.acmpNo hA ok.x rfl (hb ok.by_ hd) rfl hx hy (XT.aa_ne_f c) q) (KT c)
  · exact W.pure (fun T t hA q => XT.acmpYes hA ok.x rfl (pc0 := pc) rfl (hb ok.by_ hd) rfl hx hy (XT.aa_ne_t c) ho hj q) (KF c)
theorem W.ifnull (ok : Ok B l Z nar own nm code ml ret R h0 ws fr Q Me) {v : Value} {o : Int} {pcY pcN : Nat} (hd : decode code pc = .ok (.ifnull o, 3)) (hp : pc + 3 = pcN) (hv : v.isRef = true) (ho : 0 ≤ (pc : Int) + o) (hj : ((pc : Int) + o).toNat = pcY) (KT : v = .null → W B h k n M cl pcY L S) (KF : ¬ v = .null → W B h k n M cl pcN L S) : W B h k n M cl pc L (v :: S) := by
  subst hp; by_cases c : v = .null
  · exact W.pure (fun T t hA q => XT.nullYes hA ok.x rfl (pc0 := pc) rfl (hb ok.by_ hd) rfl c ho hj q) (KT c)
  · exact W.pure (fun T t hA q => XT.nullNo hA ok.x rfl (hb ok.by_ hd) rfl hv c q) (KF c)
theorem W.ifnonnull (ok : Ok B l Z nar own nm code ml ret R h0 ws fr Q Me) {v : Value} {o : Int} {pcY pcN : Nat} (hd : decode code pc = .ok (.ifnonnull o, 3)) (hp : pc + 3 = pcN) (hv : v.isRef = true) (ho : 0 ≤ (pc : Int) + o) (hj : ((pc : Int) + o).toNat = pcY) (KT : v = .null → W B h k n M cl pcN L S) (KF : ¬ v = .null → W B h k n M cl pcY L S) : W B h k n M cl pc L (v :: S) := by
  subst hp; by_cases c : v = .null
  · exact W.pure (fun T t hA q => XT.nonnullNo hA ok.x rfl (hb ok.by_ hd) rfl c q) (KT c)
  · exact W.pure (fun T t hA q => XT.nonnullYes hA ok.x rfl (pc0 := pc) rfl (hb ok.by_ hd) rfl hv c ho hj q) (KF c)
end Pure
end Jvm.Pilot.@@N@@.Wk
namespace Jvm.Pilot.@@N@@.Wk
open Jvm Jvm.ClassFile Sem Op Lib Jvm.Free Jvm.Stand Jvm.LawKit Jvm.RoadKit Bundle
/-! ### arrays of int-like things, all components known -/
def ArI (Z : State) (h : Heap) (a : Addr) (ty : FieldType) (cs : List Int32) : Prop := ∃ c : Cell, Arr Z h a c ty ∧ c.slots = (cs.map Value.int).toArray ∧ ∀ x ∈ cs, fits ty (.int x) = true
theorem ArI.ext {Z : State} {h h' : Heap} {a : Addr} {ty : FieldType} {cs : List Int32} (F : ArI Z h a ty cs) (E : Ext h h') : ArI Z h' a ty cs := by obtain ⟨c, A, r⟩ := F; exact ⟨c, A.ext E, r⟩
theorem ArI.keep {Z : State} {h h' : Heap} {a : Addr} {ty : FieldType} {cs : List Int32} {ws : List Addr} (F : ArI Z h a ty cs) (K : Keep h h' ws) (q : a ∉ ws) : ArI Z h' a ty cs := by obtain ⟨c, A, r⟩ := F; exact ⟨c, ⟨K.2.1 a c A.1 q, A.2⟩, r⟩
theorem ArI.kept {Z : State} {h h' : Heap} {a : Addr} {ty : FieldType} {cs : List Int32} {M : List Addr} (F : ArI Z h a ty cs) (K : Kept M h h') (q : a ∉ M) : ArI Z h' a ty cs := by obtain ⟨c, A, r⟩ := F; exact ⟨c, ⟨K.2 a c A.1 q, A.2⟩, r⟩
theorem ArI.other {Z : State} {h h' : Heap} {a b : Addr} {ty : FieldType} {cs : List Int32} {sl : Nat} {v : Value} (F : ArI Z h b ty cs) (W : Wr h h' a sl v) (q : b ≠ a) : ArI Z h' b ty cs := by obtain ⟨c, A, r⟩ := F; exact ⟨c, A.other W q, r⟩
theorem ArI.lt {Z : State} {h : Heap} {a : Addr} {ty : FieldType} {cs : List Int32} (F : ArI Z h a ty cs) : a < h.size := by obtain ⟨c, A, -⟩ := F; exact A.lt
theorem ArI.gt {Z : State} {h : Heap} {a : Addr} {ty : FieldType} {cs : List Int32} (F : ArI Z h a ty cs) : h.size > a := F.lt
theorem gtE {Z : State} {h : Heap} {a : Addr} {C : String} (F : Exa Z h a C) : h.size > a := F.lt
theorem ArI.fit {Z : State} {h : Heap} {a : Addr} {ty : FieldType} {cs : List Int32} (F : ArI Z h a ty cs) : ∀ x ∈ cs, fits ty (.int x) = true := by obtain ⟨c, A, -, r⟩ := F; exact r
theorem ArI.cast {Z : State} {h : Heap} {a : Addr} {ty : FieldType} {cs cs' : List Int32} (F : ArI Z h a ty cs) (e : cs = cs') : ArI Z h a ty cs' := e ▸ F
theorem ArI.new {Z : State} {h : Heap} {a : Addr} {ty : FieldType} {cA : ClassId} {z : Int32} (A : Arr Z h a (newA cA ty z) ty) (hd : defaultValue ty = .int 0) (hf : fits ty (.int 0) = true) : ArI Z h a ty (List.replicate z.toNatClampNeg 0) := by
  refine ⟨_, A, ?_, fun x hx => ?_⟩
  · simp [newA, hd]
  · rw [List.eq_of_mem_replicate hx]; exact hf
theorem ArI.set {Z : State} {h h' : Heap} {a : Addr} {ty : FieldType} {cs : List Int32} {j : Nat} {x : Int32} (F : ArI Z h a ty cs) (W : Wr h h' a j (.int x)) (hx : fits ty (.int x) = true) : ArI Z h' a ty (cs.set j x) := by
  obtain ⟨c, A, e, r⟩ := F
  refine ⟨_, A.same W, ?_, fun y hy => ?_⟩
  · simp only [Cell.setSlot, e]
    apply Array.ext_getElem?
    intro i
    simp [List.map_set]
  · rcases List.mem_or_eq_of_mem_set hy with q | q
    · exact r y q
    · exact q ▸ hx
theorem Fld.kept {Z : State} {h h' : Heap} {a : Addr} {C f d : String} {v : Value} {M : List Addr} (F : Fld Z h a C f d v) (K : Kept M h h') (q : a ∉ M) : Fld Z h' a C f d v := by
  obtain ⟨cell, cf, k, i, f, h1, r⟩ := F; exact ⟨cell, cf, k, i, f, K.2 a cell h1 q, r⟩
theorem Exa.kept {Z : State} {h h' : Heap} {a : Addr} {C : String} {M : List Addr} (F : Exa Z h a C) (K : Kept M h h') (q : a ∉ M) : Exa Z h' a C := by
  obtain ⟨cell, k, h1, r⟩ := F; exact ⟨cell, k, K.2 a cell h1 q, r⟩
theorem ane {a b : Nat} (h : a < b ∨ b < a) : a ≠ b := by omega
theorem nin1 {a b : Nat} (h : a < b ∨ b < a) : a ∉ [b] := by simp; omega
theorem nin2 {a b c : Nat} (h : a < b ∨ b < a) (h2 : a < c ∨ c < a) : a ∉ [b, c] := by simp; omega
theorem ExtT {h h1 h2 : Heap} (E : Ext h h1) (E' : Ext h1 h2) : Ext h h2 := ⟨Nat.le_trans E.1 E'.1, fun a c q => E'.2 a c (E.2 a c q)⟩
theorem ExtK {h h1 h2 : Heap} {ws : List Addr} (E : Ext h h1) (K : Keep h1 h2 ws) (hw : ∀ w ∈ ws, h.size ≤ w) : Ext h h2 :=
  ⟨Nat.le_trans E.1 K.1, fun a c q => K.2.1 a c (E.2 a c q) fun z => absurd (Array.getElem?_eq_some_iff.mp q).1 (Nat.not_lt.mpr (hw a z))⟩
theorem ExtW {h h1 h2 : Heap} {b : Addr} {sl : Nat} {v : Value} (E : Ext h h1) (W : Wr h1 h2 b sl v) (hb : h.size ≤ b) : Ext h h2 := ExtK E (Keep.of_wr W) fun w hw => by cases List.mem_singleton.mp hw; exact hb
theorem ExtR (h : Heap) : Ext h h := ⟨Nat.le_refl _, fun _ _ q => q⟩
theorem Exa.neArI {Z : State} {h : Heap} {a b : Addr} {C : String} {ty : FieldType} {cs : List Int32} {a0 : Array Value} {k : Nat} (E : Exa Z h a C) (w : (Cond.instantiable C k).before a0 Z = true) (A : ArI Z h b ty cs) : a ≠ b := by
  obtain ⟨c, A, -⟩ := A
  exact ne_arr E w A
/-! ### one W-lemma a step that reads or turns the heap -/
section Heap
variable {B : Cx} {l : Launch} {Z : State} {nar : Bool} {own nm : String} {code : ByteArray} {ml : Nat} {ret : Option FieldType} {R : Room} {h0 : Heap} {ws : List Addr} {fr : Bool} {Q : List Addr → Option Value → Heap → Prop} {Me : List Addr}
variable {h : Heap} {k n : Nat} {M : List Addr} {cl : Cl} {pc pc' : Nat} {L L' : Array Slot} {S S' : List Value} {a0 : Array Value}
theorem W.heap {Φ : Heap → Prop} {k' n' : Nat} {M' : List Addr} {cl' : Cl} (ok : Ok B l Z nar own nm code ml ret R h0 ws fr Q Me)
    (st : ∀ (T : State) (vm0 : Vm) (locs : List Loc), Stand B.p B.l B.e B.R (B.s.setVm vm0) B.m B.args B.below B.meth B.c T locs k n → Z.Warmed39 (B.s.setVm vm0).vm → (B.s.setVm vm0).vm.findClass own = some B.m.cls → T.heap = h → Ext Z.heap h → h0.size ≤ h.size →
      ∃ (T' : State) (locs2 : List Loc), Stand B.p B.l B.e B.R (B.s.setVm vm0) B.m B.args B.below B.meth B.c T' (locs ++ locs2) k' n' ∧ Kept M h T'.heap ∧ (∀ y ∈ locs2, y.base ∈ ws ∨ h0.size ≤ y.base) ∧ (cl'.1 = true → cl.1 = true ∧ ∀ y ∈ locs2, h0.size ≤ y.base) ∧ (∀ x ∈ M', x ∈ M ∨ (h.size ≤ x ∧ x < T'.heap.size)) ∧ Φ T'.heap ∧
        ∀ t, Steps B.p.tables B.e B.below (T'.setTop (mkF B.m pc' L' S')) t → Steps B.p.tables B.e B.below (T.setTop (mkF B.m pc L S)) t)
    (hcs : cl'.2 = cl.2) (K : ∀ h', Φ h' → W B h' k' n' M' cl' pc' L' S') : W B h k n M cl pc L S := by
  intro T P
  obtain ⟨vm0, k0, locs, X, hS, hk0, hnar, hL, hcl, hlt, eT, bg⟩ := P
  have eZ := ok.Z_
  have hsz : h0.size ≤ h.size := by rw [← ok.h_, ← eT]; exact X.same.2.1
  obtain ⟨T', locs2, X', hk, hl2, hc2, hM, hΦ, hst⟩ := st T vm0 locs X (ok.zv hS) (ok.ownv hS) eT (by rw [← eT, ← eZ]; exact bg.2.2.1) hsz
  rw [← eT] at hk hM
  refine Gd.step hst (K _ hΦ T' ⟨vm0, k0, locs ++ locs2, X', hS, Nat.le_trans hk0 hk.1, hnar, fun y hy => ?_, fun hc y hy => ?_, by rw [hcs]; exact hlt, rfl, by rw [eZ] at bg ⊢; exact bg.nextN (ok.zv hS) X X' hk hM⟩)
  · rcases List.mem_append.mp hy with q | q
    · exact hL y q
    · rw [ok.ws_, ok.h_]; exact hl2 y q
  · rcases List.mem_append.mp hy with q | q
    · exact hcl (hc2 hc).1 y q
    · rw [ok.h_]; exact (hc2 hc).2 y q
/-- a step that moves no cell -/
theorem W.still (ok : Ok B l Z nar own nm code ml ret R h0 ws fr Q Me)
    (st : ∀ (T : State) (vm0 : Vm) (locs : List Loc), Stand B.p B.l B.e B.R (B.s.setVm vm0) B.m B.args B.below B.meth B.c T locs k n → Z.Warmed39 (B.s.setVm vm0).vm → (B.s.setVm vm0).vm.findClass own = some B.m.cls → T.heap = h → Ext Z.heap h →
      ∃ (T' : State), Stand B.p B.l B.e B.R (B.s.setVm vm0) B.m B.args B.below B.meth B.c T' locs k n ∧ T'.heap = h ∧ ∀ t, Steps B.p.tables B.e B.below (T'.setTop (mkF B.m pc' L' S')) t → Steps B.p.tables B.e B.below (T.setTop (mkF B.m pc L S)) t)
    (K : W B h k n M cl pc' L' S') : W B h k n M cl pc L S := by
  refine W.heap (Φ := fun h' => h' = h) ok (fun T vm0 locs X hz ho eT hE hsz => ?_) rfl (fun h' e => e ▸ K)
  obtain ⟨T', X', e', hst⟩ := st T vm0 locs X hz ho eT hE
  exact ⟨T', [], by rw [List.append_nil]; exact X', by rw [e']; exact Kept.refl _ _, fun _ q => (nomatch q), fun q => ⟨q, fun _ q => (nomatch q)⟩, fun x q => Or.inl q, e', hst⟩
theorem W.getF (ok : Ok B l Z nar own nm code ml ret R h0 ws fr Q Me) {idx : Nat} {R0 O f d : String} {a : Addr} {v : Value} (w : (Cond.fieldLink own idx R0 f d).before a0 Z = true) (via : Via Z R0 O f d) (F : Fld Z h a O f d v)
    (hd : decode code pc = .ok (.getfield idx, 3)) (hp : pc + 3 = pc') (K : W B h k n M cl pc' L (v :: S)) : W B h k n M cl pc L (.ref a :: S) := by
  subst hp
  refine W.still ok (fun T vm0 locs X hz ho eT _ => ?_) K
  exact RoadKit.getF X ok.x hz ho (host := "") (Or.inl w) via eT F (g := mkF B.m pc L (.ref a :: S)) rfl rfl (hb ok.by_ hd)
theorem W.getS (ok : Ok B l Z nar own nm code ml ret R h0 ws fr Q Me) {idx : Nat} {R0 O f d : String} {v : Value} (w : (Cond.fieldLink own idx R0 f d).before a0 Z = true) (via : Via Z R0 O f d) (F : Sta Z Z.heap O f d v)
    (hd : decode code pc = .ok (.getstatic idx, 3)) (hp : pc + 3 = pc') (K : W B h k n M cl pc' L (v :: S)) : W B h k n M cl pc L S := by
  subst hp
  refine W.still ok (fun T vm0 locs X hz ho eT hE => ?_) K
  exact RoadKit.getS X ok.x hz ho (host := "") w via eT (F.ext hE) (g := mkF B.m pc L S) rfl (hb ok.by_ hd)
theorem W.cast (ok : Ok B l Z nar own nm code ml ret R h0 ws fr Q Me) {idx : Nat} {C : String} {a : Addr} (w : (Cond.classLink own idx C).before a0 Z = true) (F : Ins Z h a C true)
    (hd : decode code pc = .ok (.checkcast idx, 3)) (hp : pc + 3 = pc') (K : W B h k n M cl pc' L (.ref a :: S)) : W B h k n M cl pc L (.ref a :: S) := by
  subst hp
  refine W.still ok (fun T vm0 locs X hz ho eT hE => ?_) K
  exact castY X ok.x hz ho w eT F (g := mkF B.m pc L (.ref a :: S)) rfl rfl (hb ok.by_ hd)
theorem W.instY (ok : Ok B l Z nar own nm code ml ret R h0 ws fr Q Me) {idx : Nat} {C : String} {a : Addr} (w : (Cond.classLink own idx C).before a0 Z = true) (F : Ins Z h a C true)
    (hd : decode code pc = .ok (.instanceof idx, 3)) (hp : pc + 3 = pc') (K : W B h k n M cl pc' L (.int 1 :: S)) : W B h k n M cl pc L (.ref a :: S) := by
  subst hp
  refine W.still ok (fun T vm0 locs X hz ho eT hE => ?_) K
  exact RoadKit.instY X ok.x hz ho w eT F (g := mkF B.m pc L (.ref a :: S)) rfl rfl (hb ok.by_ hd)
theorem W.instNull (ok : Ok B l Z nar own nm code ml ret R h0 ws fr Q Me) {idx : Nat} (hd : decode code pc = .ok (.instanceof idx, 3)) (hp : pc + 3 = pc') (K : W B h k n M cl pc' L (.int 0 :: S)) : W B h k n M cl pc L (.null :: S) := by
  subst hp
  refine W.still ok (fun T vm0 locs X hz ho eT hE => ⟨T, X, eT, fun t q => ?_⟩) K
  exact X.instanceofNull ok.x (g := mkF B.m pc L (.null :: S)) rfl rfl (hb ok.by_ hd) t q
theorem W.arraylength (ok : Ok B l Z nar own nm code ml ret R h0 ws fr Q Me) {a : Addr} {c : Cell} {ty : FieldType} (A : Arr Z h a c ty) (v : Int32) (hv : c.slots.size.toInt32 = v)
    (hd : decode code pc = .ok (.arraylength, 1)) (hp : pc + 1 = pc') (K : W B h k n M cl pc' L (.int v :: S)) : W B h k n M cl pc L (.ref a :: S) := by
  subst hp; subst hv
  refine W.still ok (fun T vm0 locs X hz ho eT hE => ⟨T, X, eT, fun t q => ?_⟩) K
  exact X.arraylength ok.x (by rw [eT]; exact A.1) (State.isArrayOf_alike hz.alike A.2.1) (g := mkF B.m pc L (.ref a :: S)) rfl rfl (hb ok.by_ hd) t q
theorem W.lenI (ok : Ok B l Z nar own nm code ml ret R h0 ws fr Q Me) {a : Addr} {cs : List Int32} {ty : FieldType} (A : ArI Z h a ty cs) (v : Int32) (hv : cs.length.toInt32 = v)
    (hd : decode code pc = .ok (.arraylength, 1)) (hp : pc + 1 = pc') (K : W B h k n M cl pc' L (.int v :: S)) : W B h k n M cl pc L (.ref a :: S) := by
  obtain ⟨c, A, e, -⟩ := A
  exact W.arraylength ok A v (by rw [e]; simpa using hv) hd hp K
theorem inb {c : Cell} {cs : List Int32} {j x : Int32} (e : c.slots = (cs.map Value.int).toArray) (h0 : ¬ j < 0) (hx : cs[j.toNatClampNeg]? = some x) : ¬ (j < 0 ∨ c.slots.size ≤ j.toNatClampNeg) := by
  rintro (q | q)
  · exact h0 q
  · have := (List.getElem?_eq_some_iff.mp hx).1
    rw [e] at q; simp at q; omega
theorem inbL {c : Cell} {cs : List Int32} {j : Int32} (e : c.slots = (cs.map Value.int).toArray) (h0 : ¬ j < 0) (hl : j.toNatClampNeg < cs.length) : ¬ (j < 0 ∨ c.slots.size ≤ j.toNatClampNeg) := by
  rintro (q | q)
  · exact h0 q
  · rw [e] at q; simp at q; omega
theorem W.caload (ok : Ok B l Z nar own nm code ml ret R h0 ws fr Q Me) {a : Addr} {cs : List Int32} {j : Int32} (A : ArI Z h a .char cs) (x : Int32) (hj : ¬ j < 0) (hx : cs[j.toNatClampNeg]? = some x)
    (hd : decode code pc = .ok (.caload, 1)) (hp : pc + 1 = pc') (K : W B h k n M cl pc' L (.int x :: S)) : W B h k n M cl pc L (.int j :: .ref a :: S) := by
  subst hp
  obtain ⟨c, A, e, -⟩ := A
  refine W.still ok (fun T vm0 locs X hz ho eT hE => ⟨T, X, eT, fun t q => ?_⟩) K
  exact X.caload ok.x (j := j) (v := .int x) (by rw [eT]; exact A.1) (State.isArrayOf_alike hz.alike A.2.1) A.2.2 (inb e hj hx) (by rw [e]; simp [hx]) (g := mkF B.m pc L (.int j :: .ref a :: S)) rfl rfl (hb ok.by_ hd) t q
theorem W.baload (ok : Ok B l Z nar own nm code ml ret R h0 ws fr Q Me) {a : Addr} {cs : List Int32} {j : Int32} (A : ArI Z h a .byte cs) (x : Int32) (hj : ¬ j < 0) (hx : cs[j.toNatClampNeg]? = some x)
    (hd : decode code pc = .ok (.baload, 1)) (hp : pc + 1 = pc') (K : W B h k n M cl pc' L (.int x :: S)) : W B h k n M cl pc L (.int j :: .ref a :: S) := by
  subst hp
  obtain ⟨c, A, e, -⟩ := A
  refine W.still ok (fun T vm0 locs X hz ho eT hE => ⟨T, X, eT, fun t q => ?_⟩) K
  exact X.baloadBytes ok.x (j := j) (v := .int x) (by rw [eT]; exact A.1) (State.isArrayOf_alike hz.alike A.2.1) A.2.2 (inb e hj hx) (by rw [e]; simp [hx]) (g := mkF B.m pc L (.int j :: .ref a :: S)) rfl rfl (hb ok.by_ hd) t q
/-- 'new C': the fields at their first values by D -/
theorem W.new (ok : Ok B l Z nar own nm code ml ret R h0 ws fr Q Me) {idx sz : Nat} {C : String} (w : (Cond.classLink own idx C).before a0 Z = true) (wi : (Cond.instantiable C sz).before a0 Z = true) (wz : (Cond.initialized C).before a0 Z = true)
    (hd : decode code pc = .ok (.new idx, 3)) (hp : pc + 3 = pc') (hc : k + 1 ≤ R.cells) (hn : n + sz ≤ R.slots)
    (K : ∀ (a : Addr) (h' : Heap), h0.size ≤ a → h.size = a → Ext h h' → Exa Z h' a C → (∀ {O f d : String} {ty : FieldType}, Laid Z a0 C O f d → parseFieldDescriptor d = some ty → Fld Z h' a O f d (defaultValue ty)) → Unt h' a → W B h' (k + 1) (n + sz) (a :: M) cl pc' L (.ref a :: S)) : W B h k n M cl pc L S := by
  subst hp
  refine W.heap (Φ := fun h' => h0.size ≤ h.size ∧ Ext h h' ∧ Exa Z h' h.size C ∧ (∀ {O f d : String} {ty : FieldType}, Laid Z a0 C O f d → parseFieldDescriptor d = some ty → Fld Z h' h.size O f d (defaultValue ty)) ∧ Unt h' h.size) (k' := k + 1) (n' := n + sz) (M' := h.size :: M) (cl' := cl) (L' := L) (S' := .ref h.size :: S) ok (fun T vm0 locs X hz ho eT hE hsz => ?_) rfl (fun h' ⟨p0, p1, p2, p3, p4⟩ => K _ h' p0 rfl p1 p2 p3 p4)
  have eR := ok.R_
  subst eR
  obtain ⟨T', h', X', e', E', A', D', U', st⟩ := newO X ok.x hz ho w wi wz eT (g := mkF B.m pc L S) rfl (hb ok.by_ hd) hc hn
  subst e'
  exact ⟨T', [], by rw [List.append_nil]; exact X', Kept.ext E', fun _ q => (nomatch q), fun q => ⟨q, fun _ q => (nomatch q)⟩, fun x q => (List.mem_cons.mp q).elim (fun q => Or.inr ⟨Nat.le_of_eq q.symm, q ▸ A'.lt⟩) Or.inl, ⟨hsz, E', A', D', U'⟩, st⟩
theorem W.newarray (ok : Ok B l Z nar own nm code ml ret R h0 ws fr Q Me) {aty : ArrayType} (w : (Cond.arrayClass (newarray.typeOf aty)).before a0 Z = true) {z : Int32} {cap : Nat} (hz0 : ¬ z < 0) (hcap : z.toNatClampNeg ≤ cap) (hb8 : cap * 8 ≤ 536870912)
    (hd : decode code pc = .ok (.newarray aty, 2)) (hp : pc + 2 = pc') (hc : k + 1 ≤ R.cells) (hn : n + cap ≤ R.slots)
    (K : ∀ (a : Addr) (h' : Heap) (cA : ClassId), h0.size ≤ a → h.size = a → Ext h h' → Arr Z h' a (newA cA (newarray.typeOf aty) z) (newarray.typeOf aty) → W B h' (k + 1) (n + cap) (a :: M) cl pc' L (.ref a :: S)) : W B h k n M cl pc L (.int z :: S) := by
  subst hp
  refine W.heap (Φ := fun h' => h0.size ≤ h.size ∧ Ext h h' ∧ ∃ cA, Arr Z h' h.size (newA cA (newarray.typeOf aty) z) (newarray.typeOf aty)) (k' := k + 1) (n' := n + cap) (M' := h.size :: M) (cl' := cl) (L' := L) (S' := .ref h.size :: S) ok (fun T vm0 locs X hz ho eT hE hsz => ?_) rfl (fun h' ⟨p0, p1, cA, p2⟩ => K _ h' cA p0 rfl p1 p2)
  have eR := ok.R_
  subst eR
  obtain ⟨T', h', cA, X', e', E', A', st⟩ := newP X ok.x hz w eT (g := mkF B.m pc L (.int z :: S)) rfl (hb ok.by_ hd) rfl hz0 hcap hb8 hc hn
  subst e'
  exact ⟨T', [], by rw [List.append_nil]; exact X', Kept.ext E', fun _ q => (nomatch q), fun q => ⟨q, fun _ q => (nomatch q)⟩, fun x q => (List.mem_cons.mp q).elim (fun q => Or.inr ⟨Nat.le_of_eq q.symm, q ▸ A'.lt⟩) Or.inl, ⟨hsz, E', cA, A'⟩, st⟩
theorem W.newC (ok : Ok B l Z nar own nm code ml ret R h0 ws fr Q Me) (w : (Cond.arrayClass .char).before a0 Z = true) {z : Int32} {cap : Nat} (hz0 : ¬ z < 0) (hcap : z.toNatClampNeg ≤ cap) (hb8 : cap * 8 ≤ 536870912)
    (hd : decode code pc = .ok (.newarray .char, 2)) (hp : pc + 2 = pc') (hc : k + 1 ≤ R.cells) (hn : n + cap ≤ R.slots)
    (K : ∀ (a : Addr) (h' : Heap), h0.size ≤ a → h.size = a → Ext h h' → ArI Z h' a .char (List.replicate z.toNatClampNeg 0) → W B h' (k + 1) (n + cap) (a :: M) cl pc' L (.ref a :: S)) : W B h k n M cl pc L (.int z :: S) :=
  W.newarray ok (aty := .char) w hz0 hcap hb8 hd hp hc hn fun a h' cA p0 p1 p2 p3 => K a h' p0 p1 p2 (ArI.new p3 rfl rfl)
theorem W.newB (ok : Ok B l Z nar own nm code ml ret R h0 ws fr Q Me) (w : (Cond.arrayClass .byte).before a0 Z = true) {z : Int32} {cap : Nat} (hz0 : ¬ z < 0) (hcap : z.toNatClampNeg ≤ cap) (hb8 : cap * 8 ≤ 536870912)
    (hd : decode code pc = .ok (.newarray .byte, 2)) (hp : pc + 2 = pc') (hc : k + 1 ≤ R.cells) (hn : n + cap ≤ R.slots)
    (K : ∀ (a : Addr) (h' : Heap), h0.size ≤ a → h.size = a → Ext h h' → ArI Z h' a .byte (List.replicate z.toNatClampNeg 0) → W B h' (k + 1) (n + cap) (a :: M) cl pc' L (.ref a :: S)) : W B h k n M cl pc L (.int z :: S) :=
  W.newarray ok (aty := .byte) w hz0 hcap hb8 hd hp hc hn fun a h' cA p0 p1 p2 p3 => K a h' p0 p1 p2 (ArI.new p3 rfl rfl)
/-- a store into an array that is still to be written: hold: cl' says whether old cells are untouched behind it -/
theorem W.castore (ok : Ok B l Z nar own nm code ml ret R h0 ws fr Q Me) {a : Addr} {cs : List Int32} {j x : Int32} {cl' : Cl} (A : ArI Z h a .char cs) (hj : ¬ j < 0) (hl : j.toNatClampNeg < cs.length) (ha : a ∈ M) (hw : a ∈ ws ∨ h0.size ≤ a) (hcl : cl'.1 = true → cl.1 = true ∧ h0.size ≤ a) (hcs : cl'.2 = cl.2)
    (hd : decode code pc = .ok (.castore, 1)) (hp : pc + 1 = pc') (K : ∀ h' : Heap, Wr h h' a j.toNatClampNeg (.int (c16 x)) → ArI Z h' a .char (cs.set j.toNatClampNeg (c16 x)) → W B h' k n M cl' pc' L S) : W B h k n M cl pc L (.int x :: .int j :: .ref a :: S) := by
  subst hp
  refine W.heap (Φ := fun h' => Wr h h' a j.toNatClampNeg (.int (c16 x))) (k' := k) (n' := n) (M' := M) (cl' := cl') (L' := L) (S' := S) ok (fun T vm0 locs X hz ho eT hE hsz => ?_) hcs (fun h' q => K h' q (A.set q (fits_nar_char x)))
  obtain ⟨c, A1, e, r⟩ := A
  obtain ⟨T', h', X', e', W', st⟩ := stC X ok.x hz eT A1 (j := j) (x := x) (inbL e hj hl) (g := mkF B.m pc L (.int x :: .int j :: .ref a :: S)) rfl rfl (hb ok.by_ hd)
  subst e'
  exact ⟨T', _, X', Kept.wr W' ha, fun y hy => by cases List.mem_singleton.mp hy; exact hw, fun q => ⟨(hcl q).1, fun y hy => by cases List.mem_singleton.mp hy; exact (hcl q).2⟩, fun x q => Or.inl q, W', st⟩
theorem W.bastore (ok : Ok B l Z nar own nm code ml ret R h0 ws fr Q Me) {a : Addr} {cs : List Int32} {j x : Int32} {cl' : Cl} (A : ArI Z h a .byte cs) (hj : ¬ j < 0) (hl : j.toNatClampNeg < cs.length) (ha : a ∈ M) (hw : a ∈ ws ∨ h0.size ≤ a) (hcl : cl'.1 = true → cl.1 = true ∧ h0.size ≤ a) (hcs : cl'.2 = cl.2)
    (hd : decode code pc = .ok (.bastore, 1)) (hp : pc + 1 = pc') (K : ∀ h' : Heap, Wr h h' a j.toNatClampNeg (.int (b8 x)) → ArI Z h' a .byte (cs.set j.toNatClampNeg (b8 x)) → W B h' k n M cl' pc' L S) : W B h k n M cl pc L (.int x :: .int j :: .ref a :: S) := by
  subst hp
  refine W.heap (Φ := fun h' => Wr h h' a j.toNatClampNeg (.int (b8 x))) (k' := k) (n' := n) (M' := M) (cl' := cl') (L' := L) (S' := S) ok (fun T vm0 locs X hz ho eT hE hsz => ?_) hcs (fun h' q => K h' q (A.set q (fits_nar_byte x)))
  obtain ⟨c, A1, e, r⟩ := A
  obtain ⟨T', h', X', e', W', st⟩ := stB X ok.x hz eT A1 (j := j) (x := x) (inbL e hj hl) (g := mkF B.m pc L (.int x :: .int j :: .ref a :: S)) rfl rfl (hb ok.by_ hd)
  subst e'
  exact ⟨T', _, X', Kept.wr W' ha, fun y hy => by cases List.mem_singleton.mp hy; exact hw, fun q => ⟨(hcl q).1, fun y hy => by cases List.mem_singleton.mp hy; exact (hcl q).2⟩, fun x q => Or.inl q, W', st⟩
theorem W.putF (ok : Ok B l Z nar own nm code ml ret R h0 ws fr Q Me) {idx kk : Nat} {R0 O f d C : String} {ty : FieldType} {a : Addr} {v v0 : Value} {cl' : Cl} (w : (Cond.fieldLink own idx R0 f d).before a0 Z = true) (via : Via Z R0 O f d) (F : Fld Z h a O f d v0) (E : Exa Z h a C)
    (La : (Cond.lays C O f d).before a0 Z = true ∨ ((Cond.laysFinal C O f d).before a0 Z = true ∧ own = O ∧ nm = "<init>")) (wi : (Cond.instantiable C kk).before a0 Z = true) (hty : parseFieldDescriptor d = some ty) (hnr : narrow ty v = v) (hf : fits ty v = true)
    (ha : a ∈ M) (hw : a ∈ ws ∨ h0.size ≤ a) (hcl : cl'.1 = true → cl.1 = true ∧ h0.size ≤ a) (hcs : cl'.2 = cl.2)
    (hd : decode code pc = .ok (.putfield idx, 3)) (hp : pc + 3 = pc') (K : ∀ h' : Heap, Wr h h' a (RoadKit.slotOf Z O f d) v → W B h' k n M cl' pc' L S) : W B h k n M cl pc L (v :: .ref a :: S) := by
  subst hp
  refine W.heap (Φ := fun h' => Wr h h' a (RoadKit.slotOf Z O f d) v) (k' := k) (n' := n) (M' := M) (cl' := cl') (L' := L) (S' := S) ok (fun T vm0 locs X hz ho eT hE hsz => ?_) hcs (fun h' q => K h' q)
  obtain ⟨T', h', X', e', W', st⟩ := RoadKit.putF X ok.x hz ho (host := "") (Or.inl w) via eT F E (La.imp id fun q => ⟨q.1, q.2.1, ok.nm_.trans q.2.2⟩) wi hty hnr hf (g := mkF B.m pc L (v :: .ref a :: S)) rfl rfl (hb ok.by_ hd)
  subst e'
  exact ⟨T', _, X', Kept.wr W' ha, fun y hy => by cases List.mem_singleton.mp hy; exact hw, fun q => ⟨(hcl q).1, fun y hy => by cases List.mem_singleton.mp hy; exact (hcl q).2⟩, fun x q => Or.inl q, W', st⟩
theorem W.initO (ok : Ok B l Z nar own nm code ml ret R h0 ws fr Q Me) {idx : Nat} {a : Addr} (w1 : (Cond.methodLink own idx Lib.objectInit).before a0 Z = true) (w2 : (Cond.instanceMethod Lib.objectInit).before a0 Z = true) (w3 : (Cond.code Lib.objectInit ⟨#[0xb1]⟩ 1 none).before a0 Z = true)
    (hL : L.size = ml) (hfr : 1 ≤ R.frames) (hlo : (S.map fun v => v.category).sum + 12 ≤ R.locals) (hd : decode code pc = .ok (.invokespecial idx, 3)) (hp : pc + 3 = pc') (K : W B h k n M cl pc' L S) : W B h k n M cl pc L (.ref a :: S) := by
  subst hp
  refine W.still ok (fun T vm0 locs X hz ho eT hE => ?_) K
  have eR := ok.R_
  subst eR
  exact RoadKit.initO X ok.x hz ho w1 w2 w3 eT (g := mkF B.m pc L (.ref a :: S)) rfl (by rw [ok.ml_]; exact hL) rfl (hb ok.by_ hd) hfr (W := (S.map fun v => v.category).sum) (by show 2 * 0 + _ ≤ _; omega) hlo
theorem W.ldcI (ok : Ok B l Z nar own nm code ml ret R h0 ws fr Q Me) {idx : Nat} {v : Int32} (w : (Cond.constant own idx v).before a0 Z = true) (hd : decode code pc = .ok (.ldc idx, 2)) (hp : pc + 2 = pc') (K : W B h k n M cl pc' L (.int v :: S)) : W B h k n M cl pc L S := by
  subst hp
  refine W.still ok (fun T vm0 locs X hz ho eT hE => ⟨T, X, eT, fun t q => ?_⟩) K
  exact X.ldcI ok.x ho (mv hz w) (g := mkF B.m pc L S) rfl (hb ok.by_ hd) q
theorem W.ldc2J (ok : Ok B l Z nar own nm code ml ret R h0 ws fr Q Me) {idx : Nat} {v : Int64} (w : (Cond.constantLong own idx v).before a0 Z = true) (hd : decode code pc = .ok (.ldc2_w idx, 3)) (hp : pc + 3 = pc') (K : W B h k n M cl pc' L (.long v :: S)) : W B h k n M cl pc L S := by
  subst hp
  refine W.still ok (fun T vm0 locs X hz ho eT hE => ⟨T, X, eT, fun t q => ?_⟩) K
  exact X.ldc2J ok.x ho (mv hz w) (g := mkF B.m pc L S) rfl (hb ok.by_ hd) q
/-! ### the end -/
theorem keep_of {p : Program} {l : Launch} {e : Env} {R : Room} {s : State} {m : MethodId} {args : Array Value} {below : List Frame} {meth : Method} {c : Code} {T : State} {locs : List Loc} {k n : Nat} {ws : List Addr}
    (X : Stand p l e R s m args below meth c T locs k n) (hL : ∀ y ∈ locs, y.base ∈ ws ∨ s.heap.size ≤ y.base) : Keep s.heap T.heap ws := by
  refine ⟨X.same.2.1, fun b c hb hn => ?_, fun b c hb => ?_⟩
  · obtain ⟨c', h1, h2, -, h4⟩ := X.same.2.2.2.2.2 b c hb
    have hlt := (Array.getElem?_eq_some_iff.mp hb).1
    have hsl : c'.slots = c.slots := Array.ext_getElem? fun i => h4 i fun hm => (hL _ hm).elim hn fun q => absurd hlt (Nat.not_lt.mpr q)
    have hcc : c' = c := by rw [h2, hsl]
    rw [← hcc]; exact h1
  · obtain ⟨c', h1, h2, h3, -⟩ := X.same.2.2.2.2.2 b c hb
    exact ⟨c', h1, by rw [h2], by rw [h2], h3⟩
theorem W.end_ (ok : Ok B l Z nar own nm code ml ret R h0 ws fr Q Me) {v : Option Value} (hv : ret = none → v = none) (hk : k ≤ R.cells) (hn : n ≤ R.slots) {N : List Addr} (hM : ∀ x ∈ N ++ Me, x ∈ M) (hQ : Keep h0 h ws → Q N v h)
    (st : ∀ (T : State) (vm0 : Vm) (locs : List Loc) (fs : List Frame), Stand B.p B.l B.e B.R (B.s.setVm vm0) B.m B.args B.below B.meth B.c T locs k n → (∀ (f : JFrame) (acts : List Action), f.method = B.m → f.locked = none → f.entered = [] → (doReturn B.e (T.setTop f) acts v).1 = T.setFrames fs) → Steps B.p.tables B.e B.below (T.setTop (mkF B.m pc L S)) (T.setFrames fs)) : W B h k n M cl pc L S := by
  intro T P
  obtain ⟨vm0, k0, locs, X, hS, hk0, hnar, hL, hcl, hlt, eT, bg⟩ := P
  obtain ⟨fs, hr, hrun, hend, hW⟩ := X.leaveW hS hk0 (v := v) (fun q => hv (ok.ret_ ▸ q)) ok.lk
  have kp : Keep B.s.heap T.heap B.ws := keep_of (s := B.s.setVm vm0) X hL
  refine ⟨_, _, st T vm0 locs fs X hr, hrun, hend, v, locs, N, rfl, ?_, kp, ?_, hL, ⟨hW.1, hW.2.1, hW.2.2.1, hW.2.2.2.mono (by rw [ok.R_]; exact hk) (by rw [ok.R_]; exact hn)⟩, fun q => ?_⟩
  · rw [ok.Q_]
    show Q N v T.heap
    rw [eT]
    rw [ok.h_, ok.ws_, eT] at kp
    exact hQ kp
  · rw [ok.Me_]
    exact (bg.shrink hM).move (U' := T.setFrames fs) bg.1 rfl (Kept.refl _ _)
  · exact State.WarmedH.trans (t := B.s.setVm vm0) (hnar q) X.warmed
theorem W.retW (ok : Ok B l Z nar own nm code ml ret R h0 ws fr Q Me) {w : Value} {t : FieldType} {i : Instr} (hret : ret = some t) (hd : decode code pc = .ok (i, 1)) (hnw : narrow t w = w)
    (hi : (i = .ireturn ∧ (t = .int ∨ t = .boolean ∨ t = .byte ∨ t = .char ∨ t = .short) ∧ ∃ z, w = .int z) ∨ (i = .lreturn ∧ t = .long ∧ ∃ z, w = .long z) ∨ (i = .dreturn ∧ t = .double ∧ ∃ z, w = .double z) ∨ (i = .freturn ∧ t = .float ∧ ∃ z, w = .float z) ∨ (i = .areturn ∧ t.isReference = true ∧ w.isRef = true))
    (hk : k ≤ R.cells) (hn : n ≤ R.slots) {N : List Addr} (hM : ∀ x ∈ N ++ Me, x ∈ M) (hQ : Keep h0 h ws → Q N (some w) h) : W B h k n M cl pc L (w :: S) :=
  W.end_ ok (fun q => by rw [hret] at q; cases q) hk hn hM hQ fun T vm0 locs fs X hr => retOut X ok.x (ok.ret_.trans hret) hnw hi (hb ok.by_ hd) hr
theorem W.retI {Q0 : Option Value → Heap → Prop} (ok : Ok B l Z nar own nm code ml (some .int) R h0 ws fr (OldQ fr Q0) Me) {z : Int32} (hd : decode code pc = .ok (.ireturn, 1)) (hk : k ≤ R.cells) (hn : n ≤ R.slots) (hM : ∀ x ∈ Me, x ∈ M) (hQ : Keep h0 h ws → Q0 (some (.int z)) h) : W B h k n M cl pc L (.int z :: S) :=
  W.retW ok rfl hd rfl (Or.inl ⟨rfl, Or.inl rfl, z, rfl⟩) hk hn (N := refs fr _) (by cases fr <;> exact hM) (fun q => ⟨rfl, hQ q⟩)
theorem W.retZ {Q0 : Option Value → Heap → Prop} (ok : Ok B l Z nar own nm code ml (some .boolean) R h0 ws fr (OldQ fr Q0) Me) {z : Int32} (hd : decode code pc = .ok (.ireturn, 1)) (hz : z &&& 1 = z) (hk : k ≤ R.cells) (hn : n ≤ R.slots) (hM : ∀ x ∈ Me, x ∈ M) (hQ : Keep h0 h ws → Q0 (some (.int z)) h) : W B h k n M cl pc L (.int z :: S) :=
  W.retW ok rfl hd (by show Value.int (z &&& 1) = _; rw [hz]) (Or.inl ⟨rfl, Or.inr (Or.inl rfl), z, rfl⟩) hk hn (N := refs fr _) (by cases fr <;> exact hM) (fun q => ⟨rfl, hQ q⟩)
theorem W.retB {Q0 : Option Value → Heap → Prop} (ok : Ok B l Z nar own nm code ml (some .byte) R h0 ws fr (OldQ fr Q0) Me) {z : Int32} (hd : decode code pc = .ok (.ireturn, 1)) (hz : b8 z = z) (hk : k ≤ R.cells) (hn : n ≤ R.slots) (hM : ∀ x ∈ Me, x ∈ M) (hQ : Keep h0 h ws → Q0 (some (.int z)) h) : W B h k n M cl pc L (.int z :: S) :=
  W.retW ok rfl hd (by show Value.int (b8 z) = _; rw [hz]) (Or.inl ⟨rfl, Or.inr (Or.inr (Or.inl rfl)), z, rfl⟩) hk hn (N := refs fr _) (by cases fr <;> exact hM) (fun q => ⟨rfl, hQ q⟩)
theorem W.retC {Q0 : Option Value → Heap → Prop} (ok : Ok B l Z nar own nm code ml (some .char) R h0 ws fr (OldQ fr Q0) Me) {z : Int32} (hd : decode code pc = .ok (.ireturn, 1)) (hz : c16 z = z) (hk : k ≤ R.cells) (hn : n ≤ R.slots) (hM : ∀ x ∈ Me, x ∈ M) (hQ : Keep h0 h ws → Q0 (some (.int z)) h) : W B h k n M cl pc L (.int z :: S) :=
  W.retW ok rfl hd (by show Value.int (c16 z) = _; rw [hz]) (Or.inl ⟨rfl, Or.inr (Or.inr (Or.inr (Or.inl rfl))), z, rfl⟩) hk hn (N := refs fr _) (by cases fr <;> exact hM) (fun q => ⟨rfl, hQ q⟩)
theorem W.retA {Q0 : Option Value → Heap → Prop} {t : FieldType} (ok : Ok B l Z nar own nm code ml (some t) R h0 ws fr (OldQ fr Q0) Me) {w : Value} (hd : decode code pc = .ok (.areturn, 1)) (ht : t.isReference = true) (hw : w.isRef = true) (hk : k ≤ R.cells) (hn : n ≤ R.slots) (hM : ∀ x ∈ refs fr (some w) ++ Me, x ∈ M) (hQ : Keep h0 h ws → Q0 (some w) h) : W B h k n M cl pc L (w :: S) :=
  W.retW ok rfl hd (by cases w <;> simp [Value.isRef] at hw <;> cases t <;> simp [FieldType.isReference] at ht <;> rfl) (Or.inr (Or.inr (Or.inr (Or.inr ⟨rfl, ht, hw⟩)))) hk hn (N := refs fr _) hM (fun q => ⟨rfl, hQ q⟩)
theorem W.retV {Q0 : Option Value → Heap → Prop} (ok : Ok B l Z nar own nm code ml none R h0 ws fr (OldQ fr Q0) Me) (hd : decode code pc = .ok (.return_, 1)) (hk : k ≤ R.cells) (hn : n ≤ R.slots) (hM : ∀ x ∈ Me, x ∈ M) (hQ : Keep h0 h ws → Q0 none h) : W B h k n M cl pc L [] :=
  W.end_ ok (fun _ => rfl) hk hn (N := refs fr _) (by cases fr <;> exact hM) (fun q => ⟨rfl, hQ q⟩) fun T vm0 locs fs X hr => X.returnOut ok.x ok.ret_ (hb ok.by_ hd) hr
/-- the wide ends: N, what is made and may still be written -/
theorem W.retAN {t : FieldType} (ok : Ok B l Z nar own nm code ml (some t) R h0 ws fr Q Me) {w : Value} (N : List Addr) (hd : decode code pc = .ok (.areturn, 1)) (ht : t.isReference = true) (hw : w.isRef = true) (hk : k ≤ R.cells) (hn : n ≤ R.slots) (hM : ∀ x ∈ N ++ Me, x ∈ M) (hQ : Keep h0 h ws → Q N (some w) h) : W B h k n M cl pc L (w :: S) :=
  W.retW ok rfl hd (by cases w <;> simp [Value.isRef] at hw <;> cases t <;> simp [FieldType.isReference] at ht <;> rfl) (Or.inr (Or.inr (Or.inr (Or.inr ⟨rfl, ht, hw⟩)))) hk hn hM hQ
theorem W.retVN (ok : Ok B l Z nar own nm code ml none R h0 ws fr Q Me) (N : List Addr) (hd : decode code pc = .ok (.return_, 1)) (hk : k ≤ R.cells) (hn : n ≤ R.slots) (hM : ∀ x ∈ N ++ Me, x ∈ M) (hQ : Keep h0 h ws → Q N none h) : W B h k n M cl pc L [] :=
  W.end_ ok (fun _ => rfl) hk hn hM hQ fun T vm0 locs fs X hr => X.returnOut ok.x ok.ret_ (hb ok.by_ hd) hr
end Heap
end Jvm.Pilot.@@N@@.Wk
namespace Jvm.Pilot.@@N@@.Wk
open Jvm Jvm.ClassFile Sem Op Lib Jvm.Free Jvm.Stand Jvm.LawKit Jvm.RoadKit Bundle
/-! ### a method's contract, and how a call spends it -/
def Con2 (l : Launch) (Z : State) (nar : Bool) (y : MethodName) (bytes : ByteArray) (maxL : Nat) (ret : Option FieldType) (rm : Room) (as' : List Value) (h : Heap) (ws : List Addr) (Q : List Addr → List Addr → Option Value → Heap → Prop) : Prop :=
  ∀ (ws0 : List Jvm.Cond) (M : List Addr), (∀ w ∈ ws, w ∈ M) → MetFree l y (head1 (Jvm.Cond.code y bytes maxL ret :: ws0) rm) (fun a U => a = as'.toArray ∧ U.heap = h ∧ Bg Z M U) (fun _ _ _ _ _ => True)
    (fun _ U o U' => ∃ v Lc N, o = .returned v ∧ Q M N v U'.heap ∧ Keep h U'.heap ws ∧ Bg Z (N ++ M) U' ∧ (∀ y ∈ Lc, y.base ∈ ws ∨ h.size ≤ y.base) ∧ ReturnedEndW U o U' Lc rm.cells rm.slots ∧ (nar = true → U.WarmedH U'.vm))
/-- a plain contract -/
def Con (l : Launch) (Z : State) (nar : Bool) (y : MethodName) (bytes : ByteArray) (maxL : Nat) (ret : Option FieldType) (rm : Room) (as' : List Value) (h : Heap) (ws : List Addr) (fr : Bool) (Q : List Addr → Option Value → Heap → Prop) : Prop := Con2 l Z nar y bytes maxL ret rm as' h ws (fun M => OldQ fr (Q M))
theorem ef_of {m : MethodId} {as' : List Value} {n : Nat} {Ls : Array Slot} (h : Jvm.Sym.laidSlots as' ++ List.replicate (n - (Jvm.Sym.laidSlots as').length) .unset = Ls.toList) : entryFrame m as'.toArray n = mkF m 0 Ls [] := by
  have e : argsToLocals as'.toArray n = Ls := Array.toList_inj.mp (by rw [Jvm.Sym.argsToLocals_toList]; exact h)
  exact (rfl : entryFrame m as'.toArray n = mkF m 0 (argsToLocals as'.toArray n) []).trans (congrArg (fun L => mkF m 0 L []) e)
theorem Con2.intro {l : Launch} {Z : State} {nar : Bool} {y : MethodName} {bytes : ByteArray} {maxL : Nat} {ret : Option FieldType} {rm : Room} {as' : List Value} {h : Heap} {ws : List Addr} {Q : List Addr → List Addr → Option Value → Heap → Prop} {L0 : Array Slot}
    (hpl : plainFor y = true) (hef : ∀ m, entryFrame m as'.toArray maxL = mkF m 0 L0 []) (body : ∀ (B : Cx) (M : List Addr), (∀ w ∈ ws, w ∈ M) → Ok B l Z nar y.cls y.name bytes maxL ret rm h ws false (Q M) M → W B h 0 0 M (true, []) 0 L0 []) : Con2 l Z nar y bytes maxL ret rm as' h ws Q := by
  intro ws0 M hM
  refine MetFree.of_bodySF hpl hisR ?_
  intro p e s m args below meth c s₁ Bd hml hP hK
  obtain ⟨rfl, hh, bg⟩ := hP
  have X : Stand p l e rm s m as'.toArray below meth c s₁ [] 0 0 := Stand.of_body Bd
  obtain ⟨t, o, g1, g2, g3, v, Lc, N, g4, g5, g6, g7, g8, g9, g10⟩ := body (p, l, e, rm, s, m, as'.toArray, below, meth, c, Z, nar, ws, M, false, Q M) M hM
    ⟨Bd.exec, Bd.bytes, hml, findClass_of_methodNamed Bd.named, (name_of_methodNamed Bd.named Bd.method).1, Bd.returns, Bd.notSynchronized, bg.1, rfl, rfl, rfl, rfl, rfl, rfl, rfl, rfl, hh⟩ s₁
    ⟨s.vm, s.heap.size, [], by rw [State.setVm_self]; exact X, (State.WarmedH.refl s).since _, by rw [Bd.state]; exact Nat.le_refl _, fun _ => State.WarmedH.refl s, fun _ q => (nomatch q), fun _ _ q => (nomatch q), fun _ q => (nomatch q), by rw [Bd.state]; exact hh, by rw [Bd.state]; exact bg.move bg.1 rfl (Kept.refl _ _)⟩
  refine ⟨t, o, by rw [hef]; exact g1, g2, g3, v, Lc, N, g4, g5, ?_, g7, ?_, g9, g10⟩
  · rw [← hh]; exact g6
  · rw [← hh]; exact g8
theorem Con.intro {l : Launch} {Z : State} {nar : Bool} {y : MethodName} {bytes : ByteArray} {maxL : Nat} {ret : Option FieldType} {rm : Room} {as' : List Value} {h : Heap} {ws : List Addr} {fr : Bool} {Q : List Addr → Option Value → Heap → Prop} {L0 : Array Slot}
    (hpl : plainFor y = true) (hef : ∀ m, entryFrame m as'.toArray maxL = mkF m 0 L0 []) (body : ∀ (B : Cx) (M : List Addr), (∀ w ∈ ws, w ∈ M) → Ok B l Z nar y.cls y.name bytes maxL ret rm h ws fr (OldQ fr (Q M)) M → W B h 0 0 M (true, []) 0 L0 []) : Con l Z nar y bytes maxL ret rm as' h ws fr Q :=
  Con2.intro hpl hef fun B M hM ok => body (B.1, B.2.1, B.2.2.1, B.2.2.2.1, B.2.2.2.2.1, B.2.2.2.2.2.1, B.2.2.2.2.2.2.1, B.2.2.2.2.2.2.2.1, B.2.2.2.2.2.2.2.2.1, B.2.2.2.2.2.2.2.2.2.1, B.2.2.2.2.2.2.2.2.2.2.1, B.2.2.2.2.2.2.2.2.2.2.2.1, B.2.2.2.2.2.2.2.2.2.2.2.2.1, B.2.2.2.2.2.2.2.2.2.2.2.2.2.1, fr, B.2.2.2.2.2.2.2.2.2.2.2.2.2.2.2) M hM ⟨ok.1, ok.2.1, ok.2.2.1, ok.2.2.2.1, ok.2.2.2.2.1, ok.2.2.2.2.2.1, ok.2.2.2.2.2.2.1, ok.2.2.2.2.2.2.2.1, ok.2.2.2.2.2.2.2.2.1, ok.2.2.2.2.2.2.2.2.2.1, ok.2.2.2.2.2.2.2.2.2.2.1, ok.2.2.2.2.2.2.2.2.2.2.2.1, ok.2.2.2.2.2.2.2.2.2.2.2.2.1, ok.2.2.2.2.2.2.2.2.2.2.2.2.2.1, rfl, ok.2.2.2.2.2.2.2.2.2.2.2.2.2.2.2.1, ok.2.2.2.2.2.2.2.2.2.2.2.2.2.2.2.2⟩
theorem Con2.back {l : Launch} {Z : State} {nar : Bool} {y : MethodName} {bytes : ByteArray} {maxL : Nat} {ret : Option FieldType} {rm : Room} {as' : List Value} {h : Heap} {ws : List Addr} {Q : List Addr → List Addr → Option Value → Heap → Prop} {M : List Addr} {a0 : Array Value}
    (C : Con2 l Z nar y bytes maxL ret rm as' h ws Q) (hM : ∀ w ∈ ws, w ∈ M) {p : Program} {e : Env} {below : List Frame} {s : State} {args : Array Value} {R : Room} {len Wd : Nat} (hZ : Z.Warmed39 s.vm)
    (wc : (Jvm.Cond.code y bytes maxL ret).before a0 Z = true) (wz : (Jvm.Cond.initialized y.cls).before a0 Z = true) (hf : rm.frames + 1 ≤ R.frames) (hl : Wd + (maxL + 11) + rm.locals ≤ R.locals) :
    BackS l R p e below s args y len Wd (fun A a => a = as'.toArray ∧ A.U.heap = h ∧ Bg Z M A.U ∧ A.cells + rm.cells ≤ R.cells ∧ A.slots + rm.slots ≤ R.slots)
      (fun A _ v B => ∃ Lc N, Q M N v B.U.heap ∧ Keep h B.U.heap ws ∧ Bg Z (N ++ M) B.U ∧ (∀ y ∈ Lc, y.base ∈ ws ∨ h.size ≤ y.base) ∧ B.locs = A.locs ++ Lc ∧ B.cells = A.cells + rm.cells ∧ B.slots = A.slots + rm.slots ∧ (nar = true → A.U.WarmedH B.U.vm)) :=
  BackS.of_freeW (bytes := bytes) (maxL := maxL) (ret := ret) (E := fun _ U o t Lc k n => k = rm.cells ∧ n = rm.slots ∧ ∃ v N, o = .returned v ∧ Q M N v t.heap ∧ Keep h t.heap ws ∧ Bg Z (N ++ M) t ∧ (∀ y ∈ Lc, y.base ∈ ws ∨ h.size ≤ y.base) ∧ (nar = true → U.WarmedH t.vm)) (C [] M hM) hf hl
    (fun m meth c A a Y hp => have hU : Z.Warmed39 A.U.vm := wtrans hZ Y.warmed
      ⟨by show (Jvm.Cond.and _ .tt).before a A.U = true; rw [Cond.before_and, mv hU wc]; rfl, mv hU wc, mv hU wz, hp.2.2.2.1, hp.2.2.2.2⟩)
    (fun m meth c A a g mk Y hp => ⟨hp.1, hp.2.1, hp.2.2.1.move (U' := A.U.calling g mk a) hp.2.2.1.1 rfl (Kept.refl _ _)⟩) (fun _ _ _ _ _ _ _ _ _ => trivial)
    (fun _ _ _ _ ⟨v, Lc, N, h1, h2, h3, h4, h5, h6, h7⟩ => ⟨Lc, _, _, h6, rfl, rfl, v, N, h1, h2, h3, h4, h5, h7⟩)
    (fun m meth c A a g mk v t Lc k n Y hp _ _ ⟨e1, e2, v', N, e3, e4, e5, e6, e7, e8⟩ => by
      cases e3; subst e1 e2
      exact ⟨Lc, N, e4, e5, e6.move (U' := ({ A.U with heap := t.heap, slotsUsed := t.slotsUsed } : State).setVm t.vm) e6.1 rfl (Kept.refl _ _), e7, rfl, rfl, rfl, e8⟩)
section Calls
variable {B : Cx} {l : Launch} {Z : State} {nar : Bool} {own nm : String} {code : ByteArray} {ml : Nat} {ret : Option FieldType} {R : Room} {h0 : Heap} {ws : List Addr} {fr : Bool} {Q : List Addr → Option Value → Heap → Prop} {Me : List Addr}
variable {h : Heap} {k n : Nat} {M : List Addr} {cl : Cl} {pc pc' : Nat} {L : Array Slot} {S : List Value} {a0 : Array Value}
variable {idx : Nat} {y : MethodName} {bytes : ByteArray} {maxL : Nat} {ret' : Option FieldType} {rm' : Room} {as' rest : List Value} {ws' : List Addr} {Q' : List Addr → List Addr → Option Value → Heap → Prop} {ps : List FieldType} {r : Option FieldType} {cl' : Cl}
theorem W.call {len : Nat} (ok : Ok B l Z nar own nm code ml ret R h0 ws fr Q Me) (wc : (Jvm.Cond.code y bytes maxL ret').before a0 Z = true) (wz : (Jvm.Cond.initialized y.cls).before a0 Z = true) (C : Con2 l Z nar y bytes maxL ret' rm' as' h ws' Q')
    (hws : ∀ w ∈ ws', w ∈ M ∧ (w ∈ ws ∨ h0.size ≤ w)) (hcl : cl'.1 = true → cl.1 = true ∧ ∀ w ∈ ws', h0.size ≤ w) (hcs : cl'.2 = cl.2) (hf : rm'.frames + 1 ≤ R.frames) (hlo : (rest.map fun v => v.category).sum + (maxL + 11) + rm'.locals ≤ R.locals) (hcc : k + rm'.cells ≤ R.cells) (hnn : n + rm'.slots ≤ R.slots)
    (core : ∀ (T : State) (vm0 : Vm) (locs : List Loc), Stand B.p B.l B.e B.R (B.s.setVm vm0) B.m B.args B.below B.meth B.c T locs k n → Z.Warmed39 (B.s.setVm vm0).vm → (B.s.setVm vm0).vm.findClass own = some B.m.cls → T.heap = h →
      ∀ {Pre : Pt → Array Value → Prop} {Post : Pt → Array Value → Option Value → Pt → Prop}, BackS B.l B.R B.p B.e B.below (B.s.setVm vm0) B.args y len (rest.map fun v => v.category).sum Pre Post → (∀ vm₁, (B.s.setVm vm0).WarmedH vm₁ → Pre ⟨T.setVm vm₁, locs, k, n⟩ as'.toArray) →
      ∃ (v : Option Value) (vm₁ : Vm) (A : Pt), (B.s.setVm vm0).WarmedH vm₁ ∧ Stand B.p B.l B.e B.R ((B.s.setVm vm0).setVm A.U.vm) B.m B.args B.below B.meth B.c A.U A.locs A.cells A.slots ∧ (B.s.setVm vm0).Since A.U.vm A.U.heap.size ∧ T.heap.size ≤ A.U.heap.size ∧ Post ⟨T.setVm vm₁, locs, k, n⟩ as'.toArray v A ∧
        Steps B.p.tables B.e B.below (T.setTop (mkF B.m pc L S)) (A.U.setTop (mkF B.m pc' L (v.toList ++ rest))))
    (K : ∀ (N : List Addr) (v : Option Value) (h' : Heap), Q' M N v h' → Keep h h' ws' → W B h' (k + rm'.cells) (n + rm'.slots) (N ++ M) cl' pc' L (v.toList ++ rest)) : W B h k n M cl pc L S := by
  intro T P
  obtain ⟨vm0, k0, locs, X, hS, hk0, hnar, hL, hc, hlt, eT, bg⟩ := P
  have eZ := ok.Z_
  subst eZ
  have eR := ok.R_
  subst eR
  have el := ok.l_
  subst el
  have hsz : h0.size ≤ h.size := by rw [← ok.h_, ← eT]; exact X.same.2.1
  have hz := ok.zv hS
  have hK := C.back (M := M) (p := B.p) (e := B.e) (below := B.below) (s := B.s.setVm vm0) (args := B.args) (len := len) (fun w hw => (hws w hw).1) hz wc wz hf hlo
  obtain ⟨v, vm1, ⟨T', L', k', n'⟩, hw1, X', hS', hgr, ⟨Lc, N, q1, q2, q3, q4, q5, q6, q7, q8⟩, st⟩ := core T vm0 locs X hz (ok.ownv hS) eT
    hK (fun vm1 hw => ⟨rfl, eT, bg.move (U' := T.setVm vm1) (wtrans hz hw) (hw.interned_eq.trans X.warmed.interned_eq.symm) (Kept.refl _ _), hcc, hnn⟩)
  dsimp only [Pt.U, Pt.locs, Pt.cells, Pt.slots] at X' hS' hgr q1 q2 q3 q4 q5 q6 q7 q8 st
  subst q5 q6 q7
  obtain ⟨hS2, hZ2⟩ : B.s.Since T'.vm T'.heap.size ∧ True := ⟨hS.trans hS' (Nat.le_trans hk0 hgr), trivial⟩
  refine Gd.step (fun t q => st.trans q) (K N v T'.heap q1 q2 T' ⟨T'.vm, T'.heap.size, locs ++ Lc, X', hS2, Nat.le_refl _, fun q => ?_, fun x hx => ?_, fun q x hx => ?_, fun e he => ?_, rfl, q3⟩)
  · exact State.WarmedH.trans (t := T.setVm vm1) (State.WarmedH.trans (t := B.s.setVm vm0) (hnar q) hw1) (q8 (ok.nar_ ▸ q))
  · rcases List.mem_append.mp hx with z | z
    · exact hL x z
    · rw [ok.ws_, ok.h_]
      rcases q4 x z with u | u
      · exact (hws _ u).2
      · exact Or.inr (Nat.le_trans hsz u)
  · rcases List.mem_append.mp hx with z | z
    · exact hc (hcl q).1 x z
    · rw [ok.h_]
      rcases q4 x z with u | u
      · exact (hcl q).2 _ u
      · exact Nat.le_trans hsz u
  · rw [hcs] at he
    obtain ⟨a, ha⟩ := hlt e he
    exact ⟨a, Lit.stays ha hS'.1⟩
abbrev notMH (s : String) : Prop := s ≠ "java/lang/invoke/MethodHandle" ∧ s ≠ "java/lang/invoke/VarHandle"
theorem W.callS (ok : Ok B l Z nar own nm code ml ret R h0 ws fr Q Me) (w1 : (Jvm.Cond.methodLink own idx y).before a0 Z = true) (w2 : (Jvm.Cond.static y).before a0 Z = true) (wz : (Jvm.Cond.initialized y.cls).before a0 Z = true) (wc : (Jvm.Cond.code y bytes maxL ret').before a0 Z = true) (hy : notMH y.cls)
    (hds : parseMethodDescriptor y.desc = some ⟨ps, r⟩) (hlen : as'.length = ps.length) (C : Con2 l Z nar y bytes maxL ret' rm' as' h ws' Q') (hws : ∀ w ∈ ws', w ∈ M ∧ (w ∈ ws ∨ h0.size ≤ w)) (hcl : cl'.1 = true → cl.1 = true ∧ ∀ w ∈ ws', h0.size ≤ w) (hcs : cl'.2 = cl.2) (hL : L.size = ml)
    (hf : rm'.frames + 1 ≤ R.frames) (hlo : (rest.map fun v => v.category).sum + (maxL + 11) + rm'.locals ≤ R.locals) (hcc : k + rm'.cells ≤ R.cells) (hnn : n + rm'.slots ≤ R.slots) (hd : decode code pc = .ok (.invokestatic idx, 3)) (hp : pc + 3 = pc') (hst : S = as'.reverse ++ rest)
    (K : ∀ (N : List Addr) (v : Option Value) (h' : Heap), Q' M N v h' → Keep h h' ws' → W B h' (k + rm'.cells) (n + rm'.slots) (N ++ M) cl' pc' L (v.toList ++ rest)) : W B h k n M cl pc L S := by
  subst hp
  refine W.call (len := 3) ok wc wz C hws hcl hcs hf hlo hcc hnn (fun T vm0 locs X hz ho eT Pre Post hK hpre => ?_) K
  exact callSS X ok.x ho (mv hz w1) (mv hz w2) (mv hz wz) (mv hz wc) hy hK (g := mkF B.m pc L S) rfl (by rw [ok.ml_]; exact hL) (argsL := as') (rest := rest) (lenOf hds hlen) hst (by show 2 * 0 + _ ≤ _; omega) (hb ok.by_ hd) hpre
theorem W.callI (ok : Ok B l Z nar own nm code ml ret R h0 ws fr Q Me) {a : Addr} (hy1 : y.name = "<init>") (w1 : (Jvm.Cond.methodLink own idx y).before a0 Z = true) (w2 : (Jvm.Cond.instanceMethod y).before a0 Z = true) (wz : (Jvm.Cond.initialized y.cls).before a0 Z = true) (wc : (Jvm.Cond.code y bytes maxL none).before a0 Z = true) (hy : notMH y.cls)
    (hds : parseMethodDescriptor y.desc = some ⟨ps, r⟩) (hlen : as'.length = ps.length) (C : Con2 l Z nar y bytes maxL none rm' (.ref a :: as') h ws' Q') (hws : ∀ w ∈ ws', w ∈ M ∧ (w ∈ ws ∨ h0.size ≤ w)) (hcl : cl'.1 = true → cl.1 = true ∧ ∀ w ∈ ws', h0.size ≤ w) (hcs : cl'.2 = cl.2) (hL : L.size = ml)
    (hf : rm'.frames + 1 ≤ R.frames) (hlo : (rest.map fun v => v.category).sum + (maxL + 11) + rm'.locals ≤ R.locals) (hcc : k + rm'.cells ≤ R.cells) (hnn : n + rm'.slots ≤ R.slots) (hd : decode code pc = .ok (.invokespecial idx, 3)) (hp : pc + 3 = pc') (hst : S = as'.reverse ++ .ref a :: rest)
    (K : ∀ (N : List Addr) (v : Option Value) (h' : Heap), Q' M N v h' → Keep h h' ws' → W B h' (k + rm'.cells) (n + rm'.slots) (N ++ M) cl' pc' L (v.toList ++ rest)) : W B h k n M cl pc L S := by
  subst hp
  refine W.call (len := 3) ok wc wz C hws hcl hcs hf hlo hcc hnn (fun T vm0 locs X hz ho eT Pre Post hK hpre => ?_) K
  exact X.specialBackS ok.x hy1 ho (mv hz w1) (mv hz w2) (mv hz wc) hy hK (g := mkF B.m pc L S) rfl (by rw [ok.ml_]; exact hL) (Steps.refl _) (argsL := as') (rest := rest) (lenOf hds hlen) hst (by show 2 * 0 + _ ≤ _; omega) (hb ok.by_ hd) hpre
theorem W.callV (ok : Ok B l Z nar own nm code ml ret R h0 ws fr Q Me) {a : Addr} {C0 : String} (w1 : (Jvm.Cond.methodLink own idx y).before a0 Z = true) (w2 : (Jvm.Cond.declares y).before a0 Z = true) (w3 : (Jvm.Cond.selects C0 y y).before a0 Z = true) (w4 : (Jvm.Cond.instanceMethod y).before a0 Z = true) (wz : (Jvm.Cond.initialized y.cls).before a0 Z = true) (wc : (Jvm.Cond.code y bytes maxL ret').before a0 Z = true) (hy : notMH y.cls)
    (E : Exa Z h a C0) (hds : parseMethodDescriptor y.desc = some ⟨ps, r⟩) (hlen : as'.length = ps.length) (C : Con2 l Z nar y bytes maxL ret' rm' (.ref a :: as') h ws' Q') (hws : ∀ w ∈ ws', w ∈ M ∧ (w ∈ ws ∨ h0.size ≤ w)) (hcl : cl'.1 = true → cl.1 = true ∧ ∀ w ∈ ws', h0.size ≤ w) (hcs : cl'.2 = cl.2) (hL : L.size = ml)
    (hf : rm'.frames + 1 ≤ R.frames) (hlo : (rest.map fun v => v.category).sum + (maxL + 11) + rm'.locals ≤ R.locals) (hcc : k + rm'.cells ≤ R.cells) (hnn : n + rm'.slots ≤ R.slots) (hd : decode code pc = .ok (.invokevirtual idx, 3)) (hp : pc + 3 = pc') (hst : S = as'.reverse ++ .ref a :: rest)
    (K : ∀ (N : List Addr) (v : Option Value) (h' : Heap), Q' M N v h' → Keep h h' ws' → W B h' (k + rm'.cells) (n + rm'.slots) (N ++ M) cl' pc' L (v.toList ++ rest)) : W B h k n M cl pc L S := by
  subst hp
  refine W.call (len := 3) ok wc wz C hws hcl hcs hf hlo hcc hnn (fun T vm0 locs X hz ho eT Pre Post hK hpre => ?_) K
  obtain ⟨cB, kB, q1, q2, q3⟩ := isOf hz eT E
  exact X.virtualBackS ok.x ho (mv hz w1) (mv hz w2) (notFace_of_selects (args := #[]) (mv hz w3)) (mv hz w3) (mv hz w4) hy hK q1 q3 (g := mkF B.m pc L S) rfl (by rw [ok.ml_]; exact hL) (Steps.refl _) (argsL := as') (rest := rest) (lenOf hds hlen) hst (by show 2 * 0 + _ ≤ _; omega) (hb ok.by_ hd) hpre
theorem W.callF (ok : Ok B l Z nar own nm code ml ret R h0 ws fr Q Me) {a : Addr} {C0 : String} {yr : MethodName} {count : Nat} (w1 : (Jvm.Cond.methodLink own idx yr).before a0 Z = true) (w2 : (Jvm.Cond.declares yr).before a0 Z = true) (w5 : (Jvm.Cond.interfaceMethod yr.cls yr.cls yr.name yr.desc).before a0 Z = true) (k5 : ((Jvm.Cond.interfaceMethod yr.cls yr.cls yr.name yr.desc).onTables && (Jvm.Cond.interfaceMethod yr.cls yr.cls yr.name yr.desc).keepsFace) = true) (w3 : (Jvm.Cond.selects C0 yr y).before a0 Z = true) (w4 : (Jvm.Cond.instanceMethod y).before a0 Z = true)
    (w6 : (Jvm.Cond.publicMethod y).before a0 Z = true) (w7 : (Jvm.Cond.unhidden C0 yr.name yr.desc).before a0 Z = true) (w8 : (Jvm.Cond.castable C0 yr.cls).before a0 Z = true) (wz : (Jvm.Cond.initialized y.cls).before a0 Z = true) (wc : (Jvm.Cond.code y bytes maxL ret').before a0 Z = true) (hy : notMH yr.cls)
    (E : Exa Z h a C0) (hds : parseMethodDescriptor yr.desc = some ⟨ps, r⟩) (hlen : as'.length = ps.length) (C : Con2 l Z nar y bytes maxL ret' rm' (.ref a :: as') h ws' Q') (hws : ∀ w ∈ ws', w ∈ M ∧ (w ∈ ws ∨ h0.size ≤ w)) (hcl : cl'.1 = true → cl.1 = true ∧ ∀ w ∈ ws', h0.size ≤ w) (hcs : cl'.2 = cl.2) (hL : L.size = ml)
    (hf : rm'.frames + 1 ≤ R.frames) (hlo : (rest.map fun v => v.category).sum + (maxL + 11) + rm'.locals ≤ R.locals) (hcc : k + rm'.cells ≤ R.cells) (hnn : n + rm'.slots ≤ R.slots) (hd : decode code pc = .ok (.invokeinterface idx count, 5)) (hp : pc + 5 = pc') (hst : S = as'.reverse ++ .ref a :: rest)
    (K : ∀ (N : List Addr) (v : Option Value) (h' : Heap), Q' M N v h' → Keep h h' ws' → W B h' (k + rm'.cells) (n + rm'.slots) (N ++ M) cl' pc' L (v.toList ++ rest)) : W B h k n M cl pc L S := by
  subst hp
  refine W.call (len := 5) ok wc wz C hws hcl hcs hf hlo hcc hnn (fun T vm0 locs X hz ho eT Pre Post hK hpre => ?_) K
  obtain ⟨cB, kB, q1, q2, q3⟩ := isOf hz eT E
  exact X.interfaceBackS ok.x ho (mv hz w1) (mv hz w2) (mv hz w5 k5) (mv hz w3) (mv hz w4) (mv hz w6) (mv hz w7) (mv hz w8) hy hK q1 q2 q3 (g := mkF B.m pc L S) rfl (by rw [ok.ml_]; exact hL) (Steps.refl _) (argsL := as') (rest := rest) (lenOf hds hlen) hst (by show 2 * 0 + _ ≤ _; omega) (hb ok.by_ hd) hpre
theorem W.weaken {k' n' : Nat} {cl' : Cl} (hk : k ≤ k') (hn : n ≤ n') (hcl : cl'.1 = true → cl.1 = true) (hcs : ∀ e ∈ cl'.2, e ∈ cl.2) (K : W B h k' n' M cl' pc L S) : W B h k n M cl pc L S := fun T P => by
  obtain ⟨vm0, k0, locs, X, hS, hk0, hnar, hL, hc, hlt, eT, bg⟩ := P
  exact K T ⟨vm0, k0, locs, X.mono hk hn, hS, hk0, hnar, hL, fun q => hc (hcl q), fun e he => hlt e (hcs e he), eT, bg⟩
theorem W.drop {M' : List Addr} (hM : ∀ x ∈ M', x ∈ M) (K : W B h k n M' cl pc L S) : W B h k n M cl pc L S := fun T P => by
  obtain ⟨vm0, k0, locs, X, hS, hk0, hnar, hL, hc, hlt, eT, bg⟩ := P
  exact K T ⟨vm0, k0, locs, X, hS, hk0, hnar, hL, hc, hlt, eT, bg.shrink hM⟩
/-- what the walk knows of the addresses still to be written -/
theorem W.lt (K : (∀ b ∈ M, h.size > b) → W B h k n M cl pc L S) : W B h k n M cl pc L S := fun T P => by
  obtain ⟨vm0, k0, locs, X, hS, hk0, hnar, hL, hc, hlt, eT, bg⟩ := P
  exact K (fun b hb => by rw [← eT]; exact bg.2.2.2.2 b hb) T ⟨vm0, k0, locs, X, hS, hk0, hnar, hL, hc, hlt, eT, bg⟩
theorem W.old (ok : Ok B l Z nar own nm code ml ret R h0 ws fr Q Me) (K : Ext Z.heap h → h0.size ≤ h.size → W B h k n M cl pc L S) : W B h k n M cl pc L S := fun T P => by
  obtain ⟨vm0, k0, locs, X, hS, hk0, hnar, hL, hc, hlt, eT, bg⟩ := P
  exact K (by rw [← eT, ← ok.Z_]; exact bg.2.2.1) (by rw [← ok.h_, ← eT]; exact X.same.2.1) T ⟨vm0, k0, locs, X, hS, hk0, hnar, hL, hc, hlt, eT, bg⟩
theorem oldK {fr' : Bool} {Q0 : Option Value → Heap → Prop} {k' n' : Nat} (K : ∀ (v : Option Value) (h' : Heap), Q0 v h' → Keep h h' ws' → W B h' k' n' (refs fr' v ++ M) cl pc L (v.toList ++ rest)) : ∀ (N : List Addr) (v : Option Value) (h' : Heap), OldQ fr' Q0 N v h' → Keep h h' ws' → W B h' k' n' (N ++ M) cl pc L (v.toList ++ rest) := by
  rintro N v h' ⟨rfl, q⟩ kp
  exact K v h' q kp
theorem pureK {w : Value} {k' n' : Nat} (K : W B h k' n' M cl pc L (w :: rest)) : ∀ (N : List Addr) (v : Option Value) (h' : Heap), OldQ false (fun v h' => v = some w ∧ h' = h) N v h' → Keep h h' ws' → W B h' k' n' (N ++ M) cl pc L (v.toList ++ rest) := by
  rintro N v h' ⟨rfl, rfl, rfl⟩ -
  exact K
theorem pureK0 {k' n' : Nat} (K : W B h k' n' M cl pc L rest) : ∀ (N : List Addr) (v : Option Value) (h' : Heap), OldQ false (fun v h' => v = none ∧ h' = h) N v h' → Keep h h' ws' → W B h' k' n' (N ++ M) cl pc L (v.toList ++ rest) := by
  rintro N v h' ⟨rfl, rfl, rfl⟩ -
  exact K
theorem ext_keep {h h' : Heap} (K : Keep h h' []) : Ext h h' := ⟨K.1, fun a c q => K.2.1 a c q fun z => (nomatch z)⟩
end Calls
end Jvm.Pilot.@@N@@.Wk
namespace Jvm.Pilot.@@N@@.Wk
open Jvm Jvm.ClassFile Sem Op Lib Jvm.Free Jvm.Stand Jvm.LawKit Jvm.RoadKit Bundle Jvm.Free.SB Jvm.Free.SBG
/-! ### Strings: nobody writes them, all chars known -/
abbrev ST : String := "java/lang/String"
def wide : List Int32 → List Int32
  | [] => []
  | c :: r => b8 c :: b8 (c >>> ((8 : Int32) &&& 31)) :: wide r
def Cod (cd : Int32) (cs bs : List Int32) : Prop :=
  (cd = 0 ∧ bs = cs.map b8 ∧ ∀ c ∈ cs, 0 ≤ c.toInt ∧ c.toInt ≤ 255) ∨ (cd = 1 ∧ bs = wide cs ∧ (∀ c ∈ cs, 0 ≤ c.toInt ∧ c.toInt ≤ 65535) ∧ ∃ c ∈ cs, 255 < c.toInt)
def StrM (Z : State) (h : Heap) (M : List Addr) (a : Addr) (cs : List Int32) : Prop :=
  ∃ (t : Addr) (cd : Int32) (bs : List Int32), a ∉ M ∧ t ∉ M ∧ Exa Z h a ST ∧ Fld Z h a ST "value" "[B" (.ref t) ∧ Fld Z h a ST "coder" "B" (.int cd) ∧ ArI Z h t .byte bs ∧ Cod cd cs bs
theorem StrM.kept {Z : State} {h h' : Heap} {M : List Addr} {a : Addr} {cs : List Int32} (F : StrM Z h M a cs) (K : Kept M h h') : StrM Z h' M a cs := by
  obtain ⟨t, cd, bs, q1, q2, q3, q4, q5, q6, q7⟩ := F
  exact ⟨t, cd, bs, q1, q2, Exa.kept q3 K q1, Fld.kept q4 K q1, Fld.kept q5 K q1, q6.kept K q2, q7⟩
theorem StrM.ext {Z : State} {h h' : Heap} {M : List Addr} {a : Addr} {cs : List Int32} (F : StrM Z h M a cs) (E : Ext h h') : StrM Z h' M a cs := F.kept (Kept.ext E)
theorem StrM.keep {Z : State} {h h' : Heap} {M ws : List Addr} {a : Addr} {cs : List Int32} (F : StrM Z h M a cs) (K : Keep h h' ws) (hw : ∀ w ∈ ws, w ∈ M) : StrM Z h' M a cs := F.kept (Kept.keep K hw)
theorem StrM.wr {Z : State} {h h' : Heap} {M : List Addr} {a b : Addr} {cs : List Int32} {sl : Nat} {v : Value} (F : StrM Z h M a cs) (W : Wr h h' b sl v) (hb : b ∈ M) : StrM Z h' M a cs := F.kept (Kept.wr W hb)
theorem StrM.mono {Z : State} {h : Heap} {M M' : List Addr} {a : Addr} {cs : List Int32} (F : StrM Z h M a cs) (hM : ∀ b ∈ M', b ∈ M ∨ h.size ≤ b) : StrM Z h M' a cs := by
  obtain ⟨t, cd, bs, q1, q2, q3, q4, q5, q6, q7⟩ := F
  exact ⟨t, cd, bs, fun r => (hM _ r).elim q1 fun z => absurd q3.lt (Nat.not_lt.mpr z), fun r => (hM _ r).elim q2 fun z => absurd q6.lt (Nat.not_lt.mpr z), q3, q4, q5, q6, q7⟩
theorem StrM.cons {Z : State} {h h' : Heap} {M : List Addr} {a b : Addr} {cs : List Int32} (F : StrM Z h M a cs) (hb : h.size = b) (E : Ext h h') : StrM Z h' (b :: M) a cs :=
  (F.mono (M' := b :: M) fun x hx => (List.mem_cons.mp hx).elim (fun q => Or.inr (Nat.le_of_eq (hb.trans q.symm))) Or.inl).ext E
theorem StrM.exa {Z : State} {h : Heap} {M : List Addr} {a : Addr} {cs : List Int32} (F : StrM Z h M a cs) : Exa Z h a ST := by obtain ⟨t, cd, bs, q1, q2, q3, -⟩ := F; exact q3
theorem StrM.lt {Z : State} {h : Heap} {M : List Addr} {a : Addr} {cs : List Int32} (F : StrM Z h M a cs) : a < h.size := F.exa.lt
theorem StrM.gt {Z : State} {h : Heap} {M : List Addr} {a : Addr} {cs : List Int32} (F : StrM Z h M a cs) : h.size > a := F.lt
theorem StrM.nin {Z : State} {h : Heap} {M : List Addr} {a : Addr} {cs : List Int32} (F : StrM Z h M a cs) : a ∉ M := by obtain ⟨t, cd, bs, q1, -⟩ := F; exact q1
def Str (Z : State) (h : Heap) (a : Addr) (cs : List Int32) : Prop :=
  ∃ (t : Addr) (cd : Int32) (bs : List Int32), Exa Z h a ST ∧ Fld Z h a ST "value" "[B" (.ref t) ∧ Fld Z h a ST "coder" "B" (.int cd) ∧ ArI Z h t .byte bs ∧ Cod cd cs bs
theorem StrM.str {Z : State} {h : Heap} {M : List Addr} {a : Addr} {cs : List Int32} (F : StrM Z h M a cs) : Str Z h a cs := by obtain ⟨t, cd, bs, -, -, q⟩ := F; exact ⟨t, cd, bs, q⟩
theorem Str.ext {Z : State} {h h' : Heap} {a : Addr} {cs : List Int32} (F : Str Z h a cs) (E : Ext h h') : Str Z h' a cs := by obtain ⟨t, cd, bs, q1, q2, q3, q4, q5⟩ := F; exact ⟨t, cd, bs, q1.ext E, q2.ext E, q3.ext E, q4.ext E, q5⟩
theorem Str.cast {Z : State} {h : Heap} {a : Addr} {cs cs' : List Int32} (F : Str Z h a cs) (e : cs = cs') : Str Z h a cs' := e ▸ F
theorem Str.exa {Z : State} {h : Heap} {a : Addr} {cs : List Int32} (F : Str Z h a cs) : Exa Z h a ST := by obtain ⟨t, cd, bs, q, -⟩ := F; exact q
theorem StrM.cast {Z : State} {h : Heap} {M : List Addr} {a : Addr} {cs cs' : List Int32} (F : StrM Z h M a cs) (e : cs = cs') : StrM Z h M a cs' := e ▸ F
theorem Cod.rng {cd : Int32} {cs bs : List Int32} (h : Cod cd cs bs) : ∀ c ∈ cs, 0 ≤ c.toInt ∧ c.toInt ≤ 65535 := by
  rcases h with ⟨-, -, h⟩ | ⟨-, -, h, -⟩
  · exact fun c hc => ⟨(h c hc).1, by have := (h c hc).2; omega⟩
  · exact h
theorem StrM.rng {Z : State} {h : Heap} {M : List Addr} {a : Addr} {cs : List Int32} (F : StrM Z h M a cs) : ∀ c ∈ cs, 0 ≤ c.toInt ∧ c.toInt ≤ 65535 := by obtain ⟨t, cd, bs, -, -, -, -, -, -, q⟩ := F; exact q.rng
theorem wide_length : ∀ cs : List Int32, (wide cs).length = 2 * cs.length
  | [] => rfl
  | c :: r => by simp only [wide, List.length_cons, wide_length r]; omega
/-- the chars of a literal -/
def chs (t : String) : List Int32 := t.toList.map fun c => Int32.ofNat c.toNat
theorem b8_byteI : ∀ u : UInt16, u < 256 → b8 (Int32.ofNat u.toNat) = Jvm.Lit.byteI u ∧ 0 ≤ (Int32.ofNat u.toNat).toInt ∧ (Int32.ofNat u.toNat).toInt ≤ 255 := by
  have key : ∀ i : Fin 256, b8 (Int32.ofNat i.val) = Jvm.Lit.byteI (UInt16.ofNat i.val) ∧ 0 ≤ (Int32.ofNat i.val).toInt ∧ (Int32.ofNat i.val).toInt ≤ 255 := by decide +kernel
  intro u hu
  have h256 : u.toNat < 256 := UInt16.lt_iff_toNat_lt.mp hu
  have := key ⟨u.toNat, h256⟩
  simpa using this
theorem StrM.of_sl {Z U : State} {M : List Addr} {a : Addr} {units : Array UInt16} (hal : Z.vm.Alike U.vm) (hlat : units.all (· < 256) = true) (s : SlM M U a units) : StrM Z U.heap M a (units.toList.map fun u => Int32.ofNat u.toNat) := by
  obtain ⟨q, cS, hqa, ⟨⟨s1, s2, s3, ⟨cv, kv, iv, s4, s4'⟩, ⟨cc, kc, ic, s5, s5'⟩, s6, s7, s8, s9, s10, s11, s12, s13, s14, s15, s16⟩, hfS, hcS⟩, ⟨kS, k1, k2, k3⟩, hB, hbyt, n1, n2⟩ := s
  subst hqa
  obtain ⟨kv', z4⟩ := ff_back hal s4
  obtain ⟨kc', z5⟩ := ff_back hal s5
  have hfZ : Z.vm.findClass "java/lang/String" = some q.sC.cls := by rw [← hal.findClass, hcS]; exact hfS
  obtain ⟨kz, hkz, -⟩ := Vm.findClass_spec hfZ
  obtain ⟨kz', hkz', ekz⟩ := hal.2.2 _ _ hkz
  have ekS : kz' = kS := Option.some.inj (hkz'.symm.trans (hcS ▸ k1))
  have hBZ : Z.vm.findClass "[B" = some q.SA.cls := by rw [← hal.findClass]; exact hB
  obtain ⟨kb, hkb, -⟩ := Vm.findClass_spec hBZ
  obtain ⟨kb', hkb', ekb⟩ := hal.2.2 _ _ hkb
  obtain ⟨hst, k9, hk9, comp, hkind9⟩ := s11
  have ek9 : k9 = kb' := Option.some.inj (hk9.symm.trans hkb')
  have hAZ : Z.isArrayOf q.SA .byte := ⟨hst, kb, hkb, comp, by rw [ek9, ekb] at hkind9; exact hkind9⟩
  have hl : ∀ u ∈ units.toList, u < 256 := fun u hu => by
    have := (Array.all_eq_true_iff_forall_mem.mp hlat) u (Array.mem_toList_iff.mp hu)
    simpa using this
  have hsl : q.SA.slots = units.map fun u => Value.int (Jvm.Lit.byteI u) := by rw [hbyt, SBG.stringBytes_lat hlat]; rfl
  refine ⟨q.sd, 0, units.toList.map Jvm.Lit.byteI, n1, n2, ⟨q.sC, kz, s1, hfZ, hkz, s3, fun ho => by rw [k3, ← ekS, ekz]⟩, ⟨q.sC, cv, kv', iv, q.fSV, s1, z4, s6, s2, s3, by rw [← hal.assignable]; exact s4', s8⟩, ⟨q.sC, cc, kc', ic, q.fSC, s1, z5, s7, s2, s3, by rw [← hal.assignable]; exact s5', s9⟩, ⟨q.SA, ⟨s10, hAZ, s12⟩, ?_, fun x hx => ?_⟩, Or.inl ⟨rfl, ?_, fun c hc => ?_⟩⟩
  · rw [hsl]
    apply Array.toList_inj.mp
    simp
  · obtain ⟨u, -, rfl⟩ := List.mem_map.mp hx
    exact SBG.fits_of_int8 _
  · rw [List.map_map]
    exact List.map_congr_left fun u hu => ((b8_byteI u (hl u hu)).1).symm
  · obtain ⟨u, hu, rfl⟩ := List.mem_map.mp hc
    exact (b8_byteI u (hl u hu)).2
theorem chs_of {units : Array UInt16} {text : String} (h : utf16ToString? units = some text) (ht : ∀ c ∈ text.toList, c.toNat < 256) : (units.toList.map fun u => Int32.ofNat u.toNat) = chs text := by
  rw [Jvm.ClassFile.units_of_text h ht, List.map_map]
  refine List.map_congr_left fun c hc => ?_
  have := ht c hc
  simp only [Function.comp]
  congr 1
  simp [Nat.toUInt16]
  omega
/-- an old String of a case is one that nobody writes -/
theorem SlM.of_old {Z U : State} {M : List Addr} {a : Addr} {units : Array UInt16} (s : SlOf Z a units) (b : Bg Z M U) : SlM M U a units := by
  obtain ⟨q, cS, h1, h2, ⟨kS, k1, k2, k3⟩, h4, h5⟩ := s
  have hal := b.1.alike
  obtain ⟨kS', hk', ek⟩ := hal.2.2 _ _ k1
  have g1 := h2.1.1
  have g2 := h2.1.2.2.2.2.2.2.2.2.2.1
  exact ⟨q, cS, h1, h2.carry hal (b.2.2.1.2 _ _ g1) (b.2.2.1.2 _ _ g2), ⟨kS', hk', by rw [ek]; exact k2, by rw [ek]; exact k3⟩, by rw [hal.findClass]; exact h4, h5,
    fun r => absurd (Array.getElem?_eq_some_iff.mp g1).1 (Nat.not_lt.mpr (b.2.2.2.1 _ r)), fun r => absurd (Array.getElem?_eq_some_iff.mp g2).1 (Nat.not_lt.mpr (b.2.2.2.1 _ r))⟩
section Ldc
variable {B : Cx} {l : Launch} {Z : State} {nar : Bool} {own nm : String} {code : ByteArray} {ml : Nat} {ret : Option FieldType} {R : Room} {h0 : Heap} {ws : List Addr} {fr : Bool} {Q : List Addr → Option Value → Heap → Prop} {Me : List Addr}
variable {h : Heap} {k n : Nat} {M : List Addr} {cl : Cl} {pc pc' : Nat} {L : Array Slot} {S : List Value} {a0 : Array Value}
theorem find_push {A : Array (Array UInt16 × Addr)} {u u' : Array UInt16} {a a' : Addr} (h : (A.push (u', a')).find? (fun p => p.1 == u) = some (u, a)) : A.find? (fun p => p.1 == u) = some (u, a) ∨ (A.find? (fun p => p.1 == u) = none ∧ u' = u ∧ a' = a) := by
  rw [Array.find?_push] at h
  cases hf : A.find? (fun p => p.1 == u) with
  | some x => rw [hf] at h; exact Or.inl (by simpa using h)
  | none =>
    rw [hf] at h
    simp at h
    exact Or.inr ⟨rfl, h.1, h.2⟩
theorem W.ldcS (ok : Ok B l Z nar own nm code ml ret R h0 ws fr Q Me) (hnar : nar = false) {idx : Nat} {text : String} (w : (Jvm.Cond.stringLink own idx text).before a0 Z = true) (wS : ∀ a ∈ Bundle.stringAtoms, a.before a0 Z = true) (hh : Jvm.Lit.constHeld Z own idx) (hcw : Jvm.Lit.compactW.before a0 Z = true)
    (ht : ∀ c ∈ text.toList, c.toNat < 256) (hcl : cl.1 = true ∨ (own, idx) ∈ cl.2) {sz : Nat} (hsz : 4 * text.toList.length ≤ sz) (hbig : sz ≤ 536870912) (hd : decode code pc = .ok (.ldc idx, 2)) (hp : pc + 2 = pc') (hc : k + 2 ≤ R.cells) (hn : n + (sz + 4) ≤ R.slots)
    (K : ∀ (a : Addr) (h' : Heap), Ext h h' → StrM Z h' M a (chs text) → W B h' (k + 2) (n + (sz + 4)) M (cl.1, (own, idx) :: cl.2) pc' L (.ref a :: S)) : W B h k n M cl pc L S := by
  subst hp
  intro T P
  obtain ⟨vm0, k0, locs, X, hS, hk0, hnr, hL, hcl', hlt, eT, bg⟩ := P
  have eZ := ok.Z_
  have eR := ok.R_
  rw [eZ] at bg
  have hz : Z.Warmed39 T.vm := bg.1
  have hal : Z.vm.Alike T.vm := hz.alike
  have X1 : Stand B.p B.l B.e B.R (B.s.setVm T.vm) B.m B.args B.below B.meth B.c T locs k n := X.retabled X.warmed.wide
  have hS1 : B.s.Since T.vm T.heap.size := hS.trans (X.warmed.since _) hk0
  have hown : (B.s.setVm T.vm).vm.findClass own = some B.m.cls := (hS1.1.alike.findClass _ _).trans ok.own_
  have wl : (Jvm.Cond.stringLink own idx text).before B.args (B.s.setVm T.vm) = true := mvS hz w
  obtain ⟨k1, cf, i, units, hk1, hcf, hcp, hu, hnm, htext, hres⟩ := Cond.stringLink_spec hown wl
  have hlat := Jvm.ClassFile.lat_of_text htext ht
  have q2 : k1.cf.bind (namesOf? ·.constantPool idx) = some (.string text) := by rw [hcf]; exact hnm
  have q3 : k1.cf.bind (·.constantPool[idx]?) = some (.string i) := by rw [hcf]; exact hcp
  have q4 : k1.cf.bind (·.constantPool.utf8? i) = some units := by rw [hcf]; simp [ConstantPool.utf8?, hu]
  have wi : (Jvm.Cond.instantiable "java/lang/String" 4).before a0 Z = true := wS _ (by simp [Bundle.stringAtoms, Bundle.sN])
  have wa : (Jvm.Cond.arrayClass .byte).before a0 Z = true := wS _ (by simp [Bundle.stringAtoms])
  have hH : ConstHeldL Z own idx := heldStart hh w ht hcw wa wi
  -- the class's record at the case's start
  have hownZ : Z.vm.findClass own = some B.m.cls := by rw [← hal.findClass]; exact hown
  obtain ⟨kz, cfz, iz, uz, hkz, hcfz, hcpz, huz, hnmz, htextz, hresz⟩ := Cond.stringLink_spec hownZ w
  obtain ⟨kT, hkT, ekT, -, hent, -⟩ := hz.2.2.2 _ _ hkz
  have e1 : kT = k1 := Option.some.inj (hkT.symm.trans hk1)
  subst e1
  have ecf : cfz = cf := by have : kT.cf = kz.cf := by rw [ekT]
                            rw [this, hcfz] at hcf; exact Option.some.inj hcf
  subst ecf
  have ei : iz = i := by have := hcpz.symm.trans hcp; simpa using this
  subst ei
  have eu : uz = units := by have := huz.symm.trans hu; simpa using this
  subst eu
  have held : ∀ a, T.vm.interned.find? (fun p => p.1 == uz) = some (uz, a) → SlM M T a uz ∨ Z.vm.interned.find? (fun p => p.1 == uz) = some (uz, a) := fun a hf => (bg.2.1 uz a hlat hf).symm
  have hownT : T.vm.findClass own = some B.m.cls := hown
  have hkT1 : T.vm.classes[B.m.cls]? = some kT := hk1
  have hltT : ∀ e ∈ cl.2, ∃ a, Lit (B.s.setVm T.vm) e.1 e.2 a := fun e he => by
    obtain ⟨a, ha⟩ := hlt e he
    exact ⟨a, Lit.stays ha X.warmed.wide⟩
  rcases hres with hopen | ⟨a, hres⟩
  · have hcl : cl.1 = true := hcl.elim id fun q => by
      obtain ⟨a, ha⟩ := hltT _ q
      simp [Lit, State.resolvedAt?, hownT, hkT1, hopen] at ha
    cases hf : T.vm.interned.find? (fun p => p.1 == uz) with
    | some pr =>
      obtain ⟨u', a⟩ := pr
      have hu' : u' = uz := by
        have := Array.find?_some hf
        simpa using this
      subst hu'
      have hW : (B.s.setVm T.vm).Warmed39 (T.vm.noted B.m.cls idx (.string a)) := X1.warmed.wide.notedString hk1 (Or.inl hopen) q2 q3 q4 hf
      have X2 := (X1.mono (Nat.le_add_right k 2) (Nat.le_add_right n (sz + 4))).retabled hW
      have sl : SlM M T a u' := by
        rcases held a hf with q | q
        · exact q
        · refine SlM.of_old ?_ bg
          rcases hent idx with e0 | ⟨hop, r, e1, -⟩
          · exact hH _ kz cfz iz u' a hownZ hkz hcfz hcpz huz (Or.inr ⟨e0 ▸ hopen, q⟩)
          · rw [hopen] at e1; simp at e1
      have bg2 : Bg Z M (T.setVm (T.vm.noted B.m.cls idx (.string a))) := bg.move (State.Warmed39.trans (t := B.s.setVm T.vm) hz hW) rfl (Kept.refl _ _)
      have st2 : StrM Z h M a (chs text) := by
        have := StrM.of_sl hal hlat sl
        rw [chs_of htext ht, eT] at this; exact this
      refine Gd.step (U' := (T.setVm (T.vm.noted B.m.cls idx (.string a))).setTop (mkF B.m (pc + 2) L (.ref a :: S))) (fun t q => ?_) (K a h ⟨Nat.le_refl _, fun _ _ q => q⟩ st2 _ ⟨T.vm.noted B.m.cls idx (.string a), T.heap.size, locs, X2, hS1.trans ⟨hW, State.Booked.step (T₂ := T.setVm (T.vm.noted B.m.cls idx (.string a))) (X1.warmed.no_new_pair _) X1.same.2.1 ⟨Nat.le_refl _, Or.inl rfl⟩⟩ (Nat.le_refl _), Nat.le_refl _, fun q => ?_, hL, hcl', fun e he => ?_, eT, by rw [eZ]; exact bg2⟩)
      · have hdd := hb ok.by_ hd
        jvm_step X1.here [ok.x, hdd, ldc.wp_string_found (e := B.e) (s := T) (f := mkF B.m pc L S) X1.here.top hk1 hcf hcp hu hopen hf]
        exact q
      · rw [ok.nar_, hnar] at q; cases q
      · rcases List.mem_cons.mp he with rfl | he
        · refine ⟨a, ?_⟩
          have hf2 : (T.vm.noted B.m.cls idx (.string a)).findClass own = some B.m.cls := (hW.alike.findClass _ _).trans hown
          obtain ⟨kk, hq1, hq2⟩ : ∃ k2 : Class, (T.vm.noted B.m.cls idx (.string a)).classes[B.m.cls]? = some k2 ∧ k2.resolved[idx]? = some (some (.string a)) := ⟨_, Vm.classes_note_self idx (.string a) hkT1, Class.resolved_note_self (.string a) hopen⟩
          simp [Lit, State.resolvedAt?, hf2, hq1, hq2]
        · obtain ⟨b, hb'⟩ := hltT e he
          exact ⟨b, Lit.stays hb' hW⟩
    | none =>
      have hheld : ConstHeldL (B.s.setVm T.vm) own idx := by
        intro c k2 cf2 i2 units2 a hc2 hk2 hcf2 hp2 hu2 hor
        cases hc2.symm.trans hown
        cases hk2.symm.trans hk1
        cases hcf2.symm.trans hcf
        cases hp2.symm.trans hcp
        cases hu2.symm.trans hu
        rcases hor with q | ⟨-, q⟩
        · rw [hopen] at q; simp at q
        · rw [show (B.s.setVm T.vm).vm.interned = T.vm.interned from rfl, hf] at q; cases q
      have hold : ∀ (b : Addr) (c : Cell), (B.s.setVm T.vm).heap[b]? = some c → T.heap[b]? = some c := oldF X1 (fun y hy => hcl' hcl y hy)
      obtain ⟨a, T2, X2, hS2, ⟨k2, hk2, hr2⟩, hkp, hi1, hint, ⟨units2, htext2, hin⟩, st⟩ := X1.ldcColdF hold ok.x (own := own) hown wl (fun d hd => by
        have q := wS d hd
        simp only [Bundle.stringAtoms, List.mem_cons, List.not_mem_nil, or_false] at hd
        rcases hd with rfl | rfl | rfl | rfl | rfl | rfl | rfl
        · exact mv (s := B.s.setVm T.vm) hz q
        · exact mv (s := B.s.setVm T.vm) hz q
        · exact mvA (s := B.s.setVm T.vm) hz q
        · exact mv (s := B.s.setVm T.vm) hz q
        · exact mv (s := B.s.setVm T.vm) hz q
        · exact mv (s := B.s.setVm T.vm) hz q
        · exact mv (s := B.s.setVm T.vm) hz q) hheld (fun us hus => Jvm.ClassFile.lat_of_text hus ht) (g := mkF B.m pc L S) rfl (hb ok.by_ hd) hsz hbig (by rw [eR]; exact hc) (by rw [eR]; exact hn)
      have same : ∀ us : Array UInt16, utf16ToString? us = some text → us = uz := fun us hus => Array.toList_inj.mp (by rw [Jvm.ClassFile.units_of_text hus ht, Jvm.ClassFile.units_of_text htext ht])
      have eu2 := same units2 htext2
      subst eu2
      have hz2 : Z.Warmed39 T2.vm := State.Warmed39.trans (t := B.s.setVm T.vm) hz hS2.1
      -- where the entry points now
      have hfa : T2.vm.interned.find? (fun p => p.1 == units2) = some (units2, a) := by
        obtain ⟨k2', hk2', -, -, ee, -⟩ := hS2.1.2.2.2 _ _ hk1
        cases hk2.symm.trans hk2'
        rcases ee idx with e0 | ⟨-, r, e1, hr | ⟨a3, t3, si, us, rfl, -, z3, z4, z5⟩⟩
        · rw [hr2, hopen] at e0; simp at e0
        · exfalso
          rw [hr2] at e1
          simp only [Option.some.injEq] at e1
          subst e1
          simp [State.rightAt, hk1, hcf, hnm] at hr
        · rw [hr2] at e1
          have ea : a = a3 := by simpa using e1
          subst ea
          rw [q3] at z3
          have : si = iz := by simpa using z3.symm
          subst this
          rw [q4] at z4
          have : us = units2 := by simpa using z4.symm
          subst this
          exact z5
      have hpush : T2.vm.interned = T.vm.interned.push (units2, a) ∧ T.heap.size ≤ a := by
        rcases hint with e0 | ⟨us, a', hus, e0⟩
        · rw [e0, hf] at hfa; cases hfa
        · have := same us hus
          subst this
          rw [e0] at hfa
          rcases find_push hfa with q | ⟨-, -, q⟩
          · rw [hf] at q; cases q
          · subst q
            refine ⟨e0, ?_⟩
            rcases hi1.2 with e2 | ⟨u3, a3, e2, e3, -⟩
            · rw [e0] at e2
              have := congrArg Array.size e2
              simp at this
            · have e4 := e0.symm.trans e2
              have e5 := congrArg Array.back? e4
              simp at e5
              rw [e5.2]; exact e3
      have Kp : Kept M T.heap T2.heap := ⟨hi1.1, fun b c q _ => by rw [hkp b (Array.getElem?_eq_some_iff.mp q).1]; exact q⟩
      have sl : SlM M T2 a units2 := by
        obtain ⟨q, cS, g1, g2, g3, g4, g5, g6⟩ := hin
        rcases g6 with ⟨g6, -⟩ | ⟨g6, g7⟩
        · exfalso
          have := X1.same.2.1
          rw [g1] at g6
          have h3 : (B.s.setVm T.vm).heap.size ≤ T.heap.size := this
          exact absurd g6 (Nat.not_lt.mpr (Nat.le_trans h3 hpush.2))
        · exact ⟨q, cS, g1, g2, g3, g4, g5, fun r => absurd (bg.2.2.2.2 _ r) (Nat.not_lt.mpr g6), fun r => absurd (bg.2.2.2.2 _ r) (Nat.not_lt.mpr g7)⟩
      have hal2 : T.vm.Alike T2.vm := hal.symm.trans hz2.alike
      have bg2 : Bg Z M T2 := by
        refine ⟨hz2, fun us b hl2 hf2 => ?_, ⟨Nat.le_trans bg.2.2.1.1 Kp.1, fun x c q => Kp.2 x c (bg.2.2.1.2 x c q) fun z => absurd (Array.getElem?_eq_some_iff.mp q).1 (Nat.not_lt.mpr (bg.2.2.2.1 x z))⟩, bg.2.2.2.1, fun x z => Nat.lt_of_lt_of_le (bg.2.2.2.2 x z) Kp.1⟩
        rw [hpush.1] at hf2
        rcases find_push hf2 with q | ⟨-, q, q'⟩
        · exact (bg.2.1 us b hl2 q).imp id fun s => s.move hal2 Kp.2
        · subst q q'; exact Or.inr sl
      have st2 : StrM Z T2.heap M a (chs text) := by
        have := StrM.of_sl hz2.alike hlat sl
        rw [chs_of htext ht] at this; exact this
      have E : Ext h T2.heap := by
        rw [← eT]
        exact ⟨hi1.1, fun b c q => by rw [hkp b (Array.getElem?_eq_some_iff.mp q).1]; exact q⟩
      refine Gd.step st (K a T2.heap E st2 T2 ⟨T2.vm, T2.heap.size, locs, X2, hS1.trans hS2 hi1.1, Nat.le_refl _, fun q => ?_, hL, hcl', fun e he => ?_, rfl, by rw [eZ]; exact bg2⟩)
      · rw [ok.nar_, hnar] at q; cases q
      · rcases List.mem_cons.mp he with rfl | he
        · refine ⟨a, ?_⟩
          have hf2 : T2.vm.findClass own = some B.m.cls := (hS2.1.alike.findClass _ _).trans hown
          simp [Lit, State.resolvedAt?, hf2, hk2, hr2]
        · obtain ⟨b, hb'⟩ := hltT e he
          exact ⟨b, Lit.stays hb' hS2.1⟩
  · have Li : Lit (B.s.setVm T.vm) own idx a := by simp [Lit, State.resolvedAt?, hownT, hkT1, hres]
    have sl : SlM M T a uz := by
      rcases hent idx with e0 | ⟨hop, r, e1, hr | ⟨a3, t3, si, us, rfl, -, z3, z4, z5⟩⟩
      · exact SlM.of_old (hH _ kz cfz iz uz a hownZ hkz hcfz hcpz huz (Or.inl (e0 ▸ hres))) bg
      · exfalso
        rw [hres] at e1
        simp only [Option.some.injEq] at e1
        subst e1
        simp [State.rightAt, hkz, hcfz, hnmz] at hr
      · rw [hres] at e1
        have ea : a = a3 := by simpa using e1
        subst ea
        have z3' : cfz.constantPool[idx]? = some (.string si) := by rw [hcfz] at z3; exact z3
        have : si = iz := by have := z3'.symm.trans hcpz; simpa using this
        subst this
        have z4' : us = uz := by rw [hcfz] at z4; simpa [ConstantPool.utf8?, huz] using z4.symm
        subst z4'
        rcases held a z5 with q | q
        · exact q
        · exact SlM.of_old (hH _ kz cfz si us a hownZ hkz hcfz hcpz huz (Or.inr ⟨hop, q⟩)) bg
    have st2 : StrM Z h M a (chs text) := by
      have := StrM.of_sl hal hlat sl
      rw [chs_of htext ht, eT] at this; exact this
    refine Gd.step (ldcAgain X1 ok.x hz hown w Li (g := mkF B.m pc L S) rfl (hb ok.by_ hd)) (K a h ⟨Nat.le_refl _, fun _ _ q => q⟩ st2 T ⟨T.vm, T.heap.size, locs, X1.mono (Nat.le_add_right k 2) (Nat.le_add_right n (sz + 4)), hS1, Nat.le_refl _, fun q => ?_, hL, hcl', fun e he => ?_, eT, by rw [eZ]; exact bg⟩)
    · rw [ok.nar_, hnar] at q; cases q
    · rcases List.mem_cons.mp he with rfl | he
      · exact ⟨a, Li⟩
      · exact hltT e he
end Ldc
end Jvm.Pilot.@@N@@.Wk
namespace Jvm.Pilot.@@N@@.Wk
open Jvm Jvm.ClassFile Sem Op Lib Jvm.Free Jvm.Stand Jvm.LawKit Jvm.RoadKit Bundle
/-! ### numbers -/
theorem c16_rng (x : Int32) : 0 ≤ (c16 x).toInt ∧ (c16 x).toInt ≤ 65535 := by have := c_i2c x; unfold c16; omega
theorem c16_mod (x : Int32) : (c16 x).toInt = x.toInt % 65536 := by have := c_i2c x; unfold c16; omega
theorem c16_of {c : Int32} (h : 0 ≤ c.toInt ∧ c.toInt ≤ 65535) : c16 c = c := Int32.toInt_inj.mp (by have := c16_mod c; omega)
theorem c16_c16 (x : Int32) : c16 (c16 x) = c16 x := c16_of (c16_rng x)
theorem b8_rng (x : Int32) : -128 ≤ (b8 x).toInt ∧ (b8 x).toInt ≤ 127 ∧ ((b8 x).toInt - x.toInt) % 256 = 0 := by have := c_i2b x; unfold b8; omega
theorem b8_of {c : Int32} (h : -128 ≤ c.toInt ∧ c.toInt ≤ 127) : b8 c = c := Int32.toInt_inj.mp (by have := b8_rng c; omega)
theorem b8_b8 (x : Int32) : b8 (b8 x) = b8 x := b8_of (by have := b8_rng x; omega)
theorem and255 (x : Int32) : (x &&& 255).toInt = x.toInt % 256 := c_mask x 255 8 (by decide) (by decide)
theorem b8_and {c : Int32} (h : 0 ≤ c.toInt ∧ c.toInt ≤ 255) : b8 c &&& 255 = c := Int32.toInt_inj.mp (by have := b8_rng c; have := and255 (b8 c); omega)
theorem shr8 (x : Int32) : (x >>> ((8 : Int32) &&& 31)).toInt = x.toInt / 256 := c_ishr x 8 8 (by decide)
theorem shr0 (x : Int32) : x >>> ((0 : Int32) &&& 31) = x := Int32.toInt_inj.mp (by have := c_ishr x 0 0 (by decide); simpa using this)
theorem shr1 (x : Int32) : (x >>> ((1 : Int32) &&& 31)).toInt = x.toInt / 2 := c_ishr x 1 1 (by decide)
theorem shl1 (x : Int32) : ((x <<< ((1 : Int32) &&& 31)).toInt - x.toInt * 2) % 4294967296 = 0 := c_ishl x 1 1 (by decide)
theorem pair {c : Int32} (h : 0 ≤ c.toInt ∧ c.toInt ≤ 65535) : c16 (((b8 c &&& 255) <<< ((0 : Int32) &&& 31)) ||| ((b8 (c >>> ((8 : Int32) &&& 31)) &&& 255) <<< ((8 : Int32) &&& 31))) = c := by
  have e1 := and255 (b8 c)
  have e2 := b8_rng c
  have e3 := and255 (b8 (c >>> ((8 : Int32) &&& 31)))
  have e4 := b8_rng (c >>> ((8 : Int32) &&& 31))
  have e5 := shr8 c
  generalize b8 c &&& 255 = u at *
  generalize b8 (c >>> ((8 : Int32) &&& 31)) &&& 255 = w at *
  have f1 := c_ishl u 0 0 (by decide)
  have f2 := c_ishl w 8 8 (by decide)
  have g1 := rng32 (u <<< ((0 : Int32) &&& 31))
  have g2 := rng32 (w <<< ((8 : Int32) &&& 31))
  generalize u <<< ((0 : Int32) &&& 31) = u' at *
  generalize w <<< ((8 : Int32) &&& 31) = w' at *
  have f3 := c_or' u' w' 8 (by decide) 256 (by decide) (by omega) (by omega) (by omega)
  have f4 := c16_mod (u' ||| w')
  have f5 := rng32 (u' ||| w')
  exact Int32.toInt_inj.mp (by omega)
theorem i32_len {n : Nat} (h : n < 2147483648) : (n.toInt32).toInt = n := len_toInt h
theorem Cod.len {cd : Int32} {cs bs : List Int32} (h : Cod cd cs bs) (hl : cs.length < 1000000) : bs.length.toInt32 >>> (cd &&& 31) = cs.length.toInt32 := by
  rcases h with ⟨rfl, rfl, -⟩ | ⟨rfl, rfl, -⟩
  · rw [shr0, List.length_map]
  · apply Int32.toInt_inj.mp
    rw [shr1, i32_len (by rw [wide_length]; omega), i32_len (by omega), wide_length]; omega
theorem Cod.cd01 {cd : Int32} {cs bs : List Int32} (h : Cod cd cs bs) : b8 cd = cd := by
  rcases h with ⟨rfl, -⟩ | ⟨rfl, -⟩ <;> rfl
theorem nat_i32 {n : Nat} (h : n < 2147483648) : (n.toInt32).toNatClampNeg = n := by
  simp only [Int32.toNatClampNeg, i32_len h]; omega
theorem wide_at : ∀ (cs : List Int32) (i : Nat) (c : Int32), cs[i]? = some c → (wide cs)[2 * i]? = some (b8 c) ∧ (wide cs)[2 * i + 1]? = some (b8 (c >>> ((8 : Int32) &&& 31)))
  | [], i, c, h => by simp at h
  | x :: r, 0, c, h => by simp at h; subst h; simp [wide]
  | x :: r, i + 1, c, h => by
    have := wide_at r i c (by simpa using h)
    have e : 2 * (i + 1) = 2 * i + 1 + 1 := by omega
    rw [e]
    simpa [wide] using this
theorem lt_of_at {cs : List Int32} {i : Nat} {c : Int32} (h : cs[i]? = some c) : i < cs.length := (List.getElem?_eq_some_iff.mp h).1
theorem mem_of_at {cs : List Int32} {i : Nat} {c : Int32} (h : cs[i]? = some c) : c ∈ cs := List.mem_of_getElem? h
theorem neg_iff (x : Int32) : x < 0 ↔ x.toInt < 0 := by rw [Int32.lt_iff_toInt_lt]; rfl
theorem fits_char_rng {x : Int32} (h : fits .char (.int x) = true) : 0 ≤ x.toInt ∧ x.toInt ≤ 65535 := by
  have := rng_char h
  rw [Int32.lt_iff_toInt_lt, Int32.lt_iff_toInt_lt] at this
  have e0 : (0 : Int32).toInt = 0 := rfl
  have e1 : (65535 : Int32).toInt = 65535 := rfl
  omega
theorem i32_succ (i : Nat) : i.toInt32 + 1 = (i + 1).toInt32 := by
  show Int32.ofNat i + 1 = Int32.ofNat (i + 1)
  rw [Int32.ofNat_add]; rfl
theorem fill_step {cs : List Int32} {i m : Nat} {c : Int32} (hc : cs[i]? = some c) : ((cs.take i).map b8 ++ List.replicate (m + 1) 0).set i (b8 c) = (cs.take (i + 1)).map b8 ++ List.replicate m 0 := by
  have hi := lt_of_at hc
  have hl : ((cs.take i).map b8).length = i := by simp; omega
  rw [List.set_append_right _ _ (by omega), hl, Nat.sub_self, List.replicate_succ, List.set_cons_zero, List.take_add_one, hc]
  simp
theorem take_all (cs : List Int32) (i : Nat) (h : i = cs.length) : (cs.take i).map b8 ++ List.replicate 0 0 = cs.map b8 := by simp [h]
theorem wide_app : ∀ (a b : List Int32), wide (a ++ b) = wide a ++ wide b
  | [], b => rfl
  | x :: a, b => by simp [wide, wide_app a b]
theorem wfill_step {cs : List Int32} {i m : Nat} {c : Int32} (hc : cs[i]? = some c) : ((wide (cs.take i) ++ List.replicate (2 * (m + 1)) 0).set (2 * i) (b8 c)).set (2 * i + 1) (b8 (c >>> ((8 : Int32) &&& 31))) = wide (cs.take (i + 1)) ++ List.replicate (2 * m) 0 := by
  have hi := lt_of_at hc
  have hl : (wide (cs.take i)).length = 2 * i := by rw [wide_length, List.length_take]; omega
  have e : 2 * (m + 1) = 2 * m + 1 + 1 := by omega
  rw [List.set_append_right _ _ (by omega), hl, Nat.sub_self, e, List.replicate_succ, List.set_cons_zero, List.set_append_right _ _ (by omega), hl, List.replicate_succ, List.take_add_one, hc, wide_app]
  have e2 : 2 * i + 1 - 2 * i = 1 := by omega
  rw [e2]
  simp [wide]
theorem i32_lt {a b : Nat} (ha : a < 2147483648) (hb : b < 2147483648) : a.toInt32 < b.toInt32 ↔ a < b := by rw [Int32.lt_iff_toInt_lt, i32_len ha, i32_len hb]; omega
theorem i32_inj {a b : Nat} (ha : a < 2147483648) (hb : b < 2147483648) : a.toInt32 = b.toInt32 ↔ a = b := by
  constructor
  · intro q
    have := congrArg Int32.toInt q
    rw [i32_len ha, i32_len hb] at this; omega
  · intro q; rw [q]
theorem i32_nn {a : Nat} (ha : a < 2147483648) : ¬ a.toInt32 < 0 := by rw [neg_iff, i32_len ha]; omega
theorem at_lt {cs : List Int32} {i : Nat} (h : i < cs.length) : ∃ c, cs[i]? = some c := ⟨cs[i], by simp⟩
theorem le255 {c : Int32} (h : c.toInt ≤ 255) : ¬ (255 : Int32) < c := by rw [Int32.lt_iff_toInt_lt]; have : (255 : Int32).toInt = 255 := rfl; omega
theorem gt255 {c : Int32} (h : 255 < c.toInt) : (255 : Int32) < c := by rw [Int32.lt_iff_toInt_lt]; have : (255 : Int32).toInt = 255 := rfl; omega
/-- a list of chars: none, all narrow, or a first wide one -/
theorem three (cs : List Int32) : (∀ c ∈ cs, c.toInt ≤ 255) ∨ ∃ (q : Nat) (cq : Int32), cs[q]? = some cq ∧ 255 < cq.toInt ∧ ∀ (j : Nat) (c : Int32), j < q → cs[j]? = some c → c.toInt ≤ 255 := by
  induction cs with
  | nil => exact Or.inl (fun c hc => by cases hc)
  | cons x r ih =>
    by_cases hx : x.toInt ≤ 255
    · rcases ih with h | ⟨q, cq, h1, h2, h3⟩
      · exact Or.inl (fun c hc => (List.mem_cons.mp hc).elim (fun e => e ▸ hx) (h c))
      · refine Or.inr ⟨q + 1, cq, by simpa using h1, h2, fun j c hj hc => ?_⟩
        cases j with
        | zero => simp at hc; subst hc; exact hx
        | succ j => exact h3 j c (by omega) (by simpa using hc)
    · exact Or.inr ⟨0, x, rfl, by omega, fun j c hj => by omega⟩
theorem i32_of {z : Int32} (h : 0 ≤ z.toInt) : ∃ n : Nat, z = n.toInt32 ∧ (n : Int) = z.toInt :=
  ⟨z.toInt.toNat, Int32.toInt_inj.mp (by rw [i32_len (by have := rng32 z; omega)]; omega), by omega⟩
theorem lowL (d : Int64) : 0 ≤ (c16 (d &&& 255).toInt32).toInt ∧ (c16 (d &&& 255).toInt32).toInt ≤ 255 := by
  have e1 : (d &&& 255).toInt = d.toInt % 256 := c_maskL d 255 8 (by decide) (by decide)
  have e2 := c_l2i (d &&& 255)
  have e3 := c16_mod (d &&& 255).toInt32
  have := rng32 (d &&& 255).toInt32
  omega
theorem lowI (x : Int32) : 0 ≤ (c16 (x &&& 255)).toInt ∧ (c16 (x &&& 255)).toInt ≤ 255 := by
  have e1 := and255 x
  have e3 := c16_mod (x &&& 255)
  omega
theorem maskI (x m : Int32) (k : Nat) (hk : k ≤ 31) (hm : m.toBitVec.toNat = 2 ^ k - 1) : 0 ≤ (x &&& m).toInt ∧ (x &&& m).toInt < (2 ^ k : Nat) := by
  have := c_mask x m k hk hm
  have h2 : (0 : Int) < ((2 ^ k : Nat) : Int) := by exact_mod_cast Nat.two_pow_pos k
  rw [this]
  exact ⟨Int.emod_nonneg _ (by omega), Int.emod_lt_of_pos _ h2⟩
theorem rem_rng {x y : Int32} {d : Int} (hy : y.toInt = d) (hd : 0 < d) (h : 0 ≤ x.toInt) : 0 ≤ (x % y).toInt ∧ (x % y).toInt < d := by
  have := (c_irem x y d hy).1 h
  rw [this]
  exact ⟨Int.emod_nonneg _ (by omega), Int.emod_lt_of_pos _ hd⟩
theorem unb8 : ∀ cs : List Int32, (∀ c ∈ cs, 0 ≤ c.toInt ∧ c.toInt ≤ 255) → (cs.map b8).map (· &&& 255) = cs
  | [], _ => rfl
  | c :: r, h => by
    simp only [List.map_cons]
    rw [b8_and (h c (List.mem_cons_self ..)), unb8 r fun x hx => h x (List.mem_cons_of_mem _ hx)]
def unw : List Int32 → List Int32
  | u :: w :: r => c16 (((u &&& 255) <<< ((0 : Int32) &&& 31)) ||| ((w &&& 255) <<< ((8 : Int32) &&& 31))) :: unw r
  | _ => []
theorem unw_wide : ∀ cs : List Int32, (∀ c ∈ cs, 0 ≤ c.toInt ∧ c.toInt ≤ 65535) → unw (wide cs) = cs
  | [], _ => rfl
  | c :: r, h => by
    simp only [wide, unw]
    rw [pair (h c (List.mem_cons_self ..)), unw_wide r fun x hx => h x (List.mem_cons_of_mem _ hx)]
theorem Cod.inj {cd : Int32} {cs ds bs es : List Int32} (h : Cod cd cs bs) (g : Cod cd ds es) : bs = es ↔ cs = ds := by
  rcases h with ⟨rfl, rfl, h⟩ | ⟨rfl, rfl, h, -⟩ <;> rcases g with ⟨g0, rfl, g⟩ | ⟨g0, rfl, g, -⟩
  · exact ⟨fun e => by rw [← unb8 cs h, ← unb8 ds g, e], fun e => by rw [e]⟩
  · simp at g0
  · simp at g0
  · exact ⟨fun e => by rw [← unw_wide cs h, ← unw_wide ds g, e], fun e => by rw [e]⟩
theorem Cod.apart {cd ce : Int32} {cs ds bs es : List Int32} (h : Cod cd cs bs) (g : Cod ce ds es) (hne : ¬ cd = ce) : ¬ cs = ds := by
  intro e
  subst e
  rcases h with ⟨rfl, -, h⟩ | ⟨rfl, -, -, x, hx, hx2⟩ <;> rcases g with ⟨rfl, -, g⟩ | ⟨rfl, -, -, y, hy, hy2⟩
  · exact hne rfl
  · have := h y hy; omega
  · have := g x hx; omega
  · exact hne rfl
theorem Fld.uniq {Z : State} {h : Heap} {a : Addr} {C f d : String} {v w : Value} (F : Fld Z h a C f d v) (G : Fld Z h a C f d w) : v = w := by
  by_cases q : v = w
  · exact q
  · exact absurd rfl (Fld.ne F G q)
theorem ArI.uniq {Z : State} {h : Heap} {a : Addr} {ty ty' : FieldType} {cs ds : List Int32} (F : ArI Z h a ty cs) (G : ArI Z h a ty' ds) : cs = ds := by
  obtain ⟨c, A, e, -⟩ := F
  obtain ⟨c', A', e', -⟩ := G
  cases A.1.symm.trans A'.1
  have : (cs.map Value.int).toArray = (ds.map Value.int).toArray := e.symm.trans e'
  have := congrArg Array.toList this
  simp at this
  exact (List.map_inj_right (fun x y q => by injection q)).mp this
theorem Str.inj {Z : State} {h : Heap} {a : Addr} {cs ds : List Int32} (F : Str Z h a cs) (G : Str Z h a ds) : cs = ds := by
  obtain ⟨t, cd, bs, -, f2, f3, f4, f5⟩ := F
  obtain ⟨u, ce, es, -, g2, g3, g4, g5⟩ := G
  have e1 := Fld.uniq f2 g2
  have e2 := Fld.uniq f3 g3
  simp only [Value.ref.injEq, Value.int.injEq] at e1 e2
  subst e1 e2
  exact (f5.inj g5).mp (f4.uniq g4)
theorem take_succ_eq {bs es : List Int32} {i : Nat} {x : Int32} (h : bs.take i = es.take i) (h1 : bs[i]? = some x) (h2 : es[i]? = some x) : bs.take (i + 1) = es.take (i + 1) := by
  rw [List.take_add_one, List.take_add_one, h, h1, h2]
theorem eq_int_v {args : Array Value} {s : State} {t : Term} {v : Int32} (h : (Jvm.Cond.eq t (.int v)).value args s none s [] = some true) : t.eval args s none [] s = some (.int v) := by
  simp only [Cond.value, Term.eval] at h
  cases ht : t.eval args s none [] s with
  | none => simp [ht] at h
  | some x => cases x <;> simp [ht] at h ⊢; exact h
theorem ushr31_zero : b8 (XT.ushr (0 : Int32) (31 : Int32)) = 0 := by decide +kernel
theorem ushr_len {n : Nat} (h0 : 0 < n) (h : n < 1000000) : b8 (XT.ushr (n.toInt32 - (2 * n).toInt32) (31 : Int32)) = 1 := by
  have e1 := c_isub n.toInt32 (2 * n).toInt32
  rw [i32_len (by omega), i32_len (by omega)] at e1
  have r := rng32 (n.toInt32 - (2 * n).toInt32)
  have e2 := c_iushr (n.toInt32 - (2 * n).toInt32) 31 31 (by decide) (by decide)
  have e3 : XT.ushr (n.toInt32 - (2 * n).toInt32) 31 = 1 := Int32.toInt_inj.mp (by
    have : (1 : Int32).toInt = 1 := rfl
    unfold XT.ushr
    rw [e2]; omega)
  rw [e3]; rfl
end Jvm.Pilot.@@N@@.Wk
namespace Jvm.Pilot.@@N@@.Wk
open Jvm Jvm.ClassFile Sem Op Lib Jvm.Free Jvm.Stand Jvm.LawKit Jvm.RoadKit Bundle
/-! ### arrays of references; what a case tells of its own objects -/
def ArR (Z : State) (h : Heap) (a : Addr) (ty : FieldType) (vs : List Value) : Prop := ∃ c : Cell, Arr Z h a c ty ∧ c.slots = vs.toArray
theorem ArR.ext {Z : State} {h h' : Heap} {a : Addr} {ty : FieldType} {vs : List Value} (F : ArR Z h a ty vs) (E : Ext h h') : ArR Z h' a ty vs := by obtain ⟨c, A, r⟩ := F; exact ⟨c, A.ext E, r⟩
theorem ArR.keep {Z : State} {h h' : Heap} {a : Addr} {ty : FieldType} {vs : List Value} {ws : List Addr} (F : ArR Z h a ty vs) (K : Keep h h' ws) (q : a ∉ ws) : ArR Z h' a ty vs := by obtain ⟨c, A, r⟩ := F; exact ⟨c, ⟨K.2.1 a c A.1 q, A.2⟩, r⟩
theorem ArR.other {Z : State} {h h' : Heap} {a b : Addr} {ty : FieldType} {vs : List Value} {sl : Nat} {v : Value} (F : ArR Z h b ty vs) (W : Wr h h' a sl v) (q : b ≠ a) : ArR Z h' b ty vs := by obtain ⟨c, A, r⟩ := F; exact ⟨c, A.other W q, r⟩
theorem ArR.gt {Z : State} {h : Heap} {a : Addr} {ty : FieldType} {vs : List Value} (F : ArR Z h a ty vs) : h.size > a := by obtain ⟨c, A, -⟩ := F; exact A.lt
theorem ArR.cast {Z : State} {h : Heap} {a : Addr} {ty : FieldType} {vs vs' : List Value} (F : ArR Z h a ty vs) (e : vs = vs') : ArR Z h a ty vs' := e ▸ F
theorem slots_eq {cl : Cell} {vs : List Value} (hs : cl.slots.size = vs.length) (H : HasL cl 0 vs) : cl.slots = vs.toArray := by
  apply Array.ext_getElem?
  intro i
  by_cases h : i < vs.length
  · have := HasL.at (dv := .null) vs 0 H i h
    rw [Nat.zero_add] at this
    rw [this]; simp [h]
  · rw [Array.getElem?_eq_none (by omega)]; simp; omega
theorem size_of {Z : State} {args : Array Value} {t : Term} {a : Addr} {cl : Cell} {ty : FieldType} {n : Int32} {m : Nat} (ev : t.eval args Z none [] Z = some (.ref a)) (A : Arr Z Z.heap a cl ty) (hl : (Term.length t).eval args Z none [] Z = some (.int n)) (hm : m.toInt32 = n) (hs : m < 1000) : cl.slots.size = m := by
  have h1 : Z.arrayAt? a = some cl := Arr.fin (Vm.Alike.refl _) A
  simp [Term.eval, ev, h1] at hl
  obtain ⟨q1, q2⟩ := hl
  exact (i32_inj (by omega) (by omega)).mp (q2.trans hm.symm)
theorem ArI.ofHas {Z : State} {a : Addr} {cl : Cell} {ty : FieldType} {cs : List Int32} (hf : Fit Z) (A : Arr Z Z.heap a cl ty) (hs : cl.slots.size = cs.length) (hb : cs.length < 1000) (H : HasL cl 0 (cs.map Value.int)) : ArI Z Z.heap a ty cs := by
  refine ⟨cl, A, slots_eq (by simpa using hs) H, fun x hx => ?_⟩
  obtain ⟨i, hi⟩ := List.getElem?_of_mem hx
  have li := lt_of_at hi
  have e : cl.slots = (cs.map Value.int).toArray := slots_eq (by simpa using hs) H
  refine elem_fits (j := i.toInt32) hf A (by rintro (q | q); exact i32_nn (by omega) q; rw [nat_i32 (by omega)] at q; omega) ?_
  rw [nat_i32 (by omega), e]; simp [hi]
theorem eq_ref_v {args : Array Value} {s : State} {t u : Term} {r : Addr} (h : (Jvm.Cond.eq t u).value args s none s [] = some true) (hu : u.eval args s none [] s = some (.ref r)) : t.eval args s none [] s = some (.ref r) := by
  simp only [Cond.value, hu] at h
  cases ht : t.eval args s none [] s with
  | none => simp [ht] at h
  | some x => cases x <;> simp [ht] at h ⊢; exact h
section Heap
variable {B : Cx} {l : Launch} {Z : State} {nar : Bool} {own nm : String} {code : ByteArray} {ml : Nat} {ret : Option FieldType} {R : Room} {h0 : Heap} {ws : List Addr} {fr : Bool} {Q : List Addr → Option Value → Heap → Prop} {Me : List Addr}
variable {h : Heap} {k n : Nat} {M : List Addr} {cl : Cl} {pc pc' : Nat} {L L' : Array Slot} {S S' : List Value} {a0 : Array Value}
theorem W.lenR (ok : Ok B l Z nar own nm code ml ret R h0 ws fr Q Me) {a : Addr} {vs : List Value} {ty : FieldType} (A : ArR Z h a ty vs) (v : Int32) (hv : vs.length.toInt32 = v)
    (hd : decode code pc = .ok (.arraylength, 1)) (hp : pc + 1 = pc') (K : W B h k n M cl pc' L (.int v :: S)) : W B h k n M cl pc L (.ref a :: S) := by
  obtain ⟨c, A, e⟩ := A
  exact W.arraylength ok A v (by rw [e]; simpa using hv) hd hp K
theorem W.aaload (ok : Ok B l Z nar own nm code ml ret R h0 ws fr Q Me) {a : Addr} {vs : List Value} {ty : FieldType} {j : Int32} (A : ArR Z h a ty vs) (hty : ty.isReference = true) (x : Value) (hj : ¬ j < 0) (hx : vs[j.toNatClampNeg]? = some x)
    (hd : decode code pc = .ok (.aaload, 1)) (hp : pc + 1 = pc') (K : W B h k n M cl pc' L (x :: S)) : W B h k n M cl pc L (.int j :: .ref a :: S) := by
  subst hp
  obtain ⟨c, A, e⟩ := A
  have hin : ¬ (j < 0 ∨ c.slots.size ≤ j.toNatClampNeg) := by
    rintro (q | q)
    · exact hj q
    · have := (List.getElem?_eq_some_iff.mp hx).1
      rw [e] at q; simp at q; omega
  refine W.still ok (fun T vm0 locs X hz ho eT hE => ⟨T, X, eT, fun t q => ?_⟩) K
  exact X.aaload ok.x (j := j) (v := x) (by rw [eT]; exact A.1) (State.isArrayOf_alike hz.alike A.2.1) hty A.2.2 hin (by rw [e]; simpa using hx) (g := mkF B.m pc L (.int j :: .ref a :: S)) rfl rfl (hb ok.by_ hd) t q
theorem W.clone (ok : Ok B l Z nar own nm code ml ret R h0 ws fr Q Me) {idx cap : Nat} {ad : String} {a : Addr} {c : Cell} {ty : FieldType} {vs : List Value} (w1 : (Jvm.Cond.methodLink own idx ⟨ad, "clone", "()Ljava/lang/Object;"⟩).before a0 Z = true) (w2 : (Jvm.Cond.sameMethod ad "java/lang/Object" "clone" "()Ljava/lang/Object;").before a0 Z = true) (w3 : (Jvm.Cond.native ⟨"java/lang/Object", "clone", "()Ljava/lang/Object;"⟩).before a0 Z = true)
    (w4 : (Jvm.Cond.instanceMethod ⟨"java/lang/Object", "clone", "()Ljava/lang/Object;"⟩).before a0 Z = true) (w5 : (Jvm.Cond.selects ad ⟨ad, "clone", "()Ljava/lang/Object;"⟩ ⟨"java/lang/Object", "clone", "()Ljava/lang/Object;"⟩).before a0 Z = true) (w6 : (Jvm.Cond.castable ad "java/lang/Cloneable").before a0 Z = true)
    (A : Arr Z h a c ty) (hs : c.slots = vs.toArray) (E : Exa Z h a ad) (F : FitC Z c) (hL : L.size = ml) (hfr : 1 ≤ R.frames) (hlo : (S.map fun v => v.category).sum + 14 ≤ R.locals) (hcap : vs.length ≤ cap) (hc : k + 1 ≤ R.cells) (hn : n + cap ≤ R.slots)
    (hd : decode code pc = .ok (.invokevirtual idx, 3)) (hp : pc + 3 = pc') (K : ∀ (d : Addr) (h' : Heap), h0.size ≤ d → h.size = d → Ext h h' → ArR Z h' d ty vs → Exa Z h' d ad → W B h' (k + 1) (n + cap) (d :: M) cl pc' L (.ref d :: S)) : W B h k n M cl pc L (.ref a :: S) := by
  subst hp
  refine W.heap (Φ := fun h' => h0.size ≤ h.size ∧ Ext h h' ∧ ArR Z h' h.size ty vs ∧ Exa Z h' h.size ad) (k' := k + 1) (n' := n + cap) (M' := h.size :: M) (cl' := cl) (L' := L) (S' := .ref h.size :: S) ok (fun T vm0 locs X hz ho eT hE hsz => ?_) rfl (fun h' ⟨p0, p1, p2, p3⟩ => K _ h' p0 rfl p1 p2 p3)
  have eR := ok.R_
  subst eR
  obtain ⟨T', h', X', e', E', A', Ex, st⟩ := cloneA X ok.x hz ho w1 w2 w3 w4 w5 w6 eT A E F (g := mkF B.m pc L (.ref a :: S)) rfl (by rw [ok.ml_]; exact hL) rfl (hb ok.by_ hd) hfr (W := (S.map fun v => v.category).sum) (by show 2 * 0 + _ ≤ _; omega) hlo (by rw [hs]; simpa using hcap) hc hn
  subst e'
  exact ⟨T', [], by rw [List.append_nil]; exact X', Kept.ext E', fun _ q => (nomatch q), fun q => ⟨q, fun _ q => (nomatch q)⟩, fun x q => (List.mem_cons.mp q).elim (fun q => Or.inr ⟨Nat.le_of_eq q.symm, q ▸ A'.lt⟩) Or.inl, ⟨hsz, E', ⟨_, A', hs⟩, Ex⟩, st⟩
end Heap
end Jvm.Pilot.@@N@@.Wk
namespace Jvm.Pilot.@@N@@.Wk
open Jvm Jvm.ClassFile Sem Op Lib Jvm.Free Jvm.Stand Jvm.LawKit Jvm.RoadKit Bundle
/-! ### more calls: super's methods, private ones, methods found above; arraycopy -/
def NoFace (Z : State) (C : String) : Prop := ∃ c k, Z.vm.findClass C = some c ∧ Z.vm.classes[c]? = some k ∧ k.isInterface = false
theorem NoFace.of {a0 : Array Value} {Z : State} {C : String} {y z : MethodName} (w : (Jvm.Cond.selects C y z).before a0 Z = true) : NoFace Z z.cls := by
  obtain ⟨c2, r2, m2, q1, q2, q3, q4, kP, hkP, hkPi⟩ := Cond.selects_spec w
  exact ⟨_, kP, findClass_of_methodNamed q3, hkP, hkPi⟩
theorem same_own {a0 : Array Value} {Z : State} {y : MethodName} (w : (Jvm.Cond.instanceMethod y).before a0 Z = true) (nf : NoFace Z y.cls) (hy : y.cls ≠ "java/lang/invoke/MethodHandle" ∧ y.cls ≠ "java/lang/invoke/VarHandle") : (Jvm.Cond.sameMethod y.cls y.cls y.name y.desc).before a0 Z = true := by
  obtain ⟨mk, meth, hn, -, -, -⟩ := Cond.instanceMethod_spec w
  obtain ⟨c, k, hc, hk, hi⟩ := nf
  have hf := State.methodFound?_of_named hn hy
  have hn' : Z.methodNamed? ⟨y.cls, y.name, y.desc⟩ = some mk := hn
  simp [Cond.before, Cond.holds, Cond.value, hc, hf, hn', hk, hi]
theorem decl_of {a0 : Array Value} {Z : State} {y : MethodName} {bytes : ByteArray} {maxL : Nat} {ret : Option FieldType} (w : (Jvm.Cond.instanceMethod y).before a0 Z = true) (wc : (Jvm.Cond.code y bytes maxL ret).before a0 Z = true) : (Jvm.Cond.declares y).before a0 Z = true := by
  obtain ⟨mk, meth, hn, hm, hs, -⟩ := Cond.instanceMethod_spec w
  obtain ⟨m2, cM, q1, -, -, -, -, -, -, hsig⟩ := Cond.code_spec hn wc
  cases hm.symm.trans q1
  simp [Cond.before, Cond.holds, Cond.value, hn, hm, hs, hsig]
section Calls
variable {B : Cx} {l : Launch} {Z : State} {nar : Bool} {own nm : String} {code : ByteArray} {ml : Nat} {ret : Option FieldType} {R : Room} {h0 : Heap} {ws : List Addr} {fr : Bool} {Q : List Addr → Option Value → Heap → Prop} {Me : List Addr}
variable {h : Heap} {k n : Nat} {M : List Addr} {cl : Cl} {pc pc' : Nat} {L : Array Slot} {S : List Value} {a0 : Array Value}
variable {idx : Nat} {y : MethodName} {bytes : ByteArray} {maxL : Nat} {ret' : Option FieldType} {rm' : Room} {as' rest : List Value} {ws' : List Addr} {Q' : List Addr → List Addr → Option Value → Heap → Prop} {ps : List FieldType} {r : Option FieldType} {cl' : Cl}
/-- super.y(..) -/
theorem W.callU (ok : Ok B l Z nar own nm code ml ret R h0 ws fr Q Me) {a : Addr} {C0 : String} (nf : NoFace Z y.cls) (hn : y.name ≠ "<init>") (w1 : (Jvm.Cond.methodLink own idx y).before a0 Z = true) (w2 : (Jvm.Cond.instanceMethod y).before a0 Z = true) (w3 : (Jvm.Cond.superclass own y.cls).before a0 Z = true) (wz : (Jvm.Cond.initialized y.cls).before a0 Z = true) (wc : (Jvm.Cond.code y bytes maxL ret').before a0 Z = true) (hy : notMH y.cls)
    (E : Exa Z h a C0) (hds : parseMethodDescriptor y.desc = some ⟨ps, r⟩) (hlen : as'.length = ps.length) (C : Con2 l Z nar y bytes maxL ret' rm' (.ref a :: as') h ws' Q') (hws : ∀ w ∈ ws', w ∈ M ∧ (w ∈ ws ∨ h0.size ≤ w)) (hcl : cl'.1 = true → cl.1 = true ∧ ∀ w ∈ ws', h0.size ≤ w) (hcs : cl'.2 = cl.2) (hL : L.size = ml)
    (hf : rm'.frames + 1 ≤ R.frames) (hlo : (rest.map fun v => v.category).sum + (maxL + 11) + rm'.locals ≤ R.locals) (hcc : k + rm'.cells ≤ R.cells) (hnn : n + rm'.slots ≤ R.slots) (hd : decode code pc = .ok (.invokespecial idx, 3)) (hp : pc + 3 = pc') (hst : S = as'.reverse ++ .ref a :: rest)
    (K : ∀ (N : List Addr) (v : Option Value) (h' : Heap), Q' M N v h' → Keep h h' ws' → W B h' (k + rm'.cells) (n + rm'.slots) (N ++ M) cl' pc' L (v.toList ++ rest)) : W B h k n M cl pc L S := by
  subst hp
  refine W.call (len := 3) ok wc wz C hws hcl hcs hf hlo hcc hnn (fun T vm0 locs X hz ho eT Pre Post hK hpre => ?_) K
  exact RoadKit.superBackS X ok.x hz ho w1 (same_own w2 nf hy) w2 w3 hn hK eT (Ins.self E) (g := mkF B.m pc L S) rfl (by rw [ok.ml_]; exact hL) wc (argsL := as') (rest := rest) (lenOf hds hlen) hst (by show 2 * 0 + _ ≤ _; omega) (hb ok.by_ hd) hpre
/-- invokevirtual of yr, that lands at y; yr's own class declares it -/
theorem W.callW (ok : Ok B l Z nar own nm code ml ret R h0 ws fr Q Me) {a : Addr} {C0 : String} {yr : MethodName} (w1 : (Jvm.Cond.methodLink own idx yr).before a0 Z = true) (w2 : (Jvm.Cond.declares yr).before a0 Z = true) (nf : NoFace Z yr.cls) (w3 : (Jvm.Cond.selects C0 yr y).before a0 Z = true) (w4 : (Jvm.Cond.instanceMethod y).before a0 Z = true) (wz : (Jvm.Cond.initialized y.cls).before a0 Z = true) (wc : (Jvm.Cond.code y bytes maxL ret').before a0 Z = true) (hy : notMH yr.cls)
    (E : Exa Z h a C0) (hds : parseMethodDescriptor yr.desc = some ⟨ps, r⟩) (hlen : as'.length = ps.length) (C : Con2 l Z nar y bytes maxL ret' rm' (.ref a :: as') h ws' Q') (hws : ∀ w ∈ ws', w ∈ M ∧ (w ∈ ws ∨ h0.size ≤ w)) (hcl : cl'.1 = true → cl.1 = true ∧ ∀ w ∈ ws', h0.size ≤ w) (hcs : cl'.2 = cl.2) (hL : L.size = ml)
    (hf : rm'.frames + 1 ≤ R.frames) (hlo : (rest.map fun v => v.category).sum + (maxL + 11) + rm'.locals ≤ R.locals) (hcc : k + rm'.cells ≤ R.cells) (hnn : n + rm'.slots ≤ R.slots) (hd : decode code pc = .ok (.invokevirtual idx, 3)) (hp : pc + 3 = pc') (hst : S = as'.reverse ++ .ref a :: rest)
    (K : ∀ (N : List Addr) (v : Option Value) (h' : Heap), Q' M N v h' → Keep h h' ws' → W B h' (k + rm'.cells) (n + rm'.slots) (N ++ M) cl' pc' L (v.toList ++ rest)) : W B h k n M cl pc L S := by
  subst hp
  refine W.call (len := 3) ok wc wz C hws hcl hcs hf hlo hcc hnn (fun T vm0 locs X hz ho eT Pre Post hK hpre => ?_) K
  obtain ⟨cB, kB, q1, q2, q3⟩ := isOf hz eT E
  refine X.virtualBackS ok.x ho (mv hz w1) (mv hz w2) ?_ (mv hz w3) (mv hz w4) hy hK q1 q3 (g := mkF B.m pc L S) rfl (by rw [ok.ml_]; exact hL) (Steps.refl _) (argsL := as') (rest := rest) (lenOf hds hlen) hst (by show 2 * 0 + _ ≤ _; omega) (hb ok.by_ hd) hpre
  obtain ⟨cc, kk, e1, e2, e3⟩ := nf
  intro r0 h0
  have f1 := findClass_of_methodNamed h0
  have f2 := (hz.alike.findClass _ _).trans e1
  obtain ⟨k', f3, f4⟩ := hz.alike.2.2 _ _ e2
  cases f1.symm.trans f2
  exact ⟨k', f3, by rw [f4]; exact e3⟩
/-- invokevirtual of x, which a class above x.cls (owner) declares -/
theorem W.callX (ok : Ok B l Z nar own nm code ml ret R h0 ws fr Q Me) {a : Addr} {C0 owner : String} {x : MethodName} (w1 : (Jvm.Cond.methodLink own idx x).before a0 Z = true) (w5 : (Jvm.Cond.sameMethod x.cls owner x.name x.desc).before a0 Z = true) (w2 : (Jvm.Cond.declares ⟨owner, x.name, x.desc⟩).before a0 Z = true) (ho' : notMH owner) (w3 : (Jvm.Cond.selects C0 x y).before a0 Z = true) (w4 : (Jvm.Cond.instanceMethod y).before a0 Z = true) (wz : (Jvm.Cond.initialized y.cls).before a0 Z = true) (wc : (Jvm.Cond.code y bytes maxL ret').before a0 Z = true)
    (E : Exa Z h a C0) (hds : parseMethodDescriptor x.desc = some ⟨ps, r⟩) (hlen : as'.length = ps.length) (C : Con2 l Z nar y bytes maxL ret' rm' (.ref a :: as') h ws' Q') (hws : ∀ w ∈ ws', w ∈ M ∧ (w ∈ ws ∨ h0.size ≤ w)) (hcl : cl'.1 = true → cl.1 = true ∧ ∀ w ∈ ws', h0.size ≤ w) (hcs : cl'.2 = cl.2) (hL : L.size = ml)
    (hf : rm'.frames + 1 ≤ R.frames) (hlo : (rest.map fun v => v.category).sum + (maxL + 11) + rm'.locals ≤ R.locals) (hcc : k + rm'.cells ≤ R.cells) (hnn : n + rm'.slots ≤ R.slots) (hd : decode code pc = .ok (.invokevirtual idx, 3)) (hp : pc + 3 = pc') (hst : S = as'.reverse ++ .ref a :: rest)
    (K : ∀ (N : List Addr) (v : Option Value) (h' : Heap), Q' M N v h' → Keep h h' ws' → W B h' (k + rm'.cells) (n + rm'.slots) (N ++ M) cl' pc' L (v.toList ++ rest)) : W B h k n M cl pc L S := by
  subst hp
  refine W.call (len := 3) ok wc wz C hws hcl hcs hf hlo hcc hnn (fun T vm0 locs X hz ho eT Pre Post hK hpre => ?_) K
  obtain ⟨cB, kB, q1, q2, q3⟩ := isOf hz eT E
  exact X.virtualBackUpS ok.x ho (mv hz w1) (mv hz w5) (mv hz w2) ho' (mv hz w3) (mv hz w4) hK q1 q3 (g := mkF B.m pc L S) rfl (by rw [ok.ml_]; exact hL) (Steps.refl _) (argsL := as') (rest := rest) (lenOf hds hlen) hst (by show 2 * 0 + _ ≤ _; omega) (hb ok.by_ hd) hpre
/-- System.arraycopy among arrays of one int-like type -/
theorem W.acopy (ok : Ok B l Z nar own nm code ml ret R h0 ws fr Q Me) {a b : Addr} {ty : FieldType} {xs ds : List Int32} {sp dp nn : Nat} {cl' : Cl} (w1 : (Jvm.Cond.methodLink own idx Jvm.Stand.acN).before a0 Z = true) (w2 : (Jvm.Cond.native Jvm.Stand.acN).before a0 Z = true) (w3 : (Jvm.Cond.static Jvm.Stand.acN).before a0 Z = true) (w4 : (Jvm.Cond.initialized "java/lang/System").before a0 Z = true)
    (A : ArI Z h a ty xs) (D : ArI Z h b ty ds) (hty : refKind ty = false) (h1 : sp + nn ≤ xs.length) (h2 : dp + nn ≤ ds.length) (h3 : xs.length < 2147483648) (h4 : ds.length < 2147483648) (ha : b ∈ M) (hw : b ∈ ws ∨ h0.size ≤ b) (hcl : cl'.1 = true → cl.1 = true ∧ h0.size ≤ b) (hcs : cl'.2 = cl.2) (hL : L.size = ml)
    (hfr : 1 ≤ R.frames) (hlo : (S.map fun v => v.category).sum + 18 ≤ R.locals) (hd : decode code pc = .ok (.invokestatic idx, 3)) (hp : pc + 3 = pc')
    (K : ∀ h' : Heap, Keep h h' [b] → ArI Z h' b ty (ds.take dp ++ (xs.drop sp).take nn ++ ds.drop (dp + nn)) → W B h' k n M cl' pc' L S) : W B h k n M cl pc L (.int nn.toInt32 :: .int dp.toInt32 :: .ref b :: .int sp.toInt32 :: .ref a :: S) := by
  subst hp
  refine W.heap (Φ := fun h' => Keep h h' [b] ∧ ArI Z h' b ty (ds.take dp ++ (xs.drop sp).take nn ++ ds.drop (dp + nn))) (k' := k) (n' := n) (M' := M) (cl' := cl') (L' := L) (S' := S) ok (fun T vm0 locs X hz ho eT hE hsz => ?_) hcs (fun h' q => K h' q.1 q.2)
  have eR := ok.R_
  subst eR
  obtain ⟨cs, As, es, fs⟩ := A
  obtain ⟨cd, Ad, ed, fd⟩ := D
  obtain ⟨os, ks, hks, sc, hsk⟩ := State.isArrayOf_alike hz.alike As.2.1
  obtain ⟨od, kd, hkd, dc, hdk⟩ := State.isArrayOf_alike hz.alike Ad.2.1
  have ssz : cs.slots.size = xs.length := by rw [es]; simp
  have dsz : cd.slots.size = ds.length := by rw [ed]; simp
  have n1 : (sp.toInt32).toNatClampNeg = sp := nat_i32 (by omega)
  have n2 : (dp.toInt32).toNatClampNeg = dp := nat_i32 (by omega)
  have n3 : (nn.toInt32).toNatClampNeg = nn := nat_i32 (by omega)
  have gv : ∀ i, i < nn → ∃ x, xs[sp + i]? = some x ∧ cs.slots.getD (sp + i) .null = .int x := fun i hi => by
    obtain ⟨x, hx⟩ := at_lt (cs := xs) (i := sp + i) (by omega)
    exact ⟨x, hx, by rw [Array.getD_eq_getD_getElem?, es]; simp [hx]⟩
  obtain ⟨vm₁, hW₁, X', st⟩ := X.arraycopyK ok.x ho (mv hz w1) (mv hz w2) (mv hz w3) (mv hz w4) (src := a) (dst := b) (srcPos := sp.toInt32) (destPos := dp.toInt32) (n := nn.toInt32) (by rw [eT]; exact As.1) (by rw [eT]; exact Ad.1) os od As.2.2 Ad.2.2 hks hkd hsk hdk
    (by simp [hty]) (i32_nn (by omega)) (i32_nn (by omega)) (i32_nn (by omega)) (by rw [i32_len (by omega), i32_len (by omega), ssz]; omega) (by rw [i32_len (by omega), i32_len (by omega), dsz]; omega)
    (fun vm₁ hw i hi => by
      rw [n3] at hi; rw [n1]
      obtain ⟨x, hx, e⟩ := gv i hi
      rw [e]; exact ⟨fs x (List.mem_of_getElem? hx), trivial⟩) (g := mkF B.m pc L (.int nn.toInt32 :: .int dp.toInt32 :: .ref b :: .int sp.toInt32 :: .ref a :: S)) rfl (by rw [ok.ml_]; exact hL) rfl (hb ok.by_ hd) hfr (by show 2 * 0 + _ + 18 ≤ _; omega)
  have hbl : b < h.size := Ad.lt
  have cf : (copied cs cd sp.toInt32 dp.toInt32 nn.toInt32).cls = cd.cls ∧ (copied cs cd sp.toInt32 dp.toInt32 nn.toInt32).vm = cd.vm ∧ (copied cs cd sp.toInt32 dp.toInt32 nn.toInt32).slots.size = cd.slots.size := let q := cd.storeRun_facts dp.toInt32.toNatClampNeg (cs.stretch sp.toInt32.toNatClampNeg nn.toInt32.toNatClampNeg); ⟨q.1, q.2.1, q.2.2.1⟩
  have eh : ((T.setVm vm₁).setCell b (copied cs cd sp.toInt32 dp.toInt32 nn.toInt32)).heap = h.setIfInBounds b (copied cs cd sp.toInt32 dp.toInt32 nn.toInt32) := by rw [← eT]; rfl
  have kp : Keep h (h.setIfInBounds b (copied cs cd sp.toInt32 dp.toInt32 nn.toInt32)) [b] := by
    refine ⟨by simp, fun x c q r => ?_, fun x c q => ?_⟩
    · have : b ≠ x := fun z => r (by simp [z])
      rw [Array.getElem?_setIfInBounds_ne this]; exact q
    · by_cases u : b = x
      · subst u; cases Ad.1.symm.trans q
        exact ⟨_, by rw [Array.getElem?_setIfInBounds_self_of_lt hbl], cf.1, cf.2.1, cf.2.2⟩
      · exact ⟨c, by rw [Array.getElem?_setIfInBounds_ne u]; exact q, rfl, rfl, rfl⟩
  have esl : (copied cs cd sp.toInt32 dp.toInt32 nn.toInt32).slots = ((ds.take dp ++ (xs.drop sp).take nn ++ ds.drop (dp + nn)).map Value.int).toArray := by
    apply Array.ext_getElem?
    intro j
    show (cd.storeRun dp.toInt32.toNatClampNeg (cs.stretch sp.toInt32.toNatClampNeg nn.toInt32.toNatClampNeg)).slots[j]? = _
    rw [n1, n2, n3, Cell.storeRun_get _ _ _ _ (by rw [Cell.stretch_length, dsz]; omega), Cell.stretch_length]
    have l1 : (ds.take dp).length = dp := by rw [List.length_take]; omega
    have l2 : ((xs.drop sp).take nn).length = nn := by rw [List.length_take, List.length_drop]; omega
    simp only [List.map_append, List.map_take, List.map_drop, List.getElem?_toArray]
    by_cases c1 : j < dp
    · rw [if_neg (by omega), List.append_assoc, List.getElem?_append_left (by simp; omega), List.getElem?_take_of_lt c1, ed]; simp
    · by_cases c2 : j < dp + nn
      · rw [if_pos ⟨by omega, c2⟩, List.getElem?_append_left (by simp; omega), List.getElem?_append_right (by simp; omega)]
        obtain ⟨x, hx, e⟩ := gv (j - dp) (by omega)
        have e1 : (cs.stretch sp nn)[j - dp]? = some (.int x) := by rw [Array.getD_eq_getD_getElem?] at e; simp [Cell.stretch, show j - dp < nn by omega, e]
        rw [e1]
        have l3 : (List.take dp (List.map Value.int ds)).length = dp := by rw [List.length_take, List.length_map]; omega
        rw [l3, List.getElem?_take_of_lt (by omega), List.getElem?_drop, List.getElem?_map, hx]; rfl
      · have l3 : (List.take dp (List.map Value.int ds) ++ List.take nn (List.drop sp (List.map Value.int xs))).length = dp + nn := by simp; omega
        rw [if_neg (by omega), List.getElem?_append_right (by rw [l3]; omega), l3, List.getElem?_drop, show dp + nn + (j - (dp + nn)) = j by omega, ed]; simp
  have isA : Z.isArrayOf (copied cs cd sp.toInt32 dp.toInt32 nn.toInt32) ty := by
    have := Ad.2.1; unfold State.isArrayOf at this ⊢; rw [cf.1, cf.2.1]; exact this
  have fall : ∀ x ∈ ds.take dp ++ (xs.drop sp).take nn ++ ds.drop (dp + nn), fits ty (.int x) = true := fun x hx => by
    rcases List.mem_append.mp hx with q | q
    · rcases List.mem_append.mp q with q | q
      · exact fd x (List.mem_of_mem_take q)
      · exact fs x (List.mem_of_mem_drop (List.mem_of_mem_take q))
    · exact fd x (List.mem_of_mem_drop q)
  refine ⟨_, _, X', by rw [eh]; exact Kept.keep kp (fun w q => by cases List.mem_singleton.mp q; exact ha), fun y hy => ?_, fun q => ⟨(hcl q).1, fun y hy => ?_⟩, fun x q => Or.inl q, eh ▸ ⟨kp, copied cs cd sp.toInt32 dp.toInt32 nn.toInt32, ⟨by rw [Array.getElem?_setIfInBounds_self_of_lt hbl], isA, by rw [cf.2.1]; exact Ad.2.2⟩, esl, fall⟩, st⟩
  · rw [copyLocs_base hy]; exact hw
  · rw [copyLocs_base hy]; exact (hcl q).2
end Calls
end Jvm.Pilot.@@N@@.Wk
namespace Jvm.Pilot.@@N@@.Wk
open Jvm Jvm.ClassFile Sem Op Lib Jvm.Free Jvm.Stand Jvm.LawKit Jvm.RoadKit Bundle
/-! ### a StringBuilder: its text (all below 256, coder 0), the bytes behind it -/
abbrev SBC : String := "java/lang/StringBuilder"
abbrev ASB : String := "java/lang/AbstractStringBuilder"
def SBd (Z : State) (h : Heap) (a t : Addr) (cs bs : List Int32) : Prop :=
  Exa Z h a SBC ∧ Fld Z h a ASB "value" "[B" (.ref t) ∧ Fld Z h a ASB "coder" "B" (.int 0) ∧ Fld Z h a ASB "count" "I" (.int cs.length.toInt32) ∧ ArI Z h t .byte (cs.map b8 ++ bs) ∧ ∀ c ∈ cs, 0 ≤ c.toInt ∧ c.toInt ≤ 255
theorem SBd.ext {Z : State} {h h' : Heap} {a t : Addr} {cs bs : List Int32} (F : SBd Z h a t cs bs) (E : Ext h h') : SBd Z h' a t cs bs := by
  obtain ⟨q1, q2, q3, q4, q5, q6⟩ := F
  exact ⟨q1.ext E, q2.ext E, q3.ext E, q4.ext E, q5.ext E, q6⟩
theorem SBd.cast {Z : State} {h : Heap} {a t : Addr} {cs bs cs' bs' : List Int32} (F : SBd Z h a t cs bs) (e : cs = cs') (e' : bs = bs') : SBd Z h a t cs' bs' := e ▸ e' ▸ F
theorem SBd.exa {Z : State} {h : Heap} {a t : Addr} {cs bs : List Int32} (F : SBd Z h a t cs bs) : Exa Z h a SBC := F.1
theorem SBd.ga {Z : State} {h : Heap} {a t : Addr} {cs bs : List Int32} (F : SBd Z h a t cs bs) : h.size > a := gtE F.1
theorem SBd.gt {Z : State} {h : Heap} {a t : Addr} {cs bs : List Int32} (F : SBd Z h a t cs bs) : h.size > t := F.2.2.2.2.1.gt
theorem Str.rng {Z : State} {h : Heap} {a : Addr} {cs : List Int32} (F : Str Z h a cs) : ∀ c ∈ cs, 0 ≤ c.toInt ∧ c.toInt ≤ 65535 := by obtain ⟨t, cd, bs, -, -, -, -, q⟩ := F; exact q.rng
theorem lay_sb (cs bs ds : List Int32) (h : ds.length ≤ bs.length) : (cs.map b8 ++ bs).take cs.length ++ ds.map b8 ++ (cs.map b8 ++ bs).drop (cs.length + ds.length) = (cs ++ ds).map b8 ++ bs.drop ds.length := by
  have e1 : (cs.map b8).length = cs.length := by simp
  rw [← e1, List.take_left, List.drop_append, List.drop_of_length_le (by omega), Nat.add_sub_cancel_left, List.map_append]; simp
theorem i32_add {a b : Nat} : a.toInt32 + b.toInt32 = (a + b).toInt32 := by
  simp [Nat.toInt32]
theorem i32_sub {a b : Nat} (h : b ≤ a) (ha : a < 2147483648) : a.toInt32 - b.toInt32 = (a - b).toInt32 := by
  apply Int32.toInt_inj.mp
  have h1 := c_isub a.toInt32 b.toInt32
  have h2 := i32_len (n := a) ha
  have h3 := i32_len (n := b) (by omega)
  have h4 := i32_len (n := a - b) (by omega)
  have := rng32 (a.toInt32 - b.toInt32)
  omega
theorem i32_le {a b : Nat} (ha : a < 2147483648) (hb : b < 2147483648) (h : a ≤ b) : ¬ 0 < a.toInt32 - b.toInt32 := by
  rw [Int32.lt_iff_toInt_lt]
  have h1 := c_isub a.toInt32 b.toInt32
  have h2 := i32_len (n := a) ha
  have h3 := i32_len (n := b) hb
  have h4 := rng32 (a.toInt32 - b.toInt32)
  have : (0 : Int32).toInt = 0 := rfl
  omega
theorem narV {t : FieldType} {v : Value} (ht : t.isReference = true) (hv : v.isRef = true) : narrow t v = v := by
  cases v <;> simp [Value.isRef] at hv <;> cases t <;> simp [FieldType.isReference] at ht <;> rfl
theorem fitV {t : FieldType} {v : Value} (ht : t.isReference = true) (hv : v.isRef = true) : fits t v = true := by
  cases v <;> simp [Value.isRef] at hv <;> cases t <;> simp [FieldType.isReference] at ht <;> rfl
theorem i32_add2 (a : Nat) : a.toInt32 + 2 = (a + 2).toInt32 := i32_add (a := a) (b := 2)
theorem i32_add3 (a : Nat) : a.toInt32 + 3 = (a + 3).toInt32 := i32_add (a := a) (b := 3)
theorem at_mid {A B D L : List Int32} {i : Nat} (e : L = A ++ (B ++ D)) (hi : i = A.length) : ∀ (j : Nat) (c : Int32), B[j]? = some c → L[i + j]? = some c := by
  subst e; subst hi
  intro j c hc
  rw [List.getElem?_append_right (by omega), Nat.add_sub_cancel_left, List.getElem?_append_left (lt_of_at hc)]; exact hc
theorem shl0 (x : Int32) : x <<< ((0 : Int32) &&& 31) = x := Int32.toInt_inj.mp (by have := c_ishl x 0 0 (by decide); have := rng32 (x <<< ((0 : Int32) &&& 31)); have := rng32 x; omega)
end Jvm.Pilot.@@N@@.Wk
namespace Jvm.Pilot.@@N@@.Wk
open Jvm Jvm.ClassFile Sem Op Lib Jvm.Free Jvm.Stand Jvm.LawKit Jvm.RoadKit Bundle
/-! ### lookupswitch; a StringBuilder of any text -/
section Sw
variable {B : Cx} {l : Launch} {Z : State} {nar : Bool} {own nm : String} {code : ByteArray} {ml : Nat} {ret : Option FieldType} {R : Room} {h0 : Heap} {ws : List Addr} {fr : Bool} {Q : List Addr → Option Value → Heap → Prop} {Me : List Addr}
variable {h : Heap} {k n : Nat} {M : List Addr} {cl : Cl} {pc pc' : Nat} {L : Array Slot} {S : List Value}
theorem W.lsHit (ok : Ok B l Z nar own nm code ml ret R h0 ws fr Q Me) {x : Int32} {default a off : Int} {pairs : Array (Int × Int)} {len : Nat} (hd : decode code pc = .ok (.lookupswitch default pairs, len)) (hs : (pairs.toList.zip (pairs.toList.drop 1)).all (fun (a, next) => a.1 < next.1) = true)
    (hf : pairs.find? (·.1 == x.toInt) = some (a, off)) (ho : 0 ≤ (pc : Int) + off) (hj : ((pc : Int) + off).toNat = pc') (K : W B h k n M cl pc' L S) : W B h k n M cl pc L (.int x :: S) := by
  subst hj
  refine W.still ok (fun T vm0 locs X hz ho' eT hE => ⟨T, X, eT, fun t q => ?_⟩) K
  exact X.lookupswitchHit ok.x (g := mkF B.m pc L (.int x :: S)) rfl rfl (hb ok.by_ hd) hs hf ho t q
theorem W.lsMiss (ok : Ok B l Z nar own nm code ml ret R h0 ws fr Q Me) {x : Int32} {default : Int} {pairs : Array (Int × Int)} {len : Nat} (hd : decode code pc = .ok (.lookupswitch default pairs, len)) (hs : (pairs.toList.zip (pairs.toList.drop 1)).all (fun (a, next) => a.1 < next.1) = true)
    (hf : pairs.find? (·.1 == x.toInt) = none) (ho : 0 ≤ (pc : Int) + default) (hj : ((pc : Int) + default).toNat = pc') (K : W B h k n M cl pc' L S) : W B h k n M cl pc L (.int x :: S) := by
  subst hj
  refine W.still ok (fun T vm0 locs X hz ho' eT hE => ⟨T, X, eT, fun t q => ?_⟩) K
  exact X.lookupswitchMiss ok.x (g := mkF B.m pc L (.int x :: S)) rfl rfl (hb ok.by_ hd) hs hf ho t q
theorem FitC.ofI {Z : State} {h : Heap} {a : Addr} {c : Cell} {ty : FieldType} {xs : List Int32} (A : Arr Z h a c ty) (e : c.slots = (xs.map Value.int).toArray) (f : ∀ x ∈ xs, fits ty (.int x) = true) : FitC Z c := fun i v hv => by
  obtain ⟨hs, kc, hk, comp, hkind⟩ := A.2.1
  rw [e] at hv
  simp at hv
  obtain ⟨x, hx, rfl⟩ := hv
  have := f x (List.mem_of_getElem? hx)
  simpa [State.fitsSlot, State.slotType?, hk, hkind] using this
theorem W.newBE {a0 : Array Value} (ok : Ok B l Z nar own nm code ml ret R h0 ws fr Q Me) (w : (Jvm.Cond.arrayClass .byte).before a0 Z = true) {z : Int32} {cap : Nat} (hz0 : ¬ z < 0) (hcap : z.toNatClampNeg ≤ cap) (hb8 : cap * 8 ≤ 536870912)
    (hd : decode code pc = .ok (.newarray .byte, 2)) (hp : pc + 2 = pc') (hc : k + 1 ≤ R.cells) (hn : n + cap ≤ R.slots)
    (K : ∀ (a : Addr) (h' : Heap), h0.size ≤ a → h.size = a → Ext h h' → ArI Z h' a .byte (List.replicate z.toNatClampNeg 0) → Exa Z h' a "[B" → W B h' (k + 1) (n + cap) (a :: M) cl pc' L (.ref a :: S)) : W B h k n M cl pc L (.int z :: S) := by
  subst hp
  refine W.heap (Φ := fun h' => h0.size ≤ h.size ∧ Ext h h' ∧ (∃ cA, Arr Z h' h.size (newA cA .byte z) .byte) ∧ Exa Z h' h.size "[B") (k' := k + 1) (n' := n + cap) (M' := h.size :: M) (cl' := cl) (L' := L) (S' := .ref h.size :: S) ok (fun T vm0 locs X hz ho eT hE hsz => ?_) rfl (fun h' ⟨p0, p1, ⟨cA, p2⟩, p3⟩ => K _ h' p0 rfl p1 (ArI.new p2 rfl rfl) p3)
  have eR := ok.R_
  subst eR
  obtain ⟨T', h', cA, X', e', E', A', Ex, st⟩ := newPE X ok.x hz (aty := .byte) w eT (g := mkF B.m pc L (.int z :: S)) rfl (hb ok.by_ hd) rfl hz0 hcap hb8 hc hn (ad := "[B") rfl
  subst e'
  exact ⟨T', [], by rw [List.append_nil]; exact X', Kept.ext E', fun _ q => (nomatch q), fun q => ⟨q, fun _ q => (nomatch q)⟩, fun x q => (List.mem_cons.mp q).elim (fun q => Or.inr ⟨Nat.le_of_eq q.symm, q ▸ A'.lt⟩) Or.inl, ⟨hsz, E', ⟨cA, A'⟩, Ex⟩, st⟩
theorem W.cloneI {a0 : Array Value} (ok : Ok B l Z nar own nm code ml ret R h0 ws fr Q Me) {idx cap : Nat} {ad : String} {a : Addr} {ty : FieldType} {xs : List Int32} (w1 : (Jvm.Cond.methodLink own idx ⟨ad, "clone", "()Ljava/lang/Object;"⟩).before a0 Z = true) (w2 : (Jvm.Cond.sameMethod ad "java/lang/Object" "clone" "()Ljava/lang/Object;").before a0 Z = true) (w3 : (Jvm.Cond.native ⟨"java/lang/Object", "clone", "()Ljava/lang/Object;"⟩).before a0 Z = true)
    (w4 : (Jvm.Cond.instanceMethod ⟨"java/lang/Object", "clone", "()Ljava/lang/Object;"⟩).before a0 Z = true) (w5 : (Jvm.Cond.selects ad ⟨ad, "clone", "()Ljava/lang/Object;"⟩ ⟨"java/lang/Object", "clone", "()Ljava/lang/Object;"⟩).before a0 Z = true) (w6 : (Jvm.Cond.castable ad "java/lang/Cloneable").before a0 Z = true)
    (A : ArI Z h a ty xs) (E : Exa Z h a ad) (hL : L.size = ml) (hfr : 1 ≤ R.frames) (hlo : (S.map fun v => v.category).sum + 14 ≤ R.locals) (hcap : xs.length ≤ cap) (hc : k + 1 ≤ R.cells) (hn : n + cap ≤ R.slots)
    (hd : decode code pc = .ok (.invokevirtual idx, 3)) (hp : pc + 3 = pc') (K : ∀ (d : Addr) (h' : Heap), h0.size ≤ d → h.size = d → Ext h h' → ArI Z h' d ty xs → Exa Z h' d ad → W B h' (k + 1) (n + cap) (d :: M) cl pc' L (.ref d :: S)) : W B h k n M cl pc L (.ref a :: S) := by
  obtain ⟨c, A1, e, f⟩ := A
  refine W.clone ok w1 w2 w3 w4 w5 w6 (vs := xs.map Value.int) A1 e E (FitC.ofI A1 e f) hL hfr hlo (by simpa using hcap) hc hn hd hp (fun d h' p0 p1 p2 p3 p4 => K d h' p0 p1 p2 ?_ p4)
  obtain ⟨c', q1, q2⟩ := p3
  exact ⟨c', q1, q2, f⟩
end Sw
/-- a builder, raw: its array's bytes -/
def SBr (Z : State) (h : Heap) (a t : Addr) (cd : Int32) (n : Nat) (xs : List Int32) : Prop :=
  Exa Z h a SBC ∧ Fld Z h a ASB "value" "[B" (.ref t) ∧ Fld Z h a ASB "coder" "B" (.int cd) ∧ Fld Z h a ASB "maybeLatin1" "Z" (.int 0) ∧ Fld Z h a ASB "count" "I" (.int n.toInt32) ∧ ArI Z h t .byte xs ∧ Exa Z h t "[B"
/-- the array's length is the capacity's, by the coder -/
def CapOf (cd : Int32) (len cap : Nat) : Prop := (cd = 0 ∧ len = cap) ∨ (cd = 1 ∧ len = 2 * cap)
def SBG (Z : State) (h : Heap) (a t : Addr) (cs : List Int32) (cap : Nat) : Prop := ∃ (cd : Int32) (es bs : List Int32), SBr Z h a t cd cs.length (es ++ bs) ∧ Cod cd cs es ∧ CapOf cd (es ++ bs).length cap
theorem SBr.ext {Z : State} {h h' : Heap} {a t : Addr} {cd : Int32} {n : Nat} {xs : List Int32} (F : SBr Z h a t cd n xs) (E : Ext h h') : SBr Z h' a t cd n xs := by
  obtain ⟨q1, q2, q3, q4, q5, q6, q7⟩ := F
  exact ⟨q1.ext E, q2.ext E, q3.ext E, q4.ext E, q5.ext E, q6.ext E, q7.ext E⟩
theorem SBG.ext {Z : State} {h h' : Heap} {a t : Addr} {cs : List Int32} {cap : Nat} (F : SBG Z h a t cs cap) (E : Ext h h') : SBG Z h' a t cs cap := by
  obtain ⟨cd, es, bs, q1, q2⟩ := F
  exact ⟨cd, es, bs, q1.ext E, q2⟩
theorem SBG.exa {Z : State} {h : Heap} {a t : Addr} {cs : List Int32} {cap : Nat} (F : SBG Z h a t cs cap) : Exa Z h a SBC := by obtain ⟨cd, es, bs, q1, q2⟩ := F; exact q1.1
theorem SBG.ga {Z : State} {h : Heap} {a t : Addr} {cs : List Int32} {cap : Nat} (F : SBG Z h a t cs cap) : h.size > a := gtE F.exa
theorem SBG.gt {Z : State} {h : Heap} {a t : Addr} {cs : List Int32} {cap : Nat} (F : SBG Z h a t cs cap) : h.size > t := by obtain ⟨cd, es, bs, q1, q2⟩ := F; exact q1.2.2.2.2.2.1.gt
theorem Cod.ln {cd : Int32} {cs es : List Int32} (h : Cod cd cs es) : CapOf cd es.length cs.length := by
  rcases h with ⟨rfl, rfl, -⟩ | ⟨rfl, rfl, -⟩
  · exact Or.inl ⟨rfl, by simp⟩
  · exact Or.inr ⟨rfl, wide_length _⟩
theorem set2 (P rs : List Int32) (x y u v : Int32) : ((P ++ x :: y :: rs).set P.length u).set (P.length + 1) v = (P ++ [u, v]) ++ rs := by
  rw [List.set_append_right _ _ (Nat.le_refl _), Nat.sub_self, List.set_cons_zero, List.set_append_right _ _ (by omega), Nat.add_sub_cancel_left]; simp
theorem set1 (P rs : List Int32) (x u : Int32) : (P ++ x :: rs).set P.length u = (P ++ [u]) ++ rs := by
  rw [List.set_append_right _ _ (Nat.le_refl _), Nat.sub_self, List.set_cons_zero]; simp
theorem wide_one (cs : List Int32) (c : Int32) : wide (cs ++ [c]) = wide cs ++ [b8 c, b8 (c >>> ((8 : Int32) &&& 31))] := by rw [wide_app]; rfl
theorem ex1 {xs : List Int32} (h : 1 ≤ xs.length) : ∃ z zs, xs = z :: zs := by
  match xs, h with
  | z :: zs, _ => exact ⟨z, zs, rfl⟩
theorem ex2 {xs : List Int32} (h : 2 ≤ xs.length) : ∃ z y zs, xs = z :: y :: zs := by
  match xs, h with
  | [], q => exact absurd q (by simp)
  | [_], q => exact absurd q (by simp)
  | z :: y :: zs, _ => exact ⟨z, y, zs, rfl⟩
theorem wide_snoc {cs : List Int32} {i : Nat} {c : Int32} (h : cs[i]? = some c) : wide (cs.take (i + 1)) = wide (cs.take i) ++ [b8 c, b8 (c >>> ((8 : Int32) &&& 31))] := by
  rw [List.take_add_one, h, wide_app]; rfl
theorem or_nn {x y : Int32} (hx : 0 ≤ x.toInt) (hy : 0 ≤ y.toInt) : 0 ≤ (x ||| y).toInt := by
  have e : ∀ z : Int32, 0 ≤ z.toInt ↔ z.toBitVec.msb = false := fun z => by
    have := BitVec.toInt_neg_iff (x := z.toBitVec)
    have h2 := BitVec.msb_eq_toInt (x := z.toBitVec)
    rw [h2]; simp
  rw [e] at *
  show (x.toBitVec ||| y.toBitVec).msb = false
  rw [BitVec.msb_or, hx, hy]; rfl
theorem shl1_nat {n : Nat} (h : n < 1000000) : n.toInt32 <<< ((1 : Int32) &&& 31) = (2 * n).toInt32 := Int32.toInt_inj.mp (by have := shl1 n.toInt32; have := i32_len (n := n) (by omega); have := i32_len (n := 2 * n) (by omega); have := rng32 (n.toInt32 <<< ((1 : Int32) &&& 31)); omega)
theorem shr1_nat {n : Nat} (h : n < 1000000) : (2 * n).toInt32 >>> ((1 : Int32) &&& 31) = n.toInt32 := Int32.toInt_inj.mp (by have := shr1 (2 * n).toInt32; have := i32_len (n := n) (by omega); have := i32_len (n := 2 * n) (by omega); omega)
theorem i32_add4 (a : Nat) : a.toInt32 + 4 = (a + 4).toInt32 := i32_add (a := a) (b := 4)
theorem CapOf.grow0 {m c : Nat} (h : c < m) : c + max (m - c) (c + 2) = max m (2 * c + 2) := by omega
theorem CapOf.grow1 {m c : Nat} (h : c < m) : 2 * c + max (2 * m - 2 * c) (2 * c + 4) = 2 * max m (2 * c + 2) := by omega
theorem Str.keepA {Z : State} {h h' : Heap} {s a : Addr} {cs : List Int32} {C : String} {a0 : Array Value} {k : Nat} (F : Str Z h s cs) (E : Exa Z h a C) (hC : ST ≠ C) (wi : (Cond.instantiable C k).before a0 Z = true) (K : Keep h h' [a]) : Str Z h' s cs := by
  obtain ⟨u, cd, bs, q1, q2, q3, q4, q5⟩ := F
  have n1 : s ∉ [a] := by simp; exact Exa.ne q1 E hC
  exact ⟨u, cd, bs, q1.keep K, q2.keep K n1, q3.keep K n1, q4.keep K (by simp; exact Ne.symm (Exa.neArI E wi q4)), q5⟩
theorem Str.neT {Z : State} {h h' : Heap} {s a t t1 : Addr} {cs : List Int32} {C : String} (F : Str Z h s cs) (E : Exa Z h a C) (hC : ST ≠ C) (K : Keep h h' [a]) (hut : ∀ u, Fld Z h s ST "value" "[B" (.ref u) → u ≠ t) (ht : t1 = t ∨ h.size ≤ t1) : ∀ u, Fld Z h' s ST "value" "[B" (.ref u) → u ≠ t1 := by
  obtain ⟨u0, cd, bs, q1, q2, q3, q4, q5⟩ := F
  have n1 : s ∉ [a] := by simp; exact Exa.ne q1 E hC
  intro u f e
  have := Fld.uniq (q2.keep K n1) f
  injection this with this
  subst this; subst e
  rcases ht with e | e
  · exact hut _ q2 e
  · have := q4.gt; omega
theorem StrM.ne {Z : State} {h : Heap} {M : List Addr} {s t : Addr} {cs : List Int32} (F : StrM Z h M s cs) (ht : t ∈ M) : ∀ u, Fld Z h s ST "value" "[B" (.ref u) → u ≠ t := by
  obtain ⟨u, cd, bs, q1, q2, q3, q4, -⟩ := F
  intro u' f e
  have := Fld.uniq q4 f
  injection this with this
  subst e; subst this
  exact q2 ht
end Jvm.Pilot.@@N@@.Wk
namespace Jvm.Pilot.@@N@@.Wk
open Jvm Jvm.ClassFile Sem Op Lib Jvm.Free Jvm.Stand Jvm.LawKit Jvm.RoadKit Bundle Jvm.Free.SB Jvm.Free.SBG
/-! ### a String constant of which nothing is told -/
section LdcU
variable {B : Cx} {l : Launch} {Z : State} {nar : Bool} {own nm : String} {code : ByteArray} {ml : Nat} {ret : Option FieldType} {R : Room} {h0 : Heap} {ws : List Addr} {fr : Bool} {Q : List Addr → Option Value → Heap → Prop} {Me : List Addr}
variable {h : Heap} {k n : Nat} {M : List Addr} {cl : Cl} {pc pc' : Nat} {L : Array Slot} {S : List Value} {a0 : Array Value}
theorem W.ldcU (ok : Ok B l Z nar own nm code ml ret R h0 ws fr Q Me) (hnar : nar = false) {idx : Nat} {text : String} (w : (Jvm.Cond.stringLink own idx text).before a0 Z = true) (wS : ∀ a ∈ Bundle.stringAtoms, a.before a0 Z = true)
    (ht : ∀ c ∈ text.toList, c.toNat < 256) (hcl : cl.1 = true ∨ (own, idx) ∈ cl.2) {sz : Nat} (hsz : 4 * text.toList.length ≤ sz) (hbig : sz ≤ 536870912) (hd : decode code pc = .ok (.ldc idx, 2)) (hp : pc + 2 = pc') (hc : k + 2 ≤ R.cells) (hn : n + (sz + 4) ≤ R.slots)
    (K : ∀ (a : Addr) (h' : Heap), Ext h h' → W B h' (k + 2) (n + (sz + 4)) M (cl.1, (own, idx) :: cl.2) pc' L (.ref a :: S)) : W B h k n M cl pc L S := by
  subst hp
  intro T P
  obtain ⟨vm0, k0, locs, X, hS, hk0, hnr, hL, hcl', hlt, eT, bg⟩ := P
  have eZ := ok.Z_
  have eR := ok.R_
  rw [eZ] at bg
  have hz : Z.Warmed39 T.vm := bg.1
  have hal : Z.vm.Alike T.vm := hz.alike
  have X1 : Stand B.p B.l B.e B.R (B.s.setVm T.vm) B.m B.args B.below B.meth B.c T locs k n := X.retabled X.warmed.wide
  have hS1 : B.s.Since T.vm T.heap.size := hS.trans (X.warmed.since _) hk0
  have hown : (B.s.setVm T.vm).vm.findClass own = some B.m.cls := (hS1.1.alike.findClass _ _).trans ok.own_
  have wl : (Jvm.Cond.stringLink own idx text).before B.args (B.s.setVm T.vm) = true := mvS hz w
  obtain ⟨k1, cf, i, units, hk1, hcf, hcp, hu, hnm, htext, hres⟩ := Cond.stringLink_spec hown wl
  have hlat := Jvm.ClassFile.lat_of_text htext ht
  have q2 : k1.cf.bind (namesOf? ·.constantPool idx) = some (.string text) := by rw [hcf]; exact hnm
  have q3 : k1.cf.bind (·.constantPool[idx]?) = some (.string i) := by rw [hcf]; exact hcp
  have q4 : k1.cf.bind (·.constantPool.utf8? i) = some units := by rw [hcf]; simp [ConstantPool.utf8?, hu]
  have wi : (Jvm.Cond.instantiable "java/lang/String" 4).before a0 Z = true := wS _ (by simp [Bundle.stringAtoms, Bundle.sN])
  have wa : (Jvm.Cond.arrayClass .byte).before a0 Z = true := wS _ (by simp [Bundle.stringAtoms])
  -- the class's record at the case's start
  have hownZ : Z.vm.findClass own = some B.m.cls := by rw [← hal.findClass]; exact hown
  obtain ⟨kz, cfz, iz, uz, hkz, hcfz, hcpz, huz, hnmz, htextz, hresz⟩ := Cond.stringLink_spec hownZ w
  obtain ⟨kT, hkT, ekT, -, hent, -⟩ := hz.2.2.2 _ _ hkz
  have e1 : kT = k1 := Option.some.inj (hkT.symm.trans hk1)
  subst e1
  have ecf : cfz = cf := by have : kT.cf = kz.cf := by rw [ekT]
                            rw [this, hcfz] at hcf; exact Option.some.inj hcf
  subst ecf
  have ei : iz = i := by have := hcpz.symm.trans hcp; simpa using this
  subst ei
  have eu : uz = units := by have := huz.symm.trans hu; simpa using this
  subst eu
  have hownT : T.vm.findClass own = some B.m.cls := hown
  have hkT1 : T.vm.classes[B.m.cls]? = some kT := hk1
  have hltT : ∀ e ∈ cl.2, ∃ a, Lit (B.s.setVm T.vm) e.1 e.2 a := fun e he => by
    obtain ⟨a, ha⟩ := hlt e he
    exact ⟨a, Lit.stays ha X.warmed.wide⟩
  rcases hres with hopen | ⟨a, hres⟩
  · have hcl : cl.1 = true := hcl.elim id fun q => by
      obtain ⟨a, ha⟩ := hltT _ q
      simp [Lit, State.resolvedAt?, hownT, hkT1, hopen] at ha
    cases hf : T.vm.interned.find? (fun p => p.1 == uz) with
    | some pr =>
      obtain ⟨u', a⟩ := pr
      have hu' : u' = uz := by
        have := Array.find?_some hf
        simpa using this
      subst hu'
      have hW : (B.s.setVm T.vm).Warmed39 (T.vm.noted B.m.cls idx (.string a)) := X1.warmed.wide.notedString hk1 (Or.inl hopen) q2 q3 q4 hf
      have X2 := (X1.mono (Nat.le_add_right k 2) (Nat.le_add_right n (sz + 4))).retabled hW
      have bg2 : Bg Z M (T.setVm (T.vm.noted B.m.cls idx (.string a))) := bg.move (State.Warmed39.trans (t := B.s.setVm T.vm) hz hW) rfl (Kept.refl _ _)
      refine Gd.step (U' := (T.setVm (T.vm.noted B.m.cls idx (.string a))).setTop (mkF B.m (pc + 2) L (.ref a :: S))) (fun t q => ?_) (K a h ⟨Nat.le_refl _, fun _ _ q => q⟩ _ ⟨T.vm.noted B.m.cls idx (.string a), T.heap.size, locs, X2, hS1.trans ⟨hW, State.Booked.step (T₂ := T.setVm (T.vm.noted B.m.cls idx (.string a))) (X1.warmed.no_new_pair _) X1.same.2.1 ⟨Nat.le_refl _, Or.inl rfl⟩⟩ (Nat.le_refl _), Nat.le_refl _, fun q => ?_, hL, hcl', fun e he => ?_, eT, by rw [eZ]; exact bg2⟩)
      · have hdd := hb ok.by_ hd
        jvm_step X1.here [ok.x, hdd, ldc.wp_string_found (e := B.e) (s := T) (f := mkF B.m pc L S) X1.here.top hk1 hcf hcp hu hopen hf]
        exact q
      · rw [ok.nar_, hnar] at q; cases q
      · rcases List.mem_cons.mp he with rfl | he
        · refine ⟨a, ?_⟩
          have hf2 : (T.vm.noted B.m.cls idx (.string a)).findClass own = some B.m.cls := (hW.alike.findClass _ _).trans hown
          obtain ⟨kk, hq1, hq2⟩ : ∃ k2 : Class, (T.vm.noted B.m.cls idx (.string a)).classes[B.m.cls]? = some k2 ∧ k2.resolved[idx]? = some (some (.string a)) := ⟨_, Vm.classes_note_self idx (.string a) hkT1, Class.resolved_note_self (.string a) hopen⟩
          simp [Lit, State.resolvedAt?, hf2, hq1, hq2]
        · obtain ⟨b, hb'⟩ := hltT e he
          exact ⟨b, Lit.stays hb' hW⟩
    | none =>
      have hheld : ConstHeldL (B.s.setVm T.vm) own idx := by
        intro c k2 cf2 i2 units2 a hc2 hk2 hcf2 hp2 hu2 hor
        cases hc2.symm.trans hown
        cases hk2.symm.trans hk1
        cases hcf2.symm.trans hcf
        cases hp2.symm.trans hcp
        cases hu2.symm.trans hu
        rcases hor with q | ⟨-, q⟩
        · rw [hopen] at q; simp at q
        · rw [show (B.s.setVm T.vm).vm.interned = T.vm.interned from rfl, hf] at q; cases q
      have hold : ∀ (b : Addr) (c : Cell), (B.s.setVm T.vm).heap[b]? = some c → T.heap[b]? = some c := oldF X1 (fun y hy => hcl' hcl y hy)
      obtain ⟨a, T2, X2, hS2, ⟨k2, hk2, hr2⟩, hkp, hi1, hint, ⟨units2, htext2, hin⟩, st⟩ := X1.ldcColdF hold ok.x (own := own) hown wl (fun d hd => by
        have q := wS d hd
        simp only [Bundle.stringAtoms, List.mem_cons, List.not_mem_nil, or_false] at hd
        rcases hd with rfl | rfl | rfl | rfl | rfl | rfl | rfl
        · exact mv (s := B.s.setVm T.vm) hz q
        · exact mv (s := B.s.setVm T.vm) hz q
        · exact mvA (s := B.s.setVm T.vm) hz q
        · exact mv (s := B.s.setVm T.vm) hz q
        · exact mv (s := B.s.setVm T.vm) hz q
        · exact mv (s := B.s.setVm T.vm) hz q
        · exact mv (s := B.s.setVm T.vm) hz q) hheld (fun us hus => Jvm.ClassFile.lat_of_text hus ht) (g := mkF B.m pc L S) rfl (hb ok.by_ hd) hsz hbig (by rw [eR]; exact hc) (by rw [eR]; exact hn)
      have same : ∀ us : Array UInt16, utf16ToString? us = some text → us = uz := fun us hus => Array.toList_inj.mp (by rw [Jvm.ClassFile.units_of_text hus ht, Jvm.ClassFile.units_of_text htext ht])
      have eu2 := same units2 htext2
      subst eu2
      have hz2 : Z.Warmed39 T2.vm := State.Warmed39.trans (t := B.s.setVm T.vm) hz hS2.1
      -- where the entry points now
      have hfa : T2.vm.interned.find? (fun p => p.1 == units2) = some (units2, a) := by
        obtain ⟨k2', hk2', -, -, ee, -⟩ := hS2.1.2.2.2 _ _ hk1
        cases hk2.symm.trans hk2'
        rcases ee idx with e0 | ⟨-, r, e1, hr | ⟨a3, t3, si, us, rfl, -, z3, z4, z5⟩⟩
        · rw [hr2, hopen] at e0; simp at e0
        · exfalso
          rw [hr2] at e1
          simp only [Option.some.injEq] at e1
          subst e1
          simp [State.rightAt, hk1, hcf, hnm] at hr
        · rw [hr2] at e1
          have ea : a = a3 := by simpa using e1
          subst ea
          rw [q3] at z3
          have : si = iz := by simpa using z3.symm
          subst this
          rw [q4] at z4
          have : us = units2 := by simpa using z4.symm
          subst this
          exact z5
      have hpush : T2.vm.interned = T.vm.interned.push (units2, a) ∧ T.heap.size ≤ a := by
        rcases hint with e0 | ⟨us, a', hus, e0⟩
        · rw [e0, hf] at hfa; cases hfa
        · have := same us hus
          subst this
          rw [e0] at hfa
          rcases find_push hfa with q | ⟨-, -, q⟩
          · rw [hf] at q; cases q
          · subst q
            refine ⟨e0, ?_⟩
            rcases hi1.2 with e2 | ⟨u3, a3, e2, e3, -⟩
            · rw [e0] at e2
              have := congrArg Array.size e2
              simp at this
            · have e4 := e0.symm.trans e2
              have e5 := congrArg Array.back? e4
              simp at e5
              rw [e5.2]; exact e3
      have Kp : Kept M T.heap T2.heap := ⟨hi1.1, fun b c q _ => by rw [hkp b (Array.getElem?_eq_some_iff.mp q).1]; exact q⟩
      have sl : SlM M T2 a units2 := by
        obtain ⟨q, cS, g1, g2, g3, g4, g5, g6⟩ := hin
        rcases g6 with ⟨g6, -⟩ | ⟨g6, g7⟩
        · exfalso
          have := X1.same.2.1
          rw [g1] at g6
          have h3 : (B.s.setVm T.vm).heap.size ≤ T.heap.size := this
          exact absurd g6 (Nat.not_lt.mpr (Nat.le_trans h3 hpush.2))
        · exact ⟨q, cS, g1, g2, g3, g4, g5, fun r => absurd (bg.2.2.2.2 _ r) (Nat.not_lt.mpr g6), fun r => absurd (bg.2.2.2.2 _ r) (Nat.not_lt.mpr g7)⟩
      have hal2 : T.vm.Alike T2.vm := hal.symm.trans hz2.alike
      have bg2 : Bg Z M T2 := by
        refine ⟨hz2, fun us b hl2 hf2 => ?_, ⟨Nat.le_trans bg.2.2.1.1 Kp.1, fun x c q => Kp.2 x c (bg.2.2.1.2 x c q) fun z => absurd (Array.getElem?_eq_some_iff.mp q).1 (Nat.not_lt.mpr (bg.2.2.2.1 x z))⟩, bg.2.2.2.1, fun x z => Nat.lt_of_lt_of_le (bg.2.2.2.2 x z) Kp.1⟩
        rw [hpush.1] at hf2
        rcases find_push hf2 with q | ⟨-, q, q'⟩
        · exact (bg.2.1 us b hl2 q).imp id fun s => s.move hal2 Kp.2
        · subst q q'; exact Or.inr sl
      have E : Ext h T2.heap := by
        rw [← eT]
        exact ⟨hi1.1, fun b c q => by rw [hkp b (Array.getElem?_eq_some_iff.mp q).1]; exact q⟩
      refine Gd.step st (K a T2.heap E T2 ⟨T2.vm, T2.heap.size, locs, X2, hS1.trans hS2 hi1.1, Nat.le_refl _, fun q => ?_, hL, hcl', fun e he => ?_, rfl, by rw [eZ]; exact bg2⟩)
      · rw [ok.nar_, hnar] at q; cases q
      · rcases List.mem_cons.mp he with rfl | he
        · refine ⟨a, ?_⟩
          have hf2 : T2.vm.findClass own = some B.m.cls := (hS2.1.alike.findClass _ _).trans hown
          simp [Lit, State.resolvedAt?, hf2, hk2, hr2]
        · obtain ⟨b, hb'⟩ := hltT e he
          exact ⟨b, Lit.stays hb' hS2.1⟩
  · have Li : Lit (B.s.setVm T.vm) own idx a := by simp [Lit, State.resolvedAt?, hownT, hkT1, hres]
    refine Gd.step (ldcAgain X1 ok.x hz hown w Li (g := mkF B.m pc L S) rfl (hb ok.by_ hd)) (K a h ⟨Nat.le_refl _, fun _ _ q => q⟩ T ⟨T.vm, T.heap.size, locs, X1.mono (Nat.le_add_right k 2) (Nat.le_add_right n (sz + 4)), hS1, Nat.le_refl _, fun q => ?_, hL, hcl', fun e he => ?_, eT, by rw [eZ]; exact bg⟩)
    · rw [ok.nar_, hnar] at q; cases q
    · rcases List.mem_cons.mp he with rfl | he
      · exact ⟨a, Li⟩
      · exact hltT e he
end LdcU
end Jvm.Pilot.@@N@@.Wk
namespace Jvm.Pilot.@@N@@.Wk
open Jvm Jvm.ClassFile Sem Op Lib Jvm.Free Jvm.Stand Jvm.LawKit Jvm.RoadKit Bundle
/-! ### a method with handlers, none of which is reached: it writes nothing and answers w -/
abbrev Hs : Type := List (Nat × Nat × Nat × Nat)
def ConH (l : Launch) (Z : State) (y : MethodName) (bytes : ByteArray) (maxL : Nat) (ret : Option FieldType) (hs : Hs) (rm : Room) (as' : List Value) (h : Heap) (w : Value) : Prop :=
  ∀ (M : List Addr), MetFree l y (head1 [Jvm.Cond.codeWith y bytes maxL ret hs] rm) (fun a U => a = as'.toArray ∧ U.heap = h ∧ Bg Z M U) (fun _ _ _ _ _ => True)
    (fun _ U o U' => ∃ Lc, o = .returned (some w) ∧ U'.heap = h ∧ Bg Z M U' ∧ (∀ y ∈ Lc, h.size ≤ y.base) ∧ FrameEnd U o U' Lc rm.cells rm.slots)
theorem hisH {y : MethodName} {bytes : ByteArray} {maxL : Nat} {ret : Option FieldType} {hs : Hs} {rm : Room} : ∀ args (s : State) m, (head1 [Jvm.Cond.codeWith y bytes maxL ret hs] rm).pre.before args s = true → s.methodNamed? y = some m →
    ∃ meth c, s.vm.method? m = some meth ∧ meth.code = some c ∧ c.code = bytes ∧ c.maxLocals = maxL ∧ meth.sig.returnType = ret ∧ meth.locks = false := fun args s m hh hn => by
  obtain ⟨m', meth, c, h0, h1, h2, h3, h4, -, h5, h6, -⟩ := Cond.codeWith_spec (atoms_spec (ws := [Jvm.Cond.codeWith y bytes maxL ret hs]) hh _ (List.mem_cons_self ..))
  cases hn.symm.trans h0
  exact ⟨meth, c, h1, h2, h3, h4, h5, h6⟩
theorem ConH.intro {l : Launch} {Z : State} {y : MethodName} {bytes : ByteArray} {maxL : Nat} {ret : Option FieldType} {hs : Hs} {rm : Room} {as' : List Value} {h : Heap} {w : Value} {L0 : Array Slot}
    (hpl : plainFor y = true) (hef : ∀ m, entryFrame m as'.toArray maxL = mkF m 0 L0 []) (body : ∀ (B : Cx) (M : List Addr), (∀ w ∈ ([] : List Addr), w ∈ M) → Ok B l Z true y.cls y.name bytes maxL ret rm h [] false (OldQ false (fun v h' => v = some w ∧ h' = h)) M → W B h 0 0 M (true, []) 0 L0 []) : ConH l Z y bytes maxL ret hs rm as' h w := by
  intro M
  refine MetFree.of_bodySF hpl hisH ?_
  intro p e s m args below meth c s₁ Bd hml hP hK
  obtain ⟨rfl, hh, bg⟩ := hP
  have X : Stand p l e rm s m as'.toArray below meth c s₁ [] 0 0 := Stand.of_body Bd
  obtain ⟨t, o, g1, g2, g3, v, Lc, N, g4, g5, g6, g7, g8, g9, g10⟩ := body (p, l, e, rm, s, m, as'.toArray, below, meth, c, Z, true, [], M, false, OldQ false (fun v h' => v = some w ∧ h' = h)) M (fun _ q => (nomatch q))
    ⟨Bd.exec, Bd.bytes, hml, findClass_of_methodNamed Bd.named, (name_of_methodNamed Bd.named Bd.method).1, Bd.returns, Bd.notSynchronized, bg.1, rfl, rfl, rfl, rfl, rfl, rfl, rfl, rfl, hh⟩ s₁
    ⟨s.vm, s.heap.size, [], by rw [State.setVm_self]; exact X, (State.WarmedH.refl s).since _, by rw [Bd.state]; exact Nat.le_refl _, fun _ => State.WarmedH.refl s, fun _ q => (nomatch q), fun _ _ q => (nomatch q), fun _ q => (nomatch q), by rw [Bd.state]; exact hh, by rw [Bd.state]; exact bg.move bg.1 rfl (Kept.refl _ _)⟩
  obtain ⟨rfl, rfl, e5⟩ := g5
  exact ⟨t, o, by rw [hef]; exact g1, g2, g3, Lc, g4, e5, g7, fun y hy => (g8 y hy).elim (fun q => (nomatch q)) (fun q => by rw [← hh]; exact q), g9.1, g10 rfl, g9.2.2.2⟩
theorem ConH.back {l : Launch} {Z : State} {y : MethodName} {bytes : ByteArray} {maxL : Nat} {ret : Option FieldType} {hs : Hs} {rm : Room} {as' : List Value} {h : Heap} {w : Value} {M : List Addr} {a0 : Array Value}
    (C : ConH l Z y bytes maxL ret hs rm as' h w) {p : Program} {e : Env} {below : List Frame} {s : State} {args : Array Value} {R : Room} {len Wd : Nat} (hZ : Z.Warmed39 s.vm)
    (wc : (Jvm.Cond.codeWith y bytes maxL ret hs).before a0 Z = true) (wz : (Jvm.Cond.initialized y.cls).before a0 Z = true) (hf : rm.frames + 1 ≤ R.frames) (hl : Wd + (maxL + 11) + rm.locals ≤ R.locals) :
    BackS l R p e below s args y len Wd (fun A a => a = as'.toArray ∧ A.U.heap = h ∧ Bg Z M A.U ∧ A.cells + rm.cells ≤ R.cells ∧ A.slots + rm.slots ≤ R.slots)
      (fun A _ v B => ∃ Lc, v = some w ∧ A.U.heap = h ∧ B.U.heap = h ∧ Bg Z M B.U ∧ (∀ y ∈ Lc, h.size ≤ y.base) ∧ B.locs = A.locs ++ Lc ∧ B.cells = A.cells + rm.cells ∧ B.slots = A.slots + rm.slots ∧ A.U.WarmedH B.U.vm) :=
  BackS.of_back (Back.of_freeWith (bytes := bytes) (maxL := maxL) (ret := ret) (handlers := hs) (E := fun _ U o t Lc k n => k = rm.cells ∧ n = rm.slots ∧ o = .returned (some w) ∧ t.heap = h ∧ Bg Z M t ∧ (∀ y ∈ Lc, h.size ≤ y.base) ∧ U.WarmedH t.vm) (C M) hf hl
    (fun m meth c A a Y hp => have hU : Z.Warmed39 A.U.vm := wtrans hZ Y.warmed
      ⟨by show (Jvm.Cond.and _ .tt).before a A.U = true; rw [Cond.before_and, mv hU wc]; rfl, mv hU wc, mv hU wz, hp.2.2.2.1, hp.2.2.2.2⟩)
    (fun m meth c A a g mk Y hp => ⟨hp.1, hp.2.1, hp.2.2.1.move (U' := A.U.calling g mk a) hp.2.2.1.1 rfl (Kept.refl _ _)⟩) (fun _ _ _ _ _ _ _ _ _ => trivial)
    (fun _ _ _ _ ⟨Lc, h1, h2, h3, h4, h5⟩ => ⟨Lc, _, _, h5, rfl, rfl, h1, h2, h3, h4, h5.2.1⟩)
    (fun m meth c A a g mk v t Lc k n Y hp _ _ ⟨e1, e2, e3, e4, e5, e6, e7⟩ => by
      cases e3; subst e1 e2
      exact ⟨Lc, rfl, hp.2.1, e4, e5.move (U' := ({ A.U with heap := t.heap, slotsUsed := t.slotsUsed } : State).setVm t.vm) e5.1 rfl (Kept.refl _ _), e6, rfl, rfl, rfl, e7⟩))
    (fun A a v B ⟨Lc, _, e1, e2, _⟩ => by rw [e1, e2]; exact Nat.le_refl _)
theorem decl_ofH {a0 : Array Value} {Z : State} {y : MethodName} {bytes : ByteArray} {maxL : Nat} {ret : Option FieldType} {hs : Hs} (w : (Jvm.Cond.instanceMethod y).before a0 Z = true) (wc : (Jvm.Cond.codeWith y bytes maxL ret hs).before a0 Z = true) : (Jvm.Cond.declares y).before a0 Z = true := by
  obtain ⟨mk, meth, hn, hm, hs, -⟩ := Cond.instanceMethod_spec w
  obtain ⟨m', m2, cM, q0, q1, -, -, -, -, -, -, hsig⟩ := Cond.codeWith_spec wc
  cases hn.symm.trans q0
  cases hm.symm.trans q1
  simp [Cond.before, Cond.holds, Cond.value, hn, hm, hs, hsig]
/-- a Latin-1 builder, its array's exact class told -/
def SBx (Z : State) (h : Heap) (a t : Addr) (cs bs : List Int32) : Prop := SBd Z h a t cs bs ∧ Exa Z h t "[B"
theorem SBx.ext {Z : State} {h h' : Heap} {a t : Addr} {cs bs : List Int32} (F : SBx Z h a t cs bs) (E : Ext h h') : SBx Z h' a t cs bs := ⟨F.1.ext E, F.2.ext E⟩
section CallsH
variable {B : Cx} {l : Launch} {Z : State} {nar : Bool} {own nm : String} {code : ByteArray} {ml : Nat} {ret : Option FieldType} {R : Room} {h0 : Heap} {ws : List Addr} {fr : Bool} {Q : List Addr → Option Value → Heap → Prop} {Me : List Addr}
variable {h : Heap} {k n : Nat} {M : List Addr} {cl : Cl} {pc pc' : Nat} {L : Array Slot} {S : List Value} {a0 : Array Value}
variable {idx : Nat} {y : MethodName} {bytes : ByteArray} {maxL : Nat} {ret' : Option FieldType} {rm' : Room} {as' rest : List Value} {ps : List FieldType} {r : Option FieldType} {hs : Hs} {w : Value}
theorem W.callH0 {len : Nat} (ok : Ok B l Z nar own nm code ml ret R h0 ws fr Q Me) (wc : (Jvm.Cond.codeWith y bytes maxL ret' hs).before a0 Z = true) (wz : (Jvm.Cond.initialized y.cls).before a0 Z = true) (C : ConH l Z y bytes maxL ret' hs rm' as' h w)
    (hf : rm'.frames + 1 ≤ R.frames) (hlo : (rest.map fun v => v.category).sum + (maxL + 11) + rm'.locals ≤ R.locals) (hcc : k + rm'.cells ≤ R.cells) (hnn : n + rm'.slots ≤ R.slots)
    (core : ∀ (T : State) (vm0 : Vm) (locs : List Loc), Stand B.p B.l B.e B.R (B.s.setVm vm0) B.m B.args B.below B.meth B.c T locs k n → Z.Warmed39 (B.s.setVm vm0).vm → (B.s.setVm vm0).vm.findClass own = some B.m.cls → T.heap = h →
      ∀ {Pre : Pt → Array Value → Prop} {Post : Pt → Array Value → Option Value → Pt → Prop}, BackS B.l B.R B.p B.e B.below (B.s.setVm vm0) B.args y len (rest.map fun v => v.category).sum Pre Post → (∀ vm₁, (B.s.setVm vm0).WarmedH vm₁ → Pre ⟨T.setVm vm₁, locs, k, n⟩ as'.toArray) →
      ∃ (v : Option Value) (vm₁ : Vm) (A : Pt), (B.s.setVm vm0).WarmedH vm₁ ∧ Stand B.p B.l B.e B.R ((B.s.setVm vm0).setVm A.U.vm) B.m B.args B.below B.meth B.c A.U A.locs A.cells A.slots ∧ (B.s.setVm vm0).Since A.U.vm A.U.heap.size ∧ T.heap.size ≤ A.U.heap.size ∧ Post ⟨T.setVm vm₁, locs, k, n⟩ as'.toArray v A ∧
        Steps B.p.tables B.e B.below (T.setTop (mkF B.m pc L S)) (A.U.setTop (mkF B.m pc' L (v.toList ++ rest))))
    (K : W B h (k + rm'.cells) (n + rm'.slots) M cl pc' L (w :: rest)) : W B h k n M cl pc L S := by
  intro T P
  obtain ⟨vm0, k0, locs, X, hS, hk0, hnar, hL, hc, hlt, eT, bg⟩ := P
  have eZ := ok.Z_
  subst eZ
  have eR := ok.R_
  subst eR
  have el := ok.l_
  subst el
  have hsz : h0.size ≤ h.size := by rw [← ok.h_, ← eT]; exact X.same.2.1
  have hz := ok.zv hS
  have hK := C.back (M := M) (p := B.p) (e := B.e) (below := B.below) (s := B.s.setVm vm0) (args := B.args) (len := len) hz wc wz hf hlo
  obtain ⟨v, vm1, ⟨T', L', k', n'⟩, hw1, X', hS', hgr, ⟨Lc, rfl, q0, q1, q3, q4, q5, q6, q7, q8⟩, st⟩ := core T vm0 locs X hz (ok.ownv hS) eT
    hK (fun vm1 hw => ⟨rfl, eT, bg.move (U' := T.setVm vm1) (wtrans hz hw) (hw.interned_eq.trans X.warmed.interned_eq.symm) (Kept.refl _ _), hcc, hnn⟩)
  dsimp only [Pt.U, Pt.locs, Pt.cells, Pt.slots] at X' hS' hgr q0 q1 q3 q4 q5 q6 q7 q8 st
  subst q5 q6 q7
  have hS2 : B.s.Since T'.vm T'.heap.size := hS.trans hS' (Nat.le_trans hk0 hgr)
  refine Gd.step (fun t q => st.trans q) (K T' ⟨T'.vm, T'.heap.size, locs ++ Lc, X', hS2, Nat.le_refl _, fun q => ?_, fun x hx => ?_, fun q x hx => ?_, fun e he => ?_, q1, q3⟩)
  · exact State.WarmedH.trans (t := T.setVm vm1) (State.WarmedH.trans (t := B.s.setVm vm0) (hnar q) hw1) q8
  · rcases List.mem_append.mp hx with z | z
    · exact hL x z
    · rw [ok.h_]; exact Or.inr (Nat.le_trans hsz (q4 x z))
  · rcases List.mem_append.mp hx with z | z
    · exact hc q x z
    · rw [ok.h_]; exact Nat.le_trans hsz (q4 x z)
  · obtain ⟨a, ha⟩ := hlt e he
    exact ⟨a, Lit.stays ha hS'.1⟩
/-- invokevirtual of a private method with handlers -/
theorem W.callH (ok : Ok B l Z nar own nm code ml ret R h0 ws fr Q Me) {a : Addr} {C0 : String} (w1 : (Jvm.Cond.methodLink own idx y).before a0 Z = true) (nf : NoFace Z y.cls) (w3 : (Jvm.Cond.selects C0 y y).before a0 Z = true) (w4 : (Jvm.Cond.instanceMethod y).before a0 Z = true) (wz : (Jvm.Cond.initialized y.cls).before a0 Z = true) (wc : (Jvm.Cond.codeWith y bytes maxL ret' hs).before a0 Z = true) (hy : notMH y.cls)
    (E : Exa Z h a C0) (hds : parseMethodDescriptor y.desc = some ⟨ps, r⟩) (hlen : as'.length = ps.length) (C : ConH l Z y bytes maxL ret' hs rm' (.ref a :: as') h w) (hL : L.size = ml)
    (hf : rm'.frames + 1 ≤ R.frames) (hlo : (rest.map fun v => v.category).sum + (maxL + 11) + rm'.locals ≤ R.locals) (hcc : k + rm'.cells ≤ R.cells) (hnn : n + rm'.slots ≤ R.slots) (hd : decode code pc = .ok (.invokevirtual idx, 3)) (hp : pc + 3 = pc') (hst : S = as'.reverse ++ .ref a :: rest)
    (K : W B h (k + rm'.cells) (n + rm'.slots) M cl pc' L (w :: rest)) : W B h k n M cl pc L S := by
  subst hp
  refine W.callH0 (len := 3) ok wc wz C hf hlo hcc hnn (fun T vm0 locs X hz ho eT Pre Post hK hpre => ?_) K
  obtain ⟨cB, kB, q1, q2, q3⟩ := isOf hz eT E
  refine X.virtualBackS ok.x ho (mv hz w1) (mv hz (decl_ofH w4 wc)) ?_ (mv hz w3) (mv hz w4) hy hK q1 q3 (g := mkF B.m pc L S) rfl (by rw [ok.ml_]; exact hL) (Steps.refl _) (argsL := as') (rest := rest) (lenOf hds hlen) hst (by show 2 * 0 + _ ≤ _; omega) (hb ok.by_ hd) hpre
  obtain ⟨cc, kk, e1, e2, e3⟩ := nf
  intro r0 h0
  have f1 := findClass_of_methodNamed h0
  have f2 := (hz.alike.findClass _ _).trans e1
  obtain ⟨k', f3, f4⟩ := hz.alike.2.2 _ _ e2
  cases f1.symm.trans f2
  exact ⟨k', f3, by rw [f4]; exact e3⟩
theorem W.lcmp (ok : Ok B l Z nar own nm code ml ret R h0 ws fr Q Me) {x y : Int64} (hd : decode code pc = .ok (.lcmp, 1)) (hp : pc + 1 = pc') (K : W B h k n M cl pc' L (.int (XT.cmpL x y) :: S)) : W B h k n M cl pc L (.long y :: .long x :: S) := by
  subst hp; exact W.pure (fun T t hA q => XT.lcmp hA ok.x rfl (hb ok.by_ hd) rfl q) K
end CallsH
end Jvm.Pilot.@@N@@.Wk
namespace Jvm.Pilot.@@N@@.Wk
open Jvm Jvm.ClassFile Sem Op Lib Jvm.Free Jvm.Stand Jvm.LawKit Jvm.RoadKit Bundle
/-! ### arrays over a class, written; switches, floats -/
def ArO (Z : State) (h : Heap) (a : Addr) (C : String) (vs : List Value) : Prop := ∃ c : Cell, Arr Z h a c (.object C) ∧ c.slots = vs.toArray ∧ Ovr Z c.cls C
section Facts
variable {Z : State} {h h' : Heap} {a b : Addr} {C : String} {vs vs' : List Value} {sl : Nat} {v : Value} {ws : List Addr}
theorem ArO.ext (F : ArO Z h a C vs) (E : Ext h h') : ArO Z h' a C vs := by obtain ⟨c, A, r⟩ := F; exact ⟨c, A.ext E, r⟩
theorem ArO.keep (F : ArO Z h a C vs) (K : Keep h h' ws) (q : a ∉ ws) : ArO Z h' a C vs := by obtain ⟨c, A, r⟩ := F; exact ⟨c, ⟨K.2.1 a c A.1 q, A.2⟩, r⟩
theorem ArO.other (F : ArO Z h b C vs) (W : Wr h h' a sl v) (q : b ≠ a) : ArO Z h' b C vs := by obtain ⟨c, A, r⟩ := F; exact ⟨c, A.other W q, r⟩
theorem ArO.gt (F : ArO Z h a C vs) : h.size > a := by obtain ⟨c, A, -⟩ := F; exact A.lt
theorem ArO.cast (F : ArO Z h a C vs) (e : vs = vs') : ArO Z h a C vs' := e ▸ F
theorem ArO.r (F : ArO Z h a C vs) : ArR Z h a (.object C) vs := by obtain ⟨c, A, e, -⟩ := F; exact ⟨c, A, e⟩
theorem ArO.set {j : Nat} (F : ArO Z h a C vs) (W : Wr h h' a j v) : ArO Z h' a C (vs.set j v) := by
  obtain ⟨c, A, e, o⟩ := F
  refine ⟨_, A.same W, ?_, o⟩
  simp only [Cell.setSlot, e]
  apply Array.ext_getElem?
  intro i
  simp
theorem Exa.neArO {a0 : Array Value} {k : Nat} {D : String} (E : Exa Z h a D) (w : (Cond.instantiable D k).before a0 Z = true) (A : ArO Z h b C vs) : a ≠ b := by
  obtain ⟨c, A, -⟩ := A
  exact ne_arr E w A
theorem ArI.neO {cs : List Int32} {ty : FieldType} (F : ArI Z h a ty cs) (hty : ty ≠ .object C) (A : ArO Z h b C vs) : a ≠ b := by
  rintro rfl
  obtain ⟨c, A1, -⟩ := F
  obtain ⟨d, A2, -⟩ := A
  cases A1.1.symm.trans A2.1
  obtain ⟨-, k1, h1, c1, e1⟩ := A1.2.1
  obtain ⟨-, k2, h2, c2, e2⟩ := A2.2.1
  cases h1.symm.trans h2
  rw [e1] at e2
  injection e2 with _ e
  exact hty e
end Facts
section Heap
variable {B : Cx} {l : Launch} {Z : State} {nar : Bool} {own nm : String} {code : ByteArray} {ml : Nat} {ret : Option FieldType} {R : Room} {h0 : Heap} {ws : List Addr} {fr : Bool} {Q : List Addr → Option Value → Heap → Prop} {Me : List Addr}
variable {h : Heap} {k n : Nat} {M : List Addr} {cl : Cl} {pc pc' : Nat} {L L' : Array Slot} {S S' : List Value} {a0 : Array Value}
theorem W.anew (ok : Ok B l Z nar own nm code ml ret R h0 ws fr Q Me) {idx : Nat} {C : String} (w1 : (Jvm.Cond.classLink own idx C).before a0 Z = true) (w2 : (Jvm.Cond.arrayOver (.object C)).before a0 Z = true) {z : Int32} {cap : Nat} (hz0 : ¬ z < 0) (hcap : z.toNatClampNeg ≤ cap) (hb8 : cap * 8 ≤ 536870912)
    (hd : decode code pc = .ok (.anewarray idx, 3)) (hp : pc + 3 = pc') (hc : k + 1 ≤ R.cells) (hn : n + cap ≤ R.slots)
    (K : ∀ (a : Addr) (h' : Heap), h0.size ≤ a → h.size = a → Ext h h' → ArO Z h' a C (List.replicate z.toNatClampNeg .null) → W B h' (k + 1) (n + cap) (a :: M) cl pc' L (.ref a :: S)) : W B h k n M cl pc L (.int z :: S) := by
  subst hp
  refine W.heap (Φ := fun h' => h0.size ≤ h.size ∧ Ext h h' ∧ ArO Z h' h.size C (List.replicate z.toNatClampNeg .null)) (k' := k + 1) (n' := n + cap) (M' := h.size :: M) (cl' := cl) (L' := L) (S' := .ref h.size :: S) ok (fun T vm0 locs X hz ho eT hE hsz => ?_) rfl (fun h' ⟨p0, p1, p2⟩ => K _ h' p0 rfl p1 p2)
  have eR := ok.R_
  subst eR
  obtain ⟨T', h', cA, X', e', E', A', O', st⟩ := newR X ok.x hz ho w1 w2 eT (g := mkF B.m pc L (.int z :: S)) rfl (hb ok.by_ hd) rfl hz0 hcap hb8 hc hn
  subst e'
  exact ⟨T', [], by rw [List.append_nil]; exact X', Kept.ext E', fun _ q => (nomatch q), fun q => ⟨q, fun _ q => (nomatch q)⟩, fun x q => (List.mem_cons.mp q).elim (fun q => Or.inr ⟨Nat.le_of_eq q.symm, q ▸ A'.lt⟩) Or.inl, ⟨hsz, E', _, A', by simp [newA, defaultValue], O'⟩, st⟩
theorem W.aast (ok : Ok B l Z nar own nm code ml ret R h0 ws fr Q Me) {a : Addr} {C : String} {vs : List Value} {j : Int32} {v : Value} {cl' : Cl} (A : ArO Z h a C vs) (F : v = .null ∨ ∃ y, v = .ref y ∧ Ins Z h y C true) (hj : ¬ j < 0) (hl : j.toNatClampNeg < vs.length)
    (ha : a ∈ M) (hw : a ∈ ws ∨ h0.size ≤ a) (hcl : cl'.1 = true → cl.1 = true ∧ h0.size ≤ a) (hcs : cl'.2 = cl.2) (hd : decode code pc = .ok (.aastore, 1)) (hp : pc + 1 = pc')
    (K : ∀ h' : Heap, Wr h h' a j.toNatClampNeg v → ArO Z h' a C (vs.set j.toNatClampNeg v) → W B h' k n M cl' pc' L S) : W B h k n M cl pc L (v :: .int j :: .ref a :: S) := by
  subst hp
  refine W.heap (Φ := fun h' => Wr h h' a j.toNatClampNeg v) (k' := k) (n' := n) (M' := M) (cl' := cl') (L' := L) (S' := S) ok (fun T vm0 locs X hz ho eT hE hsz => ?_) hcs (fun h' q => K h' q (A.set q))
  obtain ⟨c, A1, e, o⟩ := A
  have F' : Sto Z h a v := by
    rcases F with q | ⟨y, q, I⟩
    · exact Or.inl q
    · subst q; exact Sto.of A1 o I
  obtain ⟨T', h', X', e', Wn, st⟩ := stR X ok.x hz eT A1 (j := j) (v := v) (by rintro (q | q); exact hj q; rw [e] at q; simp at q; omega) rfl F' (g := mkF B.m pc L (v :: .int j :: .ref a :: S)) rfl rfl (hb ok.by_ hd)
  subst e'
  refine ⟨T', _, X', Kept.wr Wn ha, fun y hy => ?_, fun q => ⟨(hcl q).1, fun y hy => ?_⟩, fun x q => Or.inl q, Wn, st⟩
  · rw [List.mem_singleton.mp hy]; exact hw
  · rw [List.mem_singleton.mp hy]; exact (hcl q).2
theorem W.tsIn (ok : Ok B l Z nar own nm code ml ret R h0 ws fr Q Me) {x : Int32} {default low high off : Int} {offsets : Array Int} {len : Nat} (hd : decode code pc = .ok (.tableswitch default low high offsets, len)) (hin : ¬ (x.toInt < low ∨ x.toInt > high)) (hoffs : offsets[(x.toInt - low).toNat]? = some off) (hoff : 0 ≤ (pc : Int) + off) (hp : ((pc : Int) + off).toNat = pc')
    (K : W B h k n M cl pc' L S) : W B h k n M cl pc L (.int x :: S) := by
  subst hp
  refine W.still ok (fun T vm0 locs X hz ho eT hE => ⟨T, X, eT, fun t q => ?_⟩) K
  exact X.tableswitchIn ok.x (g := mkF B.m pc L (.int x :: S)) rfl rfl (hb ok.by_ hd) hin hoffs hoff t q
theorem W.ldcF (ok : Ok B l Z nar own nm code ml ret R h0 ws fr Q Me) {idx : Nat} {b : UInt32} (w : (Jvm.Cond.constantFloat own idx b).before a0 Z = true) (hd : decode code pc = .ok (.ldc idx, 2)) (hp : pc + 2 = pc') (K : W B h k n M cl pc' L (.float b :: S)) : W B h k n M cl pc L S := by
  subst hp
  refine W.still ok (fun T vm0 locs X hz ho eT hE => ⟨T, X, eT, fun t q => ?_⟩) K
  exact X.ldcFloatC ok.x ho (mv hz w) (g := mkF B.m pc L S) rfl (hb ok.by_ hd) t q
theorem W.castN (ok : Ok B l Z nar own nm code ml ret R h0 ws fr Q Me) {idx : Nat} (hd : decode code pc = .ok (.checkcast idx, 3)) (hp : pc + 3 = pc') (K : W B h k n M cl pc' L (.null :: S)) : W B h k n M cl pc L (.null :: S) := by
  subst hp
  refine W.still ok (fun T vm0 locs X hz ho eT hE => ⟨T, X, eT, fun t q => ?_⟩) K
  exact X.checkcastNull ok.x (g := mkF B.m pc L (.null :: S)) rfl rfl (hb ok.by_ hd) t q
theorem W.getFN (ok : Ok B l Z nar own nm code ml ret R h0 ws fr Q Me) {idx : Nat} {R0 O f d host : String} {a : Addr} {v : Value} (w : (Cond.fieldLinkNest own idx R0 f d host).before a0 Z = true) (via : Via Z R0 O f d) (F : Fld Z h a O f d v)
    (hd : decode code pc = .ok (.getfield idx, 3)) (hp : pc + 3 = pc') (K : W B h k n M cl pc' L (v :: S)) : W B h k n M cl pc L (.ref a :: S) := by
  subst hp
  refine W.still ok (fun T vm0 locs X hz ho eT _ => ?_) K
  exact RoadKit.getF X ok.x hz ho (host := host) (Or.inr w) via eT F (g := mkF B.m pc L (.ref a :: S)) rfl rfl (hb ok.by_ hd)
end Heap
end Jvm.Pilot.@@N@@.Wk
namespace Jvm.Pilot.@@N@@
open Jvm Jvm.ClassFile Sem Op Lib Jvm.Free Jvm.Stand Jvm.LawKit Jvm.RoadKit Bundle Jvm.Pilot.@@N@@.Jvm.D Jvm.Pilot.@@N@@.Wk
def Ev (Z : State) (a0 : Array Value) : Prop := (∀ d ∈ tables_1, d.before a0 Z = true) ∧ (∃ g : Int32, ¬ g = 0 ∧ Sta Z Z.heap "java/lang/String" "COMPACT_STRINGS" "Z" (.int g)) ∧ (∃ g : Value, g.isRef = true ∧ Sta Z Z.heap "jdk/internal/util/Preconditions" "SIOOBE_FORMATTER" "Ljava/util/function/BiFunction;" g) ∧ (Sta Z Z.heap "java/lang/StringUTF16" "$assertionsDisabled" "Z" (.int 1)) ∧ (Sta Z Z.heap "java/lang/StringUTF16" "HI_BYTE_SHIFT" "I" (.int 0)) ∧ (Sta Z Z.heap "java/lang/StringUTF16" "LO_BYTE_SHIFT" "I" (.int 8)) ∧ (∀ q ∈ consts_1, Jvm.Lit.constHeld Z q.1 q.2) ∧ (Jvm.Lit.compactW.before a0 Z = true)
theorem Ev.compact {Z : State} {a0 : Array Value} (h : Ev Z a0) : (∃ g : Int32, ¬ g = 0 ∧ Sta Z Z.heap "java/lang/String" "COMPACT_STRINGS" "Z" (.int g)) := h.2.1
theorem Ev.fmt {Z : State} {a0 : Array Value} (h : Ev Z a0) : (∃ g : Value, g.isRef = true ∧ Sta Z Z.heap "jdk/internal/util/Preconditions" "SIOOBE_FORMATTER" "Ljava/util/function/BiFunction;" g) := h.2.2.1
theorem Ev.asd {Z : State} {a0 : Array Value} (h : Ev Z a0) : (Sta Z Z.heap "java/lang/StringUTF16" "$assertionsDisabled" "Z" (.int 1)) := h.2.2.2.1
theorem Ev.hi {Z : State} {a0 : Array Value} (h : Ev Z a0) : (Sta Z Z.heap "java/lang/StringUTF16" "HI_BYTE_SHIFT" "I" (.int 0)) := h.2.2.2.2.1
theorem Ev.lo {Z : State} {a0 : Array Value} (h : Ev Z a0) : (Sta Z Z.heap "java/lang/StringUTF16" "LO_BYTE_SHIFT" "I" (.int 8)) := h.2.2.2.2.2.1
theorem Ev.held {Z : State} {a0 : Array Value} (h : Ev Z a0) : (∀ q ∈ consts_1, Jvm.Lit.constHeld Z q.1 q.2) := h.2.2.2.2.2.2.1
theorem Ev.cw {Z : State} {a0 : Array Value} (h : Ev Z a0) : (Jvm.Lit.compactW.before a0 Z = true) := h.2.2.2.2.2.2.2
theorem w0 {Z : State} {a0 : Array Value} (hw : ∀ d ∈ tables_1, d.before a0 Z = true) : ((Jvm.Cond.methodLink "copperpot/web/HtmlTemplateEscapePinLaw" (7 : Nat) ({ cls := "copperpot/web/HtmlTemplateEscapePinLaw", name := "pick", desc := "(I)C" } : Jvm.MethodName))).before a0 Z = true := hw _ (List.mem_of_getElem? (i := 0) rfl)
theorem w1 {Z : State} {a0 : Array Value} (hw : ∀ d ∈ tables_1, d.before a0 Z = true) : ((Jvm.Cond.static ({ cls := "copperpot/web/HtmlTemplateEscapePinLaw", name := "pick", desc := "(I)C" } : Jvm.MethodName))).before a0 Z = true := hw _ (List.mem_of_getElem? (i := 1) rfl)
theorem w2 {Z : State} {a0 : Array Value} (hw : ∀ d ∈ tables_1, d.before a0 Z = true) : ((Jvm.Cond.initialized "copperpot/web/HtmlTemplateEscapePinLaw")).before a0 Z = true := hw _ (List.mem_of_getElem? (i := 2) rfl)
theorem w3 {Z : State} {a0 : Array Value} (hw : ∀ d ∈ tables_1, d.before a0 Z = true) : ((Jvm.Cond.code ({ cls := "copperpot/web/HtmlTemplateEscapePinLaw", name := "pick", desc := "(I)C" } : Jvm.MethodName) method_3_code (2 : Nat) (Option.some Jvm.ClassFile.FieldType.char))).before a0 Z = true := hw _ (List.mem_of_getElem? (i := 3) rfl)
theorem w4 {Z : State} {a0 : Array Value} (hw : ∀ d ∈ tables_1, d.before a0 Z = true) : ((Jvm.Cond.arrayClass Jvm.ClassFile.FieldType.char)).before a0 Z = true := hw _ (List.mem_of_getElem? (i := 4) rfl)
theorem w5 {Z : State} {a0 : Array Value} (hw : ∀ d ∈ tables_1, d.before a0 Z = true) : ((Jvm.Cond.classLink "copperpot/web/HtmlTemplateEscapePinLaw" (13 : Nat) "java/lang/String")).before a0 Z = true := hw _ (List.mem_of_getElem? (i := 5) rfl)
theorem w6 {Z : State} {a0 : Array Value} (hw : ∀ d ∈ tables_1, d.before a0 Z = true) : ((Jvm.Cond.instantiable "java/lang/String" (4 : Nat))).before a0 Z = true := hw _ (List.mem_of_getElem? (i := 6) rfl)
theorem w7 {Z : State} {a0 : Array Value} (hw : ∀ d ∈ tables_1, d.before a0 Z = true) : ((Jvm.Cond.initialized "java/lang/String")).before a0 Z = true := hw _ (List.mem_of_getElem? (i := 7) rfl)
theorem w8 {Z : State} {a0 : Array Value} (hw : ∀ d ∈ tables_1, d.before a0 Z = true) : ((Jvm.Cond.methodLink "copperpot/web/HtmlTemplateEscapePinLaw" (15 : Nat) ({ cls := "java/lang/String", name := "<init>", desc := "([C)V" } : Jvm.MethodName))).before a0 Z = true := hw _ (List.mem_of_getElem? (i := 8) rfl)
theorem w9 {Z : State} {a0 : Array Value} (hw : ∀ d ∈ tables_1, d.before a0 Z = true) : ((Jvm.Cond.instanceMethod ({ cls := "java/lang/String", name := "<init>", desc := "([C)V" } : Jvm.MethodName))).before a0 Z = true := hw _ (List.mem_of_getElem? (i := 9) rfl)
theorem w10 {Z : State} {a0 : Array Value} (hw : ∀ d ∈ tables_1, d.before a0 Z = true) : ((Jvm.Cond.code ({ cls := "java/lang/String", name := "<init>", desc := "([C)V" } : Jvm.MethodName) jdk_42_method_3_code (2 : Nat) (Option.none : Option Jvm.ClassFile.FieldType))).before a0 Z = true := hw _ (List.mem_of_getElem? (i := 10) rfl)
theorem w11 {Z : State} {a0 : Array Value} (hw : ∀ d ∈ tables_1, d.before a0 Z = true) : ((Jvm.Cond.methodLink "java/lang/String" (27 : Nat) ({ cls := "java/lang/String", name := "<init>", desc := "([CIILjava/lang/Void;)V" } : Jvm.MethodName))).before a0 Z = true := hw _ (List.mem_of_getElem? (i := 11) rfl)
theorem w12 {Z : State} {a0 : Array Value} (hw : ∀ d ∈ tables_1, d.before a0 Z = true) : ((Jvm.Cond.instanceMethod ({ cls := "java/lang/String", name := "<init>", desc := "([CIILjava/lang/Void;)V" } : Jvm.MethodName))).before a0 Z = true := hw _ (List.mem_of_getElem? (i := 12) rfl)
theorem w14 {Z : State} {a0 : Array Value} (hw : ∀ d ∈ tables_1, d.before a0 Z = true) : ((Jvm.Cond.code ({ cls := "java/lang/String", name := "<init>", desc := "([CIILjava/lang/Void;)V" } : Jvm.MethodName) jdk_42_method_149_code (6 : Nat) (Option.none : Option Jvm.ClassFile.FieldType))).before a0 Z = true := hw _ (List.mem_of_getElem? (i := 14) rfl)
theorem w15 {Z : State} {a0 : Array Value} (hw : ∀ d ∈ tables_1, d.before a0 Z = true) : ((Jvm.Cond.methodLink "java/lang/String" (1 : Nat) ({ cls := "java/lang/Object", name := "<init>", desc := "()V" } : Jvm.MethodName))).before a0 Z = true := hw _ (List.mem_of_getElem? (i := 15) rfl)
theorem w16 {Z : State} {a0 : Array Value} (hw : ∀ d ∈ tables_1, d.before a0 Z = true) : ((Jvm.Cond.instanceMethod ({ cls := "java/lang/Object", name := "<init>", desc := "()V" } : Jvm.MethodName))).before a0 Z = true := hw _ (List.mem_of_getElem? (i := 16) rfl)
theorem w17 {Z : State} {a0 : Array Value} (hw : ∀ d ∈ tables_1, d.before a0 Z = true) : ((Jvm.Cond.code ({ cls := "java/lang/Object", name := "<init>", desc := "()V" } : Jvm.MethodName) object_method_1_code (1 : Nat) (Option.none : Option Jvm.ClassFile.FieldType))).before a0 Z = true := hw _ (List.mem_of_getElem? (i := 17) rfl)
theorem w18 {Z : State} {a0 : Array Value} (hw : ∀ d ∈ tables_1, d.before a0 Z = true) : ((Jvm.Cond.fieldLink "java/lang/String" (38 : Nat) "java/lang/String" "COMPACT_STRINGS" "Z")).before a0 Z = true := hw _ (List.mem_of_getElem? (i := 18) rfl)
theorem w19 {Z : State} {a0 : Array Value} (hw : ∀ d ∈ tables_1, d.before a0 Z = true) : ((Jvm.Cond.methodLink "java/lang/String" (177 : Nat) ({ cls := "java/lang/StringUTF16", name := "compress", desc := "([CII)[B" } : Jvm.MethodName))).before a0 Z = true := hw _ (List.mem_of_getElem? (i := 19) rfl)
theorem w20 {Z : State} {a0 : Array Value} (hw : ∀ d ∈ tables_1, d.before a0 Z = true) : ((Jvm.Cond.static ({ cls := "java/lang/StringUTF16", name := "compress", desc := "([CII)[B" } : Jvm.MethodName))).before a0 Z = true := hw _ (List.mem_of_getElem? (i := 20) rfl)
theorem w21 {Z : State} {a0 : Array Value} (hw : ∀ d ∈ tables_1, d.before a0 Z = true) : ((Jvm.Cond.initialized "java/lang/StringUTF16")).before a0 Z = true := hw _ (List.mem_of_getElem? (i := 21) rfl)
theorem w22 {Z : State} {a0 : Array Value} (hw : ∀ d ∈ tables_1, d.before a0 Z = true) : ((Jvm.Cond.code ({ cls := "java/lang/StringUTF16", name := "compress", desc := "([CII)[B" } : Jvm.MethodName) jdk_52_method_16_code (6 : Nat) (Option.some (Jvm.ClassFile.FieldType.array Jvm.ClassFile.FieldType.byte)))).before a0 Z = true := hw _ (List.mem_of_getElem? (i := 22) rfl)
theorem w23 {Z : State} {a0 : Array Value} (hw : ∀ d ∈ tables_1, d.before a0 Z = true) : ((Jvm.Cond.arrayClass Jvm.ClassFile.FieldType.byte)).before a0 Z = true := hw _ (List.mem_of_getElem? (i := 23) rfl)
theorem w24 {Z : State} {a0 : Array Value} (hw : ∀ d ∈ tables_1, d.before a0 Z = true) : ((Jvm.Cond.methodLink "java/lang/StringUTF16" (115 : Nat) ({ cls := "java/lang/StringUTF16", name := "compress", desc := "([CI[BII)I" } : Jvm.MethodName))).before a0 Z = true := hw _ (List.mem_of_getElem? (i := 24) rfl)
theorem w25 {Z : State} {a0 : Array Value} (hw : ∀ d ∈ tables_1, d.before a0 Z = true) : ((Jvm.Cond.static ({ cls := "java/lang/StringUTF16", name := "compress", desc := "([CI[BII)I" } : Jvm.MethodName))).before a0 Z = true := hw _ (List.mem_of_getElem? (i := 25) rfl)
theorem w26 {Z : State} {a0 : Array Value} (hw : ∀ d ∈ tables_1, d.before a0 Z = true) : ((Jvm.Cond.code ({ cls := "java/lang/StringUTF16", name := "compress", desc := "([CI[BII)I" } : Jvm.MethodName) jdk_52_method_21_code (7 : Nat) (Option.some Jvm.ClassFile.FieldType.int))).before a0 Z = true := hw _ (List.mem_of_getElem? (i := 26) rfl)
theorem w27 {Z : State} {a0 : Array Value} (hw : ∀ d ∈ tables_1, d.before a0 Z = true) : ((Jvm.Cond.methodLink "java/lang/String" (47 : Nat) ({ cls := "java/lang/StringUTF16", name := "coderFromArrayLen", desc := "([BI)B" } : Jvm.MethodName))).before a0 Z = true := hw _ (List.mem_of_getElem? (i := 27) rfl)
theorem w28 {Z : State} {a0 : Array Value} (hw : ∀ d ∈ tables_1, d.before a0 Z = true) : ((Jvm.Cond.static ({ cls := "java/lang/StringUTF16", name := "coderFromArrayLen", desc := "([BI)B" } : Jvm.MethodName))).before a0 Z = true := hw _ (List.mem_of_getElem? (i := 28) rfl)
theorem w29 {Z : State} {a0 : Array Value} (hw : ∀ d ∈ tables_1, d.before a0 Z = true) : ((Jvm.Cond.code ({ cls := "java/lang/StringUTF16", name := "coderFromArrayLen", desc := "([BI)B" } : Jvm.MethodName) jdk_52_method_15_code (2 : Nat) (Option.some Jvm.ClassFile.FieldType.byte))).before a0 Z = true := hw _ (List.mem_of_getElem? (i := 29) rfl)
theorem w30 {Z : State} {a0 : Array Value} (hw : ∀ d ∈ tables_1, d.before a0 Z = true) : ((Jvm.Cond.fieldLink "java/lang/String" (15 : Nat) "java/lang/String" "coder" "B")).before a0 Z = true := hw _ (List.mem_of_getElem? (i := 30) rfl)
theorem w31 {Z : State} {a0 : Array Value} (hw : ∀ d ∈ tables_1, d.before a0 Z = true) : ((Jvm.Cond.laysFinal "java/lang/String" "java/lang/String" "coder" "B")).before a0 Z = true := hw _ (List.mem_of_getElem? (i := 31) rfl)
theorem w32 {Z : State} {a0 : Array Value} (hw : ∀ d ∈ tables_1, d.before a0 Z = true) : ((Jvm.Cond.fieldLink "java/lang/String" (9 : Nat) "java/lang/String" "value" "[B")).before a0 Z = true := hw _ (List.mem_of_getElem? (i := 32) rfl)
theorem w33 {Z : State} {a0 : Array Value} (hw : ∀ d ∈ tables_1, d.before a0 Z = true) : ((Jvm.Cond.laysFinal "java/lang/String" "java/lang/String" "value" "[B")).before a0 Z = true := hw _ (List.mem_of_getElem? (i := 33) rfl)
theorem w34 {Z : State} {a0 : Array Value} (hw : ∀ d ∈ tables_1, d.before a0 Z = true) : ((Jvm.Cond.methodLink "copperpot/web/HtmlTemplateEscapePinLaw" (18 : Nat) ({ cls := "copperpot/web/HtmlTemplate", name := "escape", desc := "(Ljava/lang/String;)Ljava/lang/String;" } : Jvm.MethodName))).before a0 Z = true := hw _ (List.mem_of_getElem? (i := 34) rfl)
theorem w35 {Z : State} {a0 : Array Value} (hw : ∀ d ∈ tables_1, d.before a0 Z = true) : ((Jvm.Cond.static ({ cls := "copperpot/web/HtmlTemplate", name := "escape", desc := "(Ljava/lang/String;)Ljava/lang/String;" } : Jvm.MethodName))).before a0 Z = true := hw _ (List.mem_of_getElem? (i := 35) rfl)
theorem w36 {Z : State} {a0 : Array Value} (hw : ∀ d ∈ tables_1, d.before a0 Z = true) : ((Jvm.Cond.initialized "copperpot/web/HtmlTemplate")).before a0 Z = true := hw _ (List.mem_of_getElem? (i := 36) rfl)
theorem w37 {Z : State} {a0 : Array Value} (hw : ∀ d ∈ tables_1, d.before a0 Z = true) : ((Jvm.Cond.code ({ cls := "copperpot/web/HtmlTemplate", name := "escape", desc := "(Ljava/lang/String;)Ljava/lang/String;" } : Jvm.MethodName) prog_26_method_4_code (4 : Nat) (Option.some (Jvm.ClassFile.FieldType.object "java/lang/String")))).before a0 Z = true := hw _ (List.mem_of_getElem? (i := 37) rfl)
theorem w38 {Z : State} {a0 : Array Value} (hw : ∀ d ∈ tables_1, d.before a0 Z = true) : ((Jvm.Cond.classLink "copperpot/web/HtmlTemplate" (56 : Nat) "java/lang/StringBuilder")).before a0 Z = true := hw _ (List.mem_of_getElem? (i := 38) rfl)
theorem w39 {Z : State} {a0 : Array Value} (hw : ∀ d ∈ tables_1, d.before a0 Z = true) : ((Jvm.Cond.instantiable "java/lang/StringBuilder" (4 : Nat))).before a0 Z = true := hw _ (List.mem_of_getElem? (i := 39) rfl)
theorem w40 {Z : State} {a0 : Array Value} (hw : ∀ d ∈ tables_1, d.before a0 Z = true) : ((Jvm.Cond.initialized "java/lang/StringBuilder")).before a0 Z = true := hw _ (List.mem_of_getElem? (i := 40) rfl)
theorem w41 {Z : State} {a0 : Array Value} (hw : ∀ d ∈ tables_1, d.before a0 Z = true) : ((Jvm.Cond.methodLink "copperpot/web/HtmlTemplate" (58 : Nat) ({ cls := "java/lang/String", name := "length", desc := "()I" } : Jvm.MethodName))).before a0 Z = true := hw _ (List.mem_of_getElem? (i := 41) rfl)
theorem w42 {Z : State} {a0 : Array Value} (hw : ∀ d ∈ tables_1, d.before a0 Z = true) : ((Jvm.Cond.declares ({ cls := "java/lang/String", name := "length", desc := "()I" } : Jvm.MethodName))).before a0 Z = true := hw _ (List.mem_of_getElem? (i := 42) rfl)
theorem w43 {Z : State} {a0 : Array Value} (hw : ∀ d ∈ tables_1, d.before a0 Z = true) : ((Jvm.Cond.instanceMethod ({ cls := "java/lang/String", name := "length", desc := "()I" } : Jvm.MethodName))).before a0 Z = true := hw _ (List.mem_of_getElem? (i := 43) rfl)
theorem w44 {Z : State} {a0 : Array Value} (hw : ∀ d ∈ tables_1, d.before a0 Z = true) : ((Jvm.Cond.selects "java/lang/String" ({ cls := "java/lang/String", name := "length", desc := "()I" } : Jvm.MethodName) ({ cls := "java/lang/String", name := "length", desc := "()I" } : Jvm.MethodName))).before a0 Z = true := hw _ (List.mem_of_getElem? (i := 44) rfl)
theorem w45 {Z : State} {a0 : Array Value} (hw : ∀ d ∈ tables_1, d.before a0 Z = true) : ((Jvm.Cond.code ({ cls := "java/lang/String", name := "length", desc := "()I" } : Jvm.MethodName) jdk_42_method_54_code (1 : Nat) (Option.some Jvm.ClassFile.FieldType.int))).before a0 Z = true := hw _ (List.mem_of_getElem? (i := 45) rfl)
theorem w46 {Z : State} {a0 : Array Value} (hw : ∀ d ∈ tables_1, d.before a0 Z = true) : ((Jvm.Cond.methodLink "java/lang/String" (335 : Nat) ({ cls := "java/lang/String", name := "coder", desc := "()B" } : Jvm.MethodName))).before a0 Z = true := hw _ (List.mem_of_getElem? (i := 46) rfl)
theorem w47 {Z : State} {a0 : Array Value} (hw : ∀ d ∈ tables_1, d.before a0 Z = true) : ((Jvm.Cond.declares ({ cls := "java/lang/String", name := "coder", desc := "()B" } : Jvm.MethodName))).before a0 Z = true := hw _ (List.mem_of_getElem? (i := 47) rfl)
theorem w48 {Z : State} {a0 : Array Value} (hw : ∀ d ∈ tables_1, d.before a0 Z = true) : ((Jvm.Cond.instanceMethod ({ cls := "java/lang/String", name := "coder", desc := "()B" } : Jvm.MethodName))).before a0 Z = true := hw _ (List.mem_of_getElem? (i := 48) rfl)
theorem w49 {Z : State} {a0 : Array Value} (hw : ∀ d ∈ tables_1, d.before a0 Z = true) : ((Jvm.Cond.selects "java/lang/String" ({ cls := "java/lang/String", name := "coder", desc := "()B" } : Jvm.MethodName) ({ cls := "java/lang/String", name := "coder", desc := "()B" } : Jvm.MethodName))).before a0 Z = true := hw _ (List.mem_of_getElem? (i := 49) rfl)
theorem w50 {Z : State} {a0 : Array Value} (hw : ∀ d ∈ tables_1, d.before a0 Z = true) : ((Jvm.Cond.code ({ cls := "java/lang/String", name := "coder", desc := "()B" } : Jvm.MethodName) jdk_42_method_152_code (1 : Nat) (Option.some Jvm.ClassFile.FieldType.byte))).before a0 Z = true := hw _ (List.mem_of_getElem? (i := 50) rfl)
theorem w51 {Z : State} {a0 : Array Value} (hw : ∀ d ∈ tables_1, d.before a0 Z = true) : ((Jvm.Cond.methodLink "copperpot/web/HtmlTemplate" (62 : Nat) ({ cls := "java/lang/StringBuilder", name := "<init>", desc := "(I)V" } : Jvm.MethodName))).before a0 Z = true := hw _ (List.mem_of_getElem? (i := 51) rfl)
theorem w52 {Z : State} {a0 : Array Value} (hw : ∀ d ∈ tables_1, d.before a0 Z = true) : ((Jvm.Cond.instanceMethod ({ cls := "java/lang/StringBuilder", name := "<init>", desc := "(I)V" } : Jvm.MethodName))).before a0 Z = true := hw _ (List.mem_of_getElem? (i := 52) rfl)
theorem w53 {Z : State} {a0 : Array Value} (hw : ∀ d ∈ tables_1, d.before a0 Z = true) : ((Jvm.Cond.code ({ cls := "java/lang/StringBuilder", name := "<init>", desc := "(I)V" } : Jvm.MethodName) jdk_67_method_2_code (2 : Nat) (Option.none : Option Jvm.ClassFile.FieldType))).before a0 Z = true := hw _ (List.mem_of_getElem? (i := 53) rfl)
theorem w54 {Z : State} {a0 : Array Value} (hw : ∀ d ∈ tables_1, d.before a0 Z = true) : ((Jvm.Cond.methodLink "java/lang/StringBuilder" (1 : Nat) ({ cls := "java/lang/AbstractStringBuilder", name := "<init>", desc := "(I)V" } : Jvm.MethodName))).before a0 Z = true := hw _ (List.mem_of_getElem? (i := 54) rfl)
theorem w55 {Z : State} {a0 : Array Value} (hw : ∀ d ∈ tables_1, d.before a0 Z = true) : ((Jvm.Cond.instanceMethod ({ cls := "java/lang/AbstractStringBuilder", name := "<init>", desc := "(I)V" } : Jvm.MethodName))).before a0 Z = true := hw _ (List.mem_of_getElem? (i := 55) rfl)
theorem w58 {Z : State} {a0 : Array Value} (hw : ∀ d ∈ tables_1, d.before a0 Z = true) : ((Jvm.Cond.initialized "java/lang/AbstractStringBuilder")).before a0 Z = true := hw _ (List.mem_of_getElem? (i := 58) rfl)
theorem w59 {Z : State} {a0 : Array Value} (hw : ∀ d ∈ tables_1, d.before a0 Z = true) : ((Jvm.Cond.code ({ cls := "java/lang/AbstractStringBuilder", name := "<init>", desc := "(I)V" } : Jvm.MethodName) jdk_68_method_2_code (2 : Nat) (Option.none : Option Jvm.ClassFile.FieldType))).before a0 Z = true := hw _ (List.mem_of_getElem? (i := 59) rfl)
theorem w60 {Z : State} {a0 : Array Value} (hw : ∀ d ∈ tables_1, d.before a0 Z = true) : ((Jvm.Cond.methodLink "java/lang/AbstractStringBuilder" (3 : Nat) ({ cls := "java/lang/Object", name := "<init>", desc := "()V" } : Jvm.MethodName))).before a0 Z = true := hw _ (List.mem_of_getElem? (i := 60) rfl)
theorem w61 {Z : State} {a0 : Array Value} (hw : ∀ d ∈ tables_1, d.before a0 Z = true) : ((Jvm.Cond.fieldLink "java/lang/AbstractStringBuilder" (18 : Nat) "java/lang/String" "COMPACT_STRINGS" "Z")).before a0 Z = true := hw _ (List.mem_of_getElem? (i := 61) rfl)
theorem w62 {Z : State} {a0 : Array Value} (hw : ∀ d ∈ tables_1, d.before a0 Z = true) : ((Jvm.Cond.fieldLink "java/lang/AbstractStringBuilder" (15 : Nat) "java/lang/AbstractStringBuilder" "value" "[B")).before a0 Z = true := hw _ (List.mem_of_getElem? (i := 62) rfl)
theorem w63 {Z : State} {a0 : Array Value} (hw : ∀ d ∈ tables_1, d.before a0 Z = true) : ((Jvm.Cond.lays "java/lang/StringBuilder" "java/lang/AbstractStringBuilder" "value" "[B")).before a0 Z = true := hw _ (List.mem_of_getElem? (i := 63) rfl)
theorem w64 {Z : State} {a0 : Array Value} (hw : ∀ d ∈ tables_1, d.before a0 Z = true) : ((Jvm.Cond.fieldLink "java/lang/AbstractStringBuilder" (22 : Nat) "java/lang/AbstractStringBuilder" "coder" "B")).before a0 Z = true := hw _ (List.mem_of_getElem? (i := 64) rfl)
theorem w65 {Z : State} {a0 : Array Value} (hw : ∀ d ∈ tables_1, d.before a0 Z = true) : ((Jvm.Cond.lays "java/lang/StringBuilder" "java/lang/AbstractStringBuilder" "coder" "B")).before a0 Z = true := hw _ (List.mem_of_getElem? (i := 65) rfl)
theorem w66 {Z : State} {a0 : Array Value} (hw : ∀ d ∈ tables_1, d.before a0 Z = true) : ((Jvm.Cond.methodLink "copperpot/web/HtmlTemplate" (65 : Nat) ({ cls := "java/lang/String", name := "charAt", desc := "(I)C" } : Jvm.MethodName))).before a0 Z = true := hw _ (List.mem_of_getElem? (i := 66) rfl)
theorem w67 {Z : State} {a0 : Array Value} (hw : ∀ d ∈ tables_1, d.before a0 Z = true) : ((Jvm.Cond.declares ({ cls := "java/lang/String", name := "charAt", desc := "(I)C" } : Jvm.MethodName))).before a0 Z = true := hw _ (List.mem_of_getElem? (i := 67) rfl)
theorem w68 {Z : State} {a0 : Array Value} (hw : ∀ d ∈ tables_1, d.before a0 Z = true) : ((Jvm.Cond.instanceMethod ({ cls := "java/lang/String", name := "charAt", desc := "(I)C" } : Jvm.MethodName))).before a0 Z = true := hw _ (List.mem_of_getElem? (i := 68) rfl)
theorem w69 {Z : State} {a0 : Array Value} (hw : ∀ d ∈ tables_1, d.before a0 Z = true) : ((Jvm.Cond.selects "java/lang/String" ({ cls := "java/lang/String", name := "charAt", desc := "(I)C" } : Jvm.MethodName) ({ cls := "java/lang/String", name := "charAt", desc := "(I)C" } : Jvm.MethodName))).before a0 Z = true := hw _ (List.mem_of_getElem? (i := 69) rfl)
theorem w70 {Z : State} {a0 : Array Value} (hw : ∀ d ∈ tables_1, d.before a0 Z = true) : ((Jvm.Cond.code ({ cls := "java/lang/String", name := "charAt", desc := "(I)C" } : Jvm.MethodName) jdk_42_method_56_code (2 : Nat) (Option.some Jvm.ClassFile.FieldType.char))).before a0 Z = true := hw _ (List.mem_of_getElem? (i := 70) rfl)
theorem w71 {Z : State} {a0 : Array Value} (hw : ∀ d ∈ tables_1, d.before a0 Z = true) : ((Jvm.Cond.methodLink "java/lang/String" (492 : Nat) ({ cls := "java/lang/String", name := "isLatin1", desc := "()Z" } : Jvm.MethodName))).before a0 Z = true := hw _ (List.mem_of_getElem? (i := 71) rfl)
theorem w72 {Z : State} {a0 : Array Value} (hw : ∀ d ∈ tables_1, d.before a0 Z = true) : ((Jvm.Cond.declares ({ cls := "java/lang/String", name := "isLatin1", desc := "()Z" } : Jvm.MethodName))).before a0 Z = true := hw _ (List.mem_of_getElem? (i := 72) rfl)
theorem w73 {Z : State} {a0 : Array Value} (hw : ∀ d ∈ tables_1, d.before a0 Z = true) : ((Jvm.Cond.instanceMethod ({ cls := "java/lang/String", name := "isLatin1", desc := "()Z" } : Jvm.MethodName))).before a0 Z = true := hw _ (List.mem_of_getElem? (i := 73) rfl)
theorem w74 {Z : State} {a0 : Array Value} (hw : ∀ d ∈ tables_1, d.before a0 Z = true) : ((Jvm.Cond.selects "java/lang/String" ({ cls := "java/lang/String", name := "isLatin1", desc := "()Z" } : Jvm.MethodName) ({ cls := "java/lang/String", name := "isLatin1", desc := "()Z" } : Jvm.MethodName))).before a0 Z = true := hw _ (List.mem_of_getElem? (i := 74) rfl)
theorem w75 {Z : State} {a0 : Array Value} (hw : ∀ d ∈ tables_1, d.before a0 Z = true) : ((Jvm.Cond.code ({ cls := "java/lang/String", name := "isLatin1", desc := "()Z" } : Jvm.MethodName) jdk_42_method_154_code (1 : Nat) (Option.some Jvm.ClassFile.FieldType.boolean))).before a0 Z = true := hw _ (List.mem_of_getElem? (i := 75) rfl)
theorem w76 {Z : State} {a0 : Array Value} (hw : ∀ d ∈ tables_1, d.before a0 Z = true) : ((Jvm.Cond.methodLink "java/lang/String" (495 : Nat) ({ cls := "java/lang/StringLatin1", name := "charAt", desc := "([BI)C" } : Jvm.MethodName))).before a0 Z = true := hw _ (List.mem_of_getElem? (i := 76) rfl)
theorem w77 {Z : State} {a0 : Array Value} (hw : ∀ d ∈ tables_1, d.before a0 Z = true) : ((Jvm.Cond.static ({ cls := "java/lang/StringLatin1", name := "charAt", desc := "([BI)C" } : Jvm.MethodName))).before a0 Z = true := hw _ (List.mem_of_getElem? (i := 77) rfl)
theorem w78 {Z : State} {a0 : Array Value} (hw : ∀ d ∈ tables_1, d.before a0 Z = true) : ((Jvm.Cond.initialized "java/lang/StringLatin1")).before a0 Z = true := hw _ (List.mem_of_getElem? (i := 78) rfl)
theorem w79 {Z : State} {a0 : Array Value} (hw : ∀ d ∈ tables_1, d.before a0 Z = true) : ((Jvm.Cond.code ({ cls := "java/lang/StringLatin1", name := "charAt", desc := "([BI)C" } : Jvm.MethodName) jdk_43_method_2_code (2 : Nat) (Option.some Jvm.ClassFile.FieldType.char))).before a0 Z = true := hw _ (List.mem_of_getElem? (i := 79) rfl)
theorem w80 {Z : State} {a0 : Array Value} (hw : ∀ d ∈ tables_1, d.before a0 Z = true) : ((Jvm.Cond.methodLink "java/lang/StringLatin1" (9 : Nat) ({ cls := "java/lang/String", name := "checkIndex", desc := "(II)V" } : Jvm.MethodName))).before a0 Z = true := hw _ (List.mem_of_getElem? (i := 80) rfl)
theorem w81 {Z : State} {a0 : Array Value} (hw : ∀ d ∈ tables_1, d.before a0 Z = true) : ((Jvm.Cond.static ({ cls := "java/lang/String", name := "checkIndex", desc := "(II)V" } : Jvm.MethodName))).before a0 Z = true := hw _ (List.mem_of_getElem? (i := 81) rfl)
theorem w82 {Z : State} {a0 : Array Value} (hw : ∀ d ∈ tables_1, d.before a0 Z = true) : ((Jvm.Cond.code ({ cls := "java/lang/String", name := "checkIndex", desc := "(II)V" } : Jvm.MethodName) jdk_42_method_155_code (2 : Nat) (Option.none : Option Jvm.ClassFile.FieldType))).before a0 Z = true := hw _ (List.mem_of_getElem? (i := 82) rfl)
theorem w83 {Z : State} {a0 : Array Value} (hw : ∀ d ∈ tables_1, d.before a0 Z = true) : ((Jvm.Cond.fieldLink "java/lang/String" (1053 : Nat) "jdk/internal/util/Preconditions" "SIOOBE_FORMATTER" "Ljava/util/function/BiFunction;")).before a0 Z = true := hw _ (List.mem_of_getElem? (i := 83) rfl)
theorem w84 {Z : State} {a0 : Array Value} (hw : ∀ d ∈ tables_1, d.before a0 Z = true) : ((Jvm.Cond.initialized "jdk/internal/util/Preconditions")).before a0 Z = true := hw _ (List.mem_of_getElem? (i := 84) rfl)
theorem w85 {Z : State} {a0 : Array Value} (hw : ∀ d ∈ tables_1, d.before a0 Z = true) : ((Jvm.Cond.methodLink "java/lang/String" (1059 : Nat) ({ cls := "jdk/internal/util/Preconditions", name := "checkIndex", desc := "(IILjava/util/function/BiFunction;)I" } : Jvm.MethodName))).before a0 Z = true := hw _ (List.mem_of_getElem? (i := 85) rfl)
theorem w86 {Z : State} {a0 : Array Value} (hw : ∀ d ∈ tables_1, d.before a0 Z = true) : ((Jvm.Cond.static ({ cls := "jdk/internal/util/Preconditions", name := "checkIndex", desc := "(IILjava/util/function/BiFunction;)I" } : Jvm.MethodName))).before a0 Z = true := hw _ (List.mem_of_getElem? (i := 86) rfl)
theorem w87 {Z : State} {a0 : Array Value} (hw : ∀ d ∈ tables_1, d.before a0 Z = true) : ((Jvm.Cond.code ({ cls := "jdk/internal/util/Preconditions", name := "checkIndex", desc := "(IILjava/util/function/BiFunction;)I" } : Jvm.MethodName) jdk_41_method_11_code (3 : Nat) (Option.some Jvm.ClassFile.FieldType.int))).before a0 Z = true := hw _ (List.mem_of_getElem? (i := 87) rfl)
theorem w88 {Z : State} {a0 : Array Value} (hw : ∀ d ∈ tables_1, d.before a0 Z = true) : ((Jvm.Cond.stringLink "copperpot/web/HtmlTemplate" (69 : Nat) "&amp;")).before a0 Z = true := hw _ (List.mem_of_getElem? (i := 88) rfl)
theorem w91 {Z : State} {a0 : Array Value} (hw : ∀ d ∈ tables_1, d.before a0 Z = true) : ((Jvm.Cond.methodLink "copperpot/web/HtmlTemplate" (71 : Nat) ({ cls := "java/lang/StringBuilder", name := "append", desc := "(Ljava/lang/String;)Ljava/lang/StringBuilder;" } : Jvm.MethodName))).before a0 Z = true := hw _ (List.mem_of_getElem? (i := 91) rfl)
theorem w92 {Z : State} {a0 : Array Value} (hw : ∀ d ∈ tables_1, d.before a0 Z = true) : ((Jvm.Cond.declares ({ cls := "java/lang/StringBuilder", name := "append", desc := "(Ljava/lang/String;)Ljava/lang/StringBuilder;" } : Jvm.MethodName))).before a0 Z = true := hw _ (List.mem_of_getElem? (i := 92) rfl)
theorem w93 {Z : State} {a0 : Array Value} (hw : ∀ d ∈ tables_1, d.before a0 Z = true) : ((Jvm.Cond.instanceMethod ({ cls := "java/lang/StringBuilder", name := "append", desc := "(Ljava/lang/String;)Ljava/lang/StringBuilder;" } : Jvm.MethodName))).before a0 Z = true := hw _ (List.mem_of_getElem? (i := 93) rfl)
theorem w94 {Z : State} {a0 : Array Value} (hw : ∀ d ∈ tables_1, d.before a0 Z = true) : ((Jvm.Cond.selects "java/lang/StringBuilder" ({ cls := "java/lang/StringBuilder", name := "append", desc := "(Ljava/lang/String;)Ljava/lang/StringBuilder;" } : Jvm.MethodName) ({ cls := "java/lang/StringBuilder", name := "append", desc := "(Ljava/lang/String;)Ljava/lang/StringBuilder;" } : Jvm.MethodName))).before a0 Z = true := hw _ (List.mem_of_getElem? (i := 94) rfl)
theorem w95 {Z : State} {a0 : Array Value} (hw : ∀ d ∈ tables_1, d.before a0 Z = true) : ((Jvm.Cond.code ({ cls := "java/lang/StringBuilder", name := "append", desc := "(Ljava/lang/String;)Ljava/lang/StringBuilder;" } : Jvm.MethodName) jdk_67_method_7_code (2 : Nat) (Option.some (Jvm.ClassFile.FieldType.object "java/lang/StringBuilder")))).before a0 Z = true := hw _ (List.mem_of_getElem? (i := 95) rfl)
theorem w96 {Z : State} {a0 : Array Value} (hw : ∀ d ∈ tables_1, d.before a0 Z = true) : ((Jvm.Cond.methodLink "java/lang/StringBuilder" (29 : Nat) ({ cls := "java/lang/AbstractStringBuilder", name := "append", desc := "(Ljava/lang/String;)Ljava/lang/AbstractStringBuilder;" } : Jvm.MethodName))).before a0 Z = true := hw _ (List.mem_of_getElem? (i := 96) rfl)
theorem w97 {Z : State} {a0 : Array Value} (hw : ∀ d ∈ tables_1, d.before a0 Z = true) : ((Jvm.Cond.instanceMethod ({ cls := "java/lang/AbstractStringBuilder", name := "append", desc := "(Ljava/lang/String;)Ljava/lang/AbstractStringBuilder;" } : Jvm.MethodName))).before a0 Z = true := hw _ (List.mem_of_getElem? (i := 97) rfl)
theorem w98 {Z : State} {a0 : Array Value} (hw : ∀ d ∈ tables_1, d.before a0 Z = true) : ((Jvm.Cond.superclass "java/lang/StringBuilder" "java/lang/AbstractStringBuilder")).before a0 Z = true := hw _ (List.mem_of_getElem? (i := 98) rfl)
theorem w100 {Z : State} {a0 : Array Value} (hw : ∀ d ∈ tables_1, d.before a0 Z = true) : ((Jvm.Cond.code ({ cls := "java/lang/AbstractStringBuilder", name := "append", desc := "(Ljava/lang/String;)Ljava/lang/AbstractStringBuilder;" } : Jvm.MethodName) jdk_68_method_22_code (3 : Nat) (Option.some (Jvm.ClassFile.FieldType.object "java/lang/AbstractStringBuilder")))).before a0 Z = true := hw _ (List.mem_of_getElem? (i := 100) rfl)
theorem w101 {Z : State} {a0 : Array Value} (hw : ∀ d ∈ tables_1, d.before a0 Z = true) : ((Jvm.Cond.methodLink "java/lang/AbstractStringBuilder" (32 : Nat) ({ cls := "java/lang/String", name := "length", desc := "()I" } : Jvm.MethodName))).before a0 Z = true := hw _ (List.mem_of_getElem? (i := 101) rfl)
theorem w102 {Z : State} {a0 : Array Value} (hw : ∀ d ∈ tables_1, d.before a0 Z = true) : ((Jvm.Cond.fieldLink "java/lang/AbstractStringBuilder" (79 : Nat) "java/lang/AbstractStringBuilder" "count" "I")).before a0 Z = true := hw _ (List.mem_of_getElem? (i := 102) rfl)
theorem w103 {Z : State} {a0 : Array Value} (hw : ∀ d ∈ tables_1, d.before a0 Z = true) : ((Jvm.Cond.lays "java/lang/StringBuilder" "java/lang/AbstractStringBuilder" "count" "I")).before a0 Z = true := hw _ (List.mem_of_getElem? (i := 103) rfl)
theorem w104 {Z : State} {a0 : Array Value} (hw : ∀ d ∈ tables_1, d.before a0 Z = true) : ((Jvm.Cond.methodLink "java/lang/AbstractStringBuilder" (100 : Nat) ({ cls := "java/lang/AbstractStringBuilder", name := "ensureCapacityInternal", desc := "(I)V" } : Jvm.MethodName))).before a0 Z = true := hw _ (List.mem_of_getElem? (i := 104) rfl)
theorem w105 {Z : State} {a0 : Array Value} (hw : ∀ d ∈ tables_1, d.before a0 Z = true) : ((Jvm.Cond.instanceMethod ({ cls := "java/lang/AbstractStringBuilder", name := "ensureCapacityInternal", desc := "(I)V" } : Jvm.MethodName))).before a0 Z = true := hw _ (List.mem_of_getElem? (i := 105) rfl)
theorem w107 {Z : State} {a0 : Array Value} (hw : ∀ d ∈ tables_1, d.before a0 Z = true) : ((Jvm.Cond.selects "java/lang/StringBuilder" ({ cls := "java/lang/AbstractStringBuilder", name := "ensureCapacityInternal", desc := "(I)V" } : Jvm.MethodName) ({ cls := "java/lang/AbstractStringBuilder", name := "ensureCapacityInternal", desc := "(I)V" } : Jvm.MethodName))).before a0 Z = true := hw _ (List.mem_of_getElem? (i := 107) rfl)
theorem w108 {Z : State} {a0 : Array Value} (hw : ∀ d ∈ tables_1, d.before a0 Z = true) : ((Jvm.Cond.code ({ cls := "java/lang/AbstractStringBuilder", name := "ensureCapacityInternal", desc := "(I)V" } : Jvm.MethodName) jdk_68_method_9_code (3 : Nat) (Option.none : Option Jvm.ClassFile.FieldType))).before a0 Z = true := hw _ (List.mem_of_getElem? (i := 108) rfl)
theorem w109 {Z : State} {a0 : Array Value} (hw : ∀ d ∈ tables_1, d.before a0 Z = true) : ((Jvm.Cond.methodLink "java/lang/AbstractStringBuilder" (104 : Nat) ({ cls := "java/lang/AbstractStringBuilder", name := "newCapacity", desc := "(I)I" } : Jvm.MethodName))).before a0 Z = true := hw _ (List.mem_of_getElem? (i := 109) rfl)
theorem w110 {Z : State} {a0 : Array Value} (hw : ∀ d ∈ tables_1, d.before a0 Z = true) : ((Jvm.Cond.instanceMethod ({ cls := "java/lang/AbstractStringBuilder", name := "newCapacity", desc := "(I)I" } : Jvm.MethodName))).before a0 Z = true := hw _ (List.mem_of_getElem? (i := 110) rfl)
theorem w112 {Z : State} {a0 : Array Value} (hw : ∀ d ∈ tables_1, d.before a0 Z = true) : ((Jvm.Cond.selects "java/lang/StringBuilder" ({ cls := "java/lang/AbstractStringBuilder", name := "newCapacity", desc := "(I)I" } : Jvm.MethodName) ({ cls := "java/lang/AbstractStringBuilder", name := "newCapacity", desc := "(I)I" } : Jvm.MethodName))).before a0 Z = true := hw _ (List.mem_of_getElem? (i := 112) rfl)
theorem w113 {Z : State} {a0 : Array Value} (hw : ∀ d ∈ tables_1, d.before a0 Z = true) : ((Jvm.Cond.code ({ cls := "java/lang/AbstractStringBuilder", name := "newCapacity", desc := "(I)I" } : Jvm.MethodName) jdk_68_method_10_code (6 : Nat) (Option.some Jvm.ClassFile.FieldType.int))).before a0 Z = true := hw _ (List.mem_of_getElem? (i := 113) rfl)
theorem w114 {Z : State} {a0 : Array Value} (hw : ∀ d ∈ tables_1, d.before a0 Z = true) : ((Jvm.Cond.methodLink "java/lang/AbstractStringBuilder" (114 : Nat) ({ cls := "jdk/internal/util/ArraysSupport", name := "newLength", desc := "(III)I" } : Jvm.MethodName))).before a0 Z = true := hw _ (List.mem_of_getElem? (i := 114) rfl)
theorem w115 {Z : State} {a0 : Array Value} (hw : ∀ d ∈ tables_1, d.before a0 Z = true) : ((Jvm.Cond.static ({ cls := "jdk/internal/util/ArraysSupport", name := "newLength", desc := "(III)I" } : Jvm.MethodName))).before a0 Z = true := hw _ (List.mem_of_getElem? (i := 115) rfl)
theorem w116 {Z : State} {a0 : Array Value} (hw : ∀ d ∈ tables_1, d.before a0 Z = true) : ((Jvm.Cond.initialized "jdk/internal/util/ArraysSupport")).before a0 Z = true := hw _ (List.mem_of_getElem? (i := 116) rfl)
theorem w117 {Z : State} {a0 : Array Value} (hw : ∀ d ∈ tables_1, d.before a0 Z = true) : ((Jvm.Cond.code ({ cls := "jdk/internal/util/ArraysSupport", name := "newLength", desc := "(III)I" } : Jvm.MethodName) jdk_48_method_27_code (4 : Nat) (Option.some Jvm.ClassFile.FieldType.int))).before a0 Z = true := hw _ (List.mem_of_getElem? (i := 117) rfl)
theorem w118 {Z : State} {a0 : Array Value} (hw : ∀ d ∈ tables_1, d.before a0 Z = true) : ((Jvm.Cond.methodLink "jdk/internal/util/ArraysSupport" (194 : Nat) ({ cls := "java/lang/Math", name := "max", desc := "(II)I" } : Jvm.MethodName))).before a0 Z = true := hw _ (List.mem_of_getElem? (i := 118) rfl)
theorem w119 {Z : State} {a0 : Array Value} (hw : ∀ d ∈ tables_1, d.before a0 Z = true) : ((Jvm.Cond.static ({ cls := "java/lang/Math", name := "max", desc := "(II)I" } : Jvm.MethodName))).before a0 Z = true := hw _ (List.mem_of_getElem? (i := 119) rfl)
theorem w120 {Z : State} {a0 : Array Value} (hw : ∀ d ∈ tables_1, d.before a0 Z = true) : ((Jvm.Cond.initialized "java/lang/Math")).before a0 Z = true := hw _ (List.mem_of_getElem? (i := 120) rfl)
theorem w121 {Z : State} {a0 : Array Value} (hw : ∀ d ∈ tables_1, d.before a0 Z = true) : ((Jvm.Cond.code ({ cls := "java/lang/Math", name := "max", desc := "(II)I" } : Jvm.MethodName) jdk_29_method_65_code (2 : Nat) (Option.some Jvm.ClassFile.FieldType.int))).before a0 Z = true := hw _ (List.mem_of_getElem? (i := 121) rfl)
theorem w122 {Z : State} {a0 : Array Value} (hw : ∀ d ∈ tables_1, d.before a0 Z = true) : ((Jvm.Cond.constant "jdk/internal/util/ArraysSupport" (200 : Nat) (2147483639 : Int32))).before a0 Z = true := hw _ (List.mem_of_getElem? (i := 122) rfl)
theorem w123 {Z : State} {a0 : Array Value} (hw : ∀ d ∈ tables_1, d.before a0 Z = true) : ((Jvm.Cond.constant "java/lang/AbstractStringBuilder" (39 : Nat) (2147483647 : Int32))).before a0 Z = true := hw _ (List.mem_of_getElem? (i := 123) rfl)
theorem w124 {Z : State} {a0 : Array Value} (hw : ∀ d ∈ tables_1, d.before a0 Z = true) : ((Jvm.Cond.methodLink "java/lang/AbstractStringBuilder" (108 : Nat) ({ cls := "java/util/Arrays", name := "copyOf", desc := "([BI)[B" } : Jvm.MethodName))).before a0 Z = true := hw _ (List.mem_of_getElem? (i := 124) rfl)
theorem w125 {Z : State} {a0 : Array Value} (hw : ∀ d ∈ tables_1, d.before a0 Z = true) : ((Jvm.Cond.static ({ cls := "java/util/Arrays", name := "copyOf", desc := "([BI)[B" } : Jvm.MethodName))).before a0 Z = true := hw _ (List.mem_of_getElem? (i := 125) rfl)
theorem w126 {Z : State} {a0 : Array Value} (hw : ∀ d ∈ tables_1, d.before a0 Z = true) : ((Jvm.Cond.initialized "java/util/Arrays")).before a0 Z = true := hw _ (List.mem_of_getElem? (i := 126) rfl)
theorem w127 {Z : State} {a0 : Array Value} (hw : ∀ d ∈ tables_1, d.before a0 Z = true) : ((Jvm.Cond.code ({ cls := "java/util/Arrays", name := "copyOf", desc := "([BI)[B" } : Jvm.MethodName) jdk_65_method_121_code (3 : Nat) (Option.some (Jvm.ClassFile.FieldType.array Jvm.ClassFile.FieldType.byte)))).before a0 Z = true := hw _ (List.mem_of_getElem? (i := 127) rfl)
theorem w128 {Z : State} {a0 : Array Value} (hw : ∀ d ∈ tables_1, d.before a0 Z = true) : ((Jvm.Cond.methodLink "java/util/Arrays" (304 : Nat) ({ cls := "java/lang/Math", name := "min", desc := "(II)I" } : Jvm.MethodName))).before a0 Z = true := hw _ (List.mem_of_getElem? (i := 128) rfl)
theorem w129 {Z : State} {a0 : Array Value} (hw : ∀ d ∈ tables_1, d.before a0 Z = true) : ((Jvm.Cond.static ({ cls := "java/lang/Math", name := "min", desc := "(II)I" } : Jvm.MethodName))).before a0 Z = true := hw _ (List.mem_of_getElem? (i := 129) rfl)
theorem w130 {Z : State} {a0 : Array Value} (hw : ∀ d ∈ tables_1, d.before a0 Z = true) : ((Jvm.Cond.code ({ cls := "java/lang/Math", name := "min", desc := "(II)I" } : Jvm.MethodName) jdk_29_method_69_code (2 : Nat) (Option.some Jvm.ClassFile.FieldType.int))).before a0 Z = true := hw _ (List.mem_of_getElem? (i := 130) rfl)
theorem w131 {Z : State} {a0 : Array Value} (hw : ∀ d ∈ tables_1, d.before a0 Z = true) : ((Jvm.Cond.methodLink "java/util/Arrays" (150 : Nat) ({ cls := "java/lang/System", name := "arraycopy", desc := "(Ljava/lang/Object;ILjava/lang/Object;II)V" } : Jvm.MethodName))).before a0 Z = true := hw _ (List.mem_of_getElem? (i := 131) rfl)
theorem w132 {Z : State} {a0 : Array Value} (hw : ∀ d ∈ tables_1, d.before a0 Z = true) : ((Jvm.Cond.static ({ cls := "java/lang/System", name := "arraycopy", desc := "(Ljava/lang/Object;ILjava/lang/Object;II)V" } : Jvm.MethodName))).before a0 Z = true := hw _ (List.mem_of_getElem? (i := 132) rfl)
theorem w133 {Z : State} {a0 : Array Value} (hw : ∀ d ∈ tables_1, d.before a0 Z = true) : ((Jvm.Cond.initialized "java/lang/System")).before a0 Z = true := hw _ (List.mem_of_getElem? (i := 133) rfl)
theorem w134 {Z : State} {a0 : Array Value} (hw : ∀ d ∈ tables_1, d.before a0 Z = true) : ((Jvm.Cond.native ({ cls := "java/lang/System", name := "arraycopy", desc := "(Ljava/lang/Object;ILjava/lang/Object;II)V" } : Jvm.MethodName))).before a0 Z = true := hw _ (List.mem_of_getElem? (i := 134) rfl)
theorem w135 {Z : State} {a0 : Array Value} (hw : ∀ d ∈ tables_1, d.before a0 Z = true) : ((Jvm.Cond.methodLink "java/lang/AbstractStringBuilder" (208 : Nat) ({ cls := "java/lang/AbstractStringBuilder", name := "putStringAt", desc := "(ILjava/lang/String;)V" } : Jvm.MethodName))).before a0 Z = true := hw _ (List.mem_of_getElem? (i := 135) rfl)
theorem w136 {Z : State} {a0 : Array Value} (hw : ∀ d ∈ tables_1, d.before a0 Z = true) : ((Jvm.Cond.instanceMethod ({ cls := "java/lang/AbstractStringBuilder", name := "putStringAt", desc := "(ILjava/lang/String;)V" } : Jvm.MethodName))).before a0 Z = true := hw _ (List.mem_of_getElem? (i := 136) rfl)
theorem w138 {Z : State} {a0 : Array Value} (hw : ∀ d ∈ tables_1, d.before a0 Z = true) : ((Jvm.Cond.selects "java/lang/StringBuilder" ({ cls := "java/lang/AbstractStringBuilder", name := "putStringAt", desc := "(ILjava/lang/String;)V" } : Jvm.MethodName) ({ cls := "java/lang/AbstractStringBuilder", name := "putStringAt", desc := "(ILjava/lang/String;)V" } : Jvm.MethodName))).before a0 Z = true := hw _ (List.mem_of_getElem? (i := 138) rfl)
theorem w139 {Z : State} {a0 : Array Value} (hw : ∀ d ∈ tables_1, d.before a0 Z = true) : ((Jvm.Cond.code ({ cls := "java/lang/AbstractStringBuilder", name := "putStringAt", desc := "(ILjava/lang/String;)V" } : Jvm.MethodName) jdk_68_method_73_code (3 : Nat) (Option.none : Option Jvm.ClassFile.FieldType))).before a0 Z = true := hw _ (List.mem_of_getElem? (i := 139) rfl)
theorem w140 {Z : State} {a0 : Array Value} (hw : ∀ d ∈ tables_1, d.before a0 Z = true) : ((Jvm.Cond.methodLink "java/lang/AbstractStringBuilder" (397 : Nat) ({ cls := "java/lang/AbstractStringBuilder", name := "inflateIfNeededFor", desc := "(Ljava/lang/String;)V" } : Jvm.MethodName))).before a0 Z = true := hw _ (List.mem_of_getElem? (i := 140) rfl)
theorem w141 {Z : State} {a0 : Array Value} (hw : ∀ d ∈ tables_1, d.before a0 Z = true) : ((Jvm.Cond.instanceMethod ({ cls := "java/lang/AbstractStringBuilder", name := "inflateIfNeededFor", desc := "(Ljava/lang/String;)V" } : Jvm.MethodName))).before a0 Z = true := hw _ (List.mem_of_getElem? (i := 141) rfl)
theorem w143 {Z : State} {a0 : Array Value} (hw : ∀ d ∈ tables_1, d.before a0 Z = true) : ((Jvm.Cond.selects "java/lang/StringBuilder" ({ cls := "java/lang/AbstractStringBuilder", name := "inflateIfNeededFor", desc := "(Ljava/lang/String;)V" } : Jvm.MethodName) ({ cls := "java/lang/AbstractStringBuilder", name := "inflateIfNeededFor", desc := "(Ljava/lang/String;)V" } : Jvm.MethodName))).before a0 Z = true := hw _ (List.mem_of_getElem? (i := 143) rfl)
theorem w144 {Z : State} {a0 : Array Value} (hw : ∀ d ∈ tables_1, d.before a0 Z = true) : ((Jvm.Cond.code ({ cls := "java/lang/AbstractStringBuilder", name := "inflateIfNeededFor", desc := "(Ljava/lang/String;)V" } : Jvm.MethodName) jdk_68_method_71_code (2 : Nat) (Option.none : Option Jvm.ClassFile.FieldType))).before a0 Z = true := hw _ (List.mem_of_getElem? (i := 144) rfl)
theorem w145 {Z : State} {a0 : Array Value} (hw : ∀ d ∈ tables_1, d.before a0 Z = true) : ((Jvm.Cond.methodLink "java/lang/AbstractStringBuilder" (40 : Nat) ({ cls := "java/lang/String", name := "coder", desc := "()B" } : Jvm.MethodName))).before a0 Z = true := hw _ (List.mem_of_getElem? (i := 145) rfl)
theorem w146 {Z : State} {a0 : Array Value} (hw : ∀ d ∈ tables_1, d.before a0 Z = true) : ((Jvm.Cond.methodLink "java/lang/AbstractStringBuilder" (399 : Nat) ({ cls := "java/lang/String", name := "getBytes", desc := "([BIB)V" } : Jvm.MethodName))).before a0 Z = true := hw _ (List.mem_of_getElem? (i := 146) rfl)
theorem w147 {Z : State} {a0 : Array Value} (hw : ∀ d ∈ tables_1, d.before a0 Z = true) : ((Jvm.Cond.declares ({ cls := "java/lang/String", name := "getBytes", desc := "([BIB)V" } : Jvm.MethodName))).before a0 Z = true := hw _ (List.mem_of_getElem? (i := 147) rfl)
theorem w148 {Z : State} {a0 : Array Value} (hw : ∀ d ∈ tables_1, d.before a0 Z = true) : ((Jvm.Cond.instanceMethod ({ cls := "java/lang/String", name := "getBytes", desc := "([BIB)V" } : Jvm.MethodName))).before a0 Z = true := hw _ (List.mem_of_getElem? (i := 148) rfl)
theorem w149 {Z : State} {a0 : Array Value} (hw : ∀ d ∈ tables_1, d.before a0 Z = true) : ((Jvm.Cond.selects "java/lang/String" ({ cls := "java/lang/String", name := "getBytes", desc := "([BIB)V" } : Jvm.MethodName) ({ cls := "java/lang/String", name := "getBytes", desc := "([BIB)V" } : Jvm.MethodName))).before a0 Z = true := hw _ (List.mem_of_getElem? (i := 149) rfl)
theorem w150 {Z : State} {a0 : Array Value} (hw : ∀ d ∈ tables_1, d.before a0 Z = true) : ((Jvm.Cond.code ({ cls := "java/lang/String", name := "getBytes", desc := "([BIB)V" } : Jvm.MethodName) jdk_42_method_147_code (4 : Nat) (Option.none : Option Jvm.ClassFile.FieldType))).before a0 Z = true := hw _ (List.mem_of_getElem? (i := 150) rfl)
theorem w151 {Z : State} {a0 : Array Value} (hw : ∀ d ∈ tables_1, d.before a0 Z = true) : ((Jvm.Cond.methodLink "java/lang/String" (212 : Nat) ({ cls := "java/lang/System", name := "arraycopy", desc := "(Ljava/lang/Object;ILjava/lang/Object;II)V" } : Jvm.MethodName))).before a0 Z = true := hw _ (List.mem_of_getElem? (i := 151) rfl)
theorem w152 {Z : State} {a0 : Array Value} (hw : ∀ d ∈ tables_1, d.before a0 Z = true) : ((Jvm.Cond.methodLink "copperpot/web/HtmlTemplate" (86 : Nat) ({ cls := "java/lang/StringBuilder", name := "toString", desc := "()Ljava/lang/String;" } : Jvm.MethodName))).before a0 Z = true := hw _ (List.mem_of_getElem? (i := 152) rfl)
theorem w153 {Z : State} {a0 : Array Value} (hw : ∀ d ∈ tables_1, d.before a0 Z = true) : ((Jvm.Cond.declares ({ cls := "java/lang/StringBuilder", name := "toString", desc := "()Ljava/lang/String;" } : Jvm.MethodName))).before a0 Z = true := hw _ (List.mem_of_getElem? (i := 153) rfl)
theorem w154 {Z : State} {a0 : Array Value} (hw : ∀ d ∈ tables_1, d.before a0 Z = true) : ((Jvm.Cond.instanceMethod ({ cls := "java/lang/StringBuilder", name := "toString", desc := "()Ljava/lang/String;" } : Jvm.MethodName))).before a0 Z = true := hw _ (List.mem_of_getElem? (i := 154) rfl)
theorem w155 {Z : State} {a0 : Array Value} (hw : ∀ d ∈ tables_1, d.before a0 Z = true) : ((Jvm.Cond.selects "java/lang/StringBuilder" ({ cls := "java/lang/StringBuilder", name := "toString", desc := "()Ljava/lang/String;" } : Jvm.MethodName) ({ cls := "java/lang/StringBuilder", name := "toString", desc := "()Ljava/lang/String;" } : Jvm.MethodName))).before a0 Z = true := hw _ (List.mem_of_getElem? (i := 155) rfl)
theorem w156 {Z : State} {a0 : Array Value} (hw : ∀ d ∈ tables_1, d.before a0 Z = true) : ((Jvm.Cond.code ({ cls := "java/lang/StringBuilder", name := "toString", desc := "()Ljava/lang/String;" } : Jvm.MethodName) jdk_67_method_42_code (1 : Nat) (Option.some (Jvm.ClassFile.FieldType.object "java/lang/String")))).before a0 Z = true := hw _ (List.mem_of_getElem? (i := 156) rfl)
theorem w157 {Z : State} {a0 : Array Value} (hw : ∀ d ∈ tables_1, d.before a0 Z = true) : ((Jvm.Cond.classLink "java/lang/StringBuilder" (18 : Nat) "java/lang/String")).before a0 Z = true := hw _ (List.mem_of_getElem? (i := 157) rfl)
theorem w158 {Z : State} {a0 : Array Value} (hw : ∀ d ∈ tables_1, d.before a0 Z = true) : ((Jvm.Cond.methodLink "java/lang/StringBuilder" (137 : Nat) ({ cls := "java/lang/String", name := "<init>", desc := "(Ljava/lang/StringBuilder;)V" } : Jvm.MethodName))).before a0 Z = true := hw _ (List.mem_of_getElem? (i := 158) rfl)
theorem w159 {Z : State} {a0 : Array Value} (hw : ∀ d ∈ tables_1, d.before a0 Z = true) : ((Jvm.Cond.instanceMethod ({ cls := "java/lang/String", name := "<init>", desc := "(Ljava/lang/StringBuilder;)V" } : Jvm.MethodName))).before a0 Z = true := hw _ (List.mem_of_getElem? (i := 159) rfl)
theorem w160 {Z : State} {a0 : Array Value} (hw : ∀ d ∈ tables_1, d.before a0 Z = true) : ((Jvm.Cond.code ({ cls := "java/lang/String", name := "<init>", desc := "(Ljava/lang/StringBuilder;)V" } : Jvm.MethodName) jdk_42_method_53_code (2 : Nat) (Option.none : Option Jvm.ClassFile.FieldType))).before a0 Z = true := hw _ (List.mem_of_getElem? (i := 160) rfl)
theorem w161 {Z : State} {a0 : Array Value} (hw : ∀ d ∈ tables_1, d.before a0 Z = true) : ((Jvm.Cond.methodLink "java/lang/String" (489 : Nat) ({ cls := "java/lang/String", name := "<init>", desc := "(Ljava/lang/AbstractStringBuilder;Ljava/lang/Void;)V" } : Jvm.MethodName))).before a0 Z = true := hw _ (List.mem_of_getElem? (i := 161) rfl)
theorem w162 {Z : State} {a0 : Array Value} (hw : ∀ d ∈ tables_1, d.before a0 Z = true) : ((Jvm.Cond.instanceMethod ({ cls := "java/lang/String", name := "<init>", desc := "(Ljava/lang/AbstractStringBuilder;Ljava/lang/Void;)V" } : Jvm.MethodName))).before a0 Z = true := hw _ (List.mem_of_getElem? (i := 162) rfl)
theorem w163 {Z : State} {a0 : Array Value} (hw : ∀ d ∈ tables_1, d.before a0 Z = true) : ((Jvm.Cond.code ({ cls := "java/lang/String", name := "<init>", desc := "(Ljava/lang/AbstractStringBuilder;Ljava/lang/Void;)V" } : Jvm.MethodName) jdk_42_method_150_code (5 : Nat) (Option.none : Option Jvm.ClassFile.FieldType))).before a0 Z = true := hw _ (List.mem_of_getElem? (i := 163) rfl)
theorem w164 {Z : State} {a0 : Array Value} (hw : ∀ d ∈ tables_1, d.before a0 Z = true) : ((Jvm.Cond.methodLink "java/lang/String" (552 : Nat) ({ cls := "java/lang/AbstractStringBuilder", name := "getValue", desc := "()[B" } : Jvm.MethodName))).before a0 Z = true := hw _ (List.mem_of_getElem? (i := 164) rfl)
theorem w165 {Z : State} {a0 : Array Value} (hw : ∀ d ∈ tables_1, d.before a0 Z = true) : ((Jvm.Cond.declares ({ cls := "java/lang/AbstractStringBuilder", name := "getValue", desc := "()[B" } : Jvm.MethodName))).before a0 Z = true := hw _ (List.mem_of_getElem? (i := 165) rfl)
theorem w166 {Z : State} {a0 : Array Value} (hw : ∀ d ∈ tables_1, d.before a0 Z = true) : ((Jvm.Cond.instanceMethod ({ cls := "java/lang/AbstractStringBuilder", name := "getValue", desc := "()[B" } : Jvm.MethodName))).before a0 Z = true := hw _ (List.mem_of_getElem? (i := 166) rfl)
theorem w167 {Z : State} {a0 : Array Value} (hw : ∀ d ∈ tables_1, d.before a0 Z = true) : ((Jvm.Cond.selects "java/lang/StringBuilder" ({ cls := "java/lang/AbstractStringBuilder", name := "getValue", desc := "()[B" } : Jvm.MethodName) ({ cls := "java/lang/AbstractStringBuilder", name := "getValue", desc := "()[B" } : Jvm.MethodName))).before a0 Z = true := hw _ (List.mem_of_getElem? (i := 167) rfl)
theorem w168 {Z : State} {a0 : Array Value} (hw : ∀ d ∈ tables_1, d.before a0 Z = true) : ((Jvm.Cond.code ({ cls := "java/lang/AbstractStringBuilder", name := "getValue", desc := "()[B" } : Jvm.MethodName) jdk_68_method_64_code (1 : Nat) (Option.some (Jvm.ClassFile.FieldType.array Jvm.ClassFile.FieldType.byte)))).before a0 Z = true := hw _ (List.mem_of_getElem? (i := 168) rfl)
theorem w169 {Z : State} {a0 : Array Value} (hw : ∀ d ∈ tables_1, d.before a0 Z = true) : ((Jvm.Cond.methodLink "java/lang/String" (549 : Nat) ({ cls := "java/lang/AbstractStringBuilder", name := "length", desc := "()I" } : Jvm.MethodName))).before a0 Z = true := hw _ (List.mem_of_getElem? (i := 169) rfl)
theorem w170 {Z : State} {a0 : Array Value} (hw : ∀ d ∈ tables_1, d.before a0 Z = true) : ((Jvm.Cond.declares ({ cls := "java/lang/AbstractStringBuilder", name := "length", desc := "()I" } : Jvm.MethodName))).before a0 Z = true := hw _ (List.mem_of_getElem? (i := 170) rfl)
theorem w171 {Z : State} {a0 : Array Value} (hw : ∀ d ∈ tables_1, d.before a0 Z = true) : ((Jvm.Cond.instanceMethod ({ cls := "java/lang/AbstractStringBuilder", name := "length", desc := "()I" } : Jvm.MethodName))).before a0 Z = true := hw _ (List.mem_of_getElem? (i := 171) rfl)
theorem w172 {Z : State} {a0 : Array Value} (hw : ∀ d ∈ tables_1, d.before a0 Z = true) : ((Jvm.Cond.selects "java/lang/StringBuilder" ({ cls := "java/lang/AbstractStringBuilder", name := "length", desc := "()I" } : Jvm.MethodName) ({ cls := "java/lang/StringBuilder", name := "length", desc := "()I" } : Jvm.MethodName))).before a0 Z = true := hw _ (List.mem_of_getElem? (i := 172) rfl)
theorem w173 {Z : State} {a0 : Array Value} (hw : ∀ d ∈ tables_1, d.before a0 Z = true) : ((Jvm.Cond.instanceMethod ({ cls := "java/lang/StringBuilder", name := "length", desc := "()I" } : Jvm.MethodName))).before a0 Z = true := hw _ (List.mem_of_getElem? (i := 173) rfl)
theorem w174 {Z : State} {a0 : Array Value} (hw : ∀ d ∈ tables_1, d.before a0 Z = true) : ((Jvm.Cond.code ({ cls := "java/lang/StringBuilder", name := "length", desc := "()I" } : Jvm.MethodName) jdk_67_method_93_code (1 : Nat) (Option.some Jvm.ClassFile.FieldType.int))).before a0 Z = true := hw _ (List.mem_of_getElem? (i := 174) rfl)
theorem w175 {Z : State} {a0 : Array Value} (hw : ∀ d ∈ tables_1, d.before a0 Z = true) : ((Jvm.Cond.methodLink "java/lang/StringBuilder" (343 : Nat) ({ cls := "java/lang/AbstractStringBuilder", name := "length", desc := "()I" } : Jvm.MethodName))).before a0 Z = true := hw _ (List.mem_of_getElem? (i := 175) rfl)
theorem w176 {Z : State} {a0 : Array Value} (hw : ∀ d ∈ tables_1, d.before a0 Z = true) : ((Jvm.Cond.code ({ cls := "java/lang/AbstractStringBuilder", name := "length", desc := "()I" } : Jvm.MethodName) jdk_68_method_6_code (1 : Nat) (Option.some Jvm.ClassFile.FieldType.int))).before a0 Z = true := hw _ (List.mem_of_getElem? (i := 176) rfl)
theorem w177 {Z : State} {a0 : Array Value} (hw : ∀ d ∈ tables_1, d.before a0 Z = true) : ((Jvm.Cond.methodLink "java/lang/String" (1047 : Nat) ({ cls := "java/lang/AbstractStringBuilder", name := "isLatin1", desc := "()Z" } : Jvm.MethodName))).before a0 Z = true := hw _ (List.mem_of_getElem? (i := 177) rfl)
theorem w178 {Z : State} {a0 : Array Value} (hw : ∀ d ∈ tables_1, d.before a0 Z = true) : ((Jvm.Cond.declares ({ cls := "java/lang/AbstractStringBuilder", name := "isLatin1", desc := "()Z" } : Jvm.MethodName))).before a0 Z = true := hw _ (List.mem_of_getElem? (i := 178) rfl)
theorem w179 {Z : State} {a0 : Array Value} (hw : ∀ d ∈ tables_1, d.before a0 Z = true) : ((Jvm.Cond.instanceMethod ({ cls := "java/lang/AbstractStringBuilder", name := "isLatin1", desc := "()Z" } : Jvm.MethodName))).before a0 Z = true := hw _ (List.mem_of_getElem? (i := 179) rfl)
theorem w180 {Z : State} {a0 : Array Value} (hw : ∀ d ∈ tables_1, d.before a0 Z = true) : ((Jvm.Cond.selects "java/lang/StringBuilder" ({ cls := "java/lang/AbstractStringBuilder", name := "isLatin1", desc := "()Z" } : Jvm.MethodName) ({ cls := "java/lang/AbstractStringBuilder", name := "isLatin1", desc := "()Z" } : Jvm.MethodName))).before a0 Z = true := hw _ (List.mem_of_getElem? (i := 180) rfl)
theorem w181 {Z : State} {a0 : Array Value} (hw : ∀ d ∈ tables_1, d.before a0 Z = true) : ((Jvm.Cond.code ({ cls := "java/lang/AbstractStringBuilder", name := "isLatin1", desc := "()Z" } : Jvm.MethodName) jdk_68_method_68_code (1 : Nat) (Option.some Jvm.ClassFile.FieldType.boolean))).before a0 Z = true := hw _ (List.mem_of_getElem? (i := 181) rfl)
theorem w182 {Z : State} {a0 : Array Value} (hw : ∀ d ∈ tables_1, d.before a0 Z = true) : ((Jvm.Cond.methodLink "java/lang/String" (54 : Nat) ({ cls := "java/util/Arrays", name := "copyOfRange", desc := "([BII)[B" } : Jvm.MethodName))).before a0 Z = true := hw _ (List.mem_of_getElem? (i := 182) rfl)
theorem w183 {Z : State} {a0 : Array Value} (hw : ∀ d ∈ tables_1, d.before a0 Z = true) : ((Jvm.Cond.static ({ cls := "java/util/Arrays", name := "copyOfRange", desc := "([BII)[B" } : Jvm.MethodName))).before a0 Z = true := hw _ (List.mem_of_getElem? (i := 183) rfl)
theorem w184 {Z : State} {a0 : Array Value} (hw : ∀ d ∈ tables_1, d.before a0 Z = true) : ((Jvm.Cond.code ({ cls := "java/util/Arrays", name := "copyOfRange", desc := "([BII)[B" } : Jvm.MethodName) jdk_65_method_132_code (3 : Nat) (Option.some (Jvm.ClassFile.FieldType.array Jvm.ClassFile.FieldType.byte)))).before a0 Z = true := hw _ (List.mem_of_getElem? (i := 184) rfl)
theorem w185 {Z : State} {a0 : Array Value} (hw : ∀ d ∈ tables_1, d.before a0 Z = true) : ((Jvm.Cond.methodLink "java/util/Arrays" (310 : Nat) ({ cls := "[B", name := "clone", desc := "()Ljava/lang/Object;" } : Jvm.MethodName))).before a0 Z = true := hw _ (List.mem_of_getElem? (i := 185) rfl)
theorem w186 {Z : State} {a0 : Array Value} (hw : ∀ d ∈ tables_1, d.before a0 Z = true) : ((Jvm.Cond.sameMethod "[B" "java/lang/Object" "clone" "()Ljava/lang/Object;")).before a0 Z = true := hw _ (List.mem_of_getElem? (i := 186) rfl)
theorem w188 {Z : State} {a0 : Array Value} (hw : ∀ d ∈ tables_1, d.before a0 Z = true) : ((Jvm.Cond.instanceMethod ({ cls := "java/lang/Object", name := "clone", desc := "()Ljava/lang/Object;" } : Jvm.MethodName))).before a0 Z = true := hw _ (List.mem_of_getElem? (i := 188) rfl)
theorem w189 {Z : State} {a0 : Array Value} (hw : ∀ d ∈ tables_1, d.before a0 Z = true) : ((Jvm.Cond.selects "[B" ({ cls := "[B", name := "clone", desc := "()Ljava/lang/Object;" } : Jvm.MethodName) ({ cls := "java/lang/Object", name := "clone", desc := "()Ljava/lang/Object;" } : Jvm.MethodName))).before a0 Z = true := hw _ (List.mem_of_getElem? (i := 189) rfl)
theorem w190 {Z : State} {a0 : Array Value} (hw : ∀ d ∈ tables_1, d.before a0 Z = true) : ((Jvm.Cond.native ({ cls := "java/lang/Object", name := "clone", desc := "()Ljava/lang/Object;" } : Jvm.MethodName))).before a0 Z = true := hw _ (List.mem_of_getElem? (i := 190) rfl)
theorem w191 {Z : State} {a0 : Array Value} (hw : ∀ d ∈ tables_1, d.before a0 Z = true) : ((Jvm.Cond.castable "[B" "java/lang/Cloneable")).before a0 Z = true := hw _ (List.mem_of_getElem? (i := 191) rfl)
theorem w192 {Z : State} {a0 : Array Value} (hw : ∀ d ∈ tables_1, d.before a0 Z = true) : ((Jvm.Cond.classLink "java/util/Arrays" (311 : Nat) "[B")).before a0 Z = true := hw _ (List.mem_of_getElem? (i := 192) rfl)
theorem w194 {Z : State} {a0 : Array Value} (hw : ∀ d ∈ tables_1, d.before a0 Z = true) : ((Jvm.Cond.methodLink "copperpot/web/HtmlTemplateEscapePinLaw" (24 : Nat) ({ cls := "copperpot/web/HtmlTemplateEscapePinLaw", name := "piece", desc := "(C)Ljava/lang/String;" } : Jvm.MethodName))).before a0 Z = true := hw _ (List.mem_of_getElem? (i := 194) rfl)
theorem w195 {Z : State} {a0 : Array Value} (hw : ∀ d ∈ tables_1, d.before a0 Z = true) : ((Jvm.Cond.static ({ cls := "copperpot/web/HtmlTemplateEscapePinLaw", name := "piece", desc := "(C)Ljava/lang/String;" } : Jvm.MethodName))).before a0 Z = true := hw _ (List.mem_of_getElem? (i := 195) rfl)
theorem w196 {Z : State} {a0 : Array Value} (hw : ∀ d ∈ tables_1, d.before a0 Z = true) : ((Jvm.Cond.code ({ cls := "copperpot/web/HtmlTemplateEscapePinLaw", name := "piece", desc := "(C)Ljava/lang/String;" } : Jvm.MethodName) method_4_code (1 : Nat) (Option.some (Jvm.ClassFile.FieldType.object "java/lang/String")))).before a0 Z = true := hw _ (List.mem_of_getElem? (i := 196) rfl)
theorem w197 {Z : State} {a0 : Array Value} (hw : ∀ d ∈ tables_1, d.before a0 Z = true) : ((Jvm.Cond.stringLink "copperpot/web/HtmlTemplateEscapePinLaw" (38 : Nat) "&amp;")).before a0 Z = true := hw _ (List.mem_of_getElem? (i := 197) rfl)
theorem w198 {Z : State} {a0 : Array Value} (hw : ∀ d ∈ tables_1, d.before a0 Z = true) : ((Jvm.Cond.stringLink "copperpot/web/HtmlTemplateEscapePinLaw" (28 : Nat) "")).before a0 Z = true := hw _ (List.mem_of_getElem? (i := 198) rfl)
theorem w199 {Z : State} {a0 : Array Value} (hw : ∀ d ∈ tables_1, d.before a0 Z = true) : ((Jvm.Cond.methodLink "copperpot/web/HtmlTemplateEscapePinLaw" (30 : Nat) ({ cls := "java/lang/String", name := "length", desc := "()I" } : Jvm.MethodName))).before a0 Z = true := hw _ (List.mem_of_getElem? (i := 199) rfl)
theorem w200 {Z : State} {a0 : Array Value} (hw : ∀ d ∈ tables_1, d.before a0 Z = true) : ((Jvm.Cond.methodLink "copperpot/web/HtmlTemplateEscapePinLaw" (34 : Nat) ({ cls := "copperpot/web/HtmlTemplateEscapePinLaw", name := "at", desc := "(Ljava/lang/String;ILjava/lang/String;)Z" } : Jvm.MethodName))).before a0 Z = true := hw _ (List.mem_of_getElem? (i := 200) rfl)
theorem w201 {Z : State} {a0 : Array Value} (hw : ∀ d ∈ tables_1, d.before a0 Z = true) : ((Jvm.Cond.static ({ cls := "copperpot/web/HtmlTemplateEscapePinLaw", name := "at", desc := "(Ljava/lang/String;ILjava/lang/String;)Z" } : Jvm.MethodName))).before a0 Z = true := hw _ (List.mem_of_getElem? (i := 201) rfl)
theorem w202 {Z : State} {a0 : Array Value} (hw : ∀ d ∈ tables_1, d.before a0 Z = true) : ((Jvm.Cond.code ({ cls := "copperpot/web/HtmlTemplateEscapePinLaw", name := "at", desc := "(Ljava/lang/String;ILjava/lang/String;)Z" } : Jvm.MethodName) method_5_code (3 : Nat) (Option.some Jvm.ClassFile.FieldType.boolean))).before a0 Z = true := hw _ (List.mem_of_getElem? (i := 202) rfl)
theorem w203 {Z : State} {a0 : Array Value} (hw : ∀ d ∈ tables_1, d.before a0 Z = true) : ((Jvm.Cond.methodLink "copperpot/web/HtmlTemplateEscapePinLaw" (51 : Nat) ({ cls := "java/lang/String", name := "charAt", desc := "(I)C" } : Jvm.MethodName))).before a0 Z = true := hw _ (List.mem_of_getElem? (i := 203) rfl)
theorem w204 {Z : State} {a0 : Array Value} (hw : ∀ d ∈ tables_1, d.before a0 Z = true) : ((Jvm.Cond.stringLink "copperpot/web/HtmlTemplate" (81 : Nat) "&#39;")).before a0 Z = true := hw _ (List.mem_of_getElem? (i := 204) rfl)
theorem w205 {Z : State} {a0 : Array Value} (hw : ∀ d ∈ tables_1, d.before a0 Z = true) : ((Jvm.Cond.stringLink "copperpot/web/HtmlTemplate" (79 : Nat) "&quot;")).before a0 Z = true := hw _ (List.mem_of_getElem? (i := 205) rfl)
theorem w206 {Z : State} {a0 : Array Value} (hw : ∀ d ∈ tables_1, d.before a0 Z = true) : ((Jvm.Cond.methodLink "java/util/Arrays" (339 : Nat) ({ cls := "java/util/Arrays", name := "copyOfRangeByte", desc := "([BII)[B" } : Jvm.MethodName))).before a0 Z = true := hw _ (List.mem_of_getElem? (i := 206) rfl)
theorem w207 {Z : State} {a0 : Array Value} (hw : ∀ d ∈ tables_1, d.before a0 Z = true) : ((Jvm.Cond.static ({ cls := "java/util/Arrays", name := "copyOfRangeByte", desc := "([BII)[B" } : Jvm.MethodName))).before a0 Z = true := hw _ (List.mem_of_getElem? (i := 207) rfl)
theorem w208 {Z : State} {a0 : Array Value} (hw : ∀ d ∈ tables_1, d.before a0 Z = true) : ((Jvm.Cond.code ({ cls := "java/util/Arrays", name := "copyOfRangeByte", desc := "([BII)[B" } : Jvm.MethodName) jdk_65_method_133_code (5 : Nat) (Option.some (Jvm.ClassFile.FieldType.array Jvm.ClassFile.FieldType.byte)))).before a0 Z = true := hw _ (List.mem_of_getElem? (i := 208) rfl)
theorem w209 {Z : State} {a0 : Array Value} (hw : ∀ d ∈ tables_1, d.before a0 Z = true) : ((Jvm.Cond.methodLink "java/util/Arrays" (343 : Nat) ({ cls := "java/util/Arrays", name := "checkLength", desc := "(II)V" } : Jvm.MethodName))).before a0 Z = true := hw _ (List.mem_of_getElem? (i := 209) rfl)
theorem w210 {Z : State} {a0 : Array Value} (hw : ∀ d ∈ tables_1, d.before a0 Z = true) : ((Jvm.Cond.static ({ cls := "java/util/Arrays", name := "checkLength", desc := "(II)V" } : Jvm.MethodName))).before a0 Z = true := hw _ (List.mem_of_getElem? (i := 210) rfl)
theorem w211 {Z : State} {a0 : Array Value} (hw : ∀ d ∈ tables_1, d.before a0 Z = true) : ((Jvm.Cond.code ({ cls := "java/util/Arrays", name := "checkLength", desc := "(II)V" } : Jvm.MethodName) jdk_65_method_131_code (2 : Nat) (Option.none : Option Jvm.ClassFile.FieldType))).before a0 Z = true := hw _ (List.mem_of_getElem? (i := 211) rfl)
theorem w212 {Z : State} {a0 : Array Value} (hw : ∀ d ∈ tables_1, d.before a0 Z = true) : ((Jvm.Cond.stringLink "copperpot/web/HtmlTemplateEscapePinLaw" (46 : Nat) "&#39;")).before a0 Z = true := hw _ (List.mem_of_getElem? (i := 212) rfl)
theorem w213 {Z : State} {a0 : Array Value} (hw : ∀ d ∈ tables_1, d.before a0 Z = true) : ((Jvm.Cond.stringLink "copperpot/web/HtmlTemplateEscapePinLaw" (44 : Nat) "&quot;")).before a0 Z = true := hw _ (List.mem_of_getElem? (i := 213) rfl)
theorem w214 {Z : State} {a0 : Array Value} (hw : ∀ d ∈ tables_1, d.before a0 Z = true) : ((Jvm.Cond.methodLink "copperpot/web/HtmlTemplate" (83 : Nat) ({ cls := "java/lang/StringBuilder", name := "append", desc := "(C)Ljava/lang/StringBuilder;" } : Jvm.MethodName))).before a0 Z = true := hw _ (List.mem_of_getElem? (i := 214) rfl)
theorem w215 {Z : State} {a0 : Array Value} (hw : ∀ d ∈ tables_1, d.before a0 Z = true) : ((Jvm.Cond.declares ({ cls := "java/lang/StringBuilder", name := "append", desc := "(C)Ljava/lang/StringBuilder;" } : Jvm.MethodName))).before a0 Z = true := hw _ (List.mem_of_getElem? (i := 215) rfl)
theorem w216 {Z : State} {a0 : Array Value} (hw : ∀ d ∈ tables_1, d.before a0 Z = true) : ((Jvm.Cond.instanceMethod ({ cls := "java/lang/StringBuilder", name := "append", desc := "(C)Ljava/lang/StringBuilder;" } : Jvm.MethodName))).before a0 Z = true := hw _ (List.mem_of_getElem? (i := 216) rfl)
theorem w217 {Z : State} {a0 : Array Value} (hw : ∀ d ∈ tables_1, d.before a0 Z = true) : ((Jvm.Cond.selects "java/lang/StringBuilder" ({ cls := "java/lang/StringBuilder", name := "append", desc := "(C)Ljava/lang/StringBuilder;" } : Jvm.MethodName) ({ cls := "java/lang/StringBuilder", name := "append", desc := "(C)Ljava/lang/StringBuilder;" } : Jvm.MethodName))).before a0 Z = true := hw _ (List.mem_of_getElem? (i := 217) rfl)
theorem w218 {Z : State} {a0 : Array Value} (hw : ∀ d ∈ tables_1, d.before a0 Z = true) : ((Jvm.Cond.code ({ cls := "java/lang/StringBuilder", name := "append", desc := "(C)Ljava/lang/StringBuilder;" } : Jvm.MethodName) jdk_67_method_14_code (2 : Nat) (Option.some (Jvm.ClassFile.FieldType.object "java/lang/StringBuilder")))).before a0 Z = true := hw _ (List.mem_of_getElem? (i := 218) rfl)
theorem w219 {Z : State} {a0 : Array Value} (hw : ∀ d ∈ tables_1, d.before a0 Z = true) : ((Jvm.Cond.methodLink "java/lang/StringBuilder" (50 : Nat) ({ cls := "java/lang/AbstractStringBuilder", name := "append", desc := "(C)Ljava/lang/AbstractStringBuilder;" } : Jvm.MethodName))).before a0 Z = true := hw _ (List.mem_of_getElem? (i := 219) rfl)
theorem w220 {Z : State} {a0 : Array Value} (hw : ∀ d ∈ tables_1, d.before a0 Z = true) : ((Jvm.Cond.instanceMethod ({ cls := "java/lang/AbstractStringBuilder", name := "append", desc := "(C)Ljava/lang/AbstractStringBuilder;" } : Jvm.MethodName))).before a0 Z = true := hw _ (List.mem_of_getElem? (i := 220) rfl)
theorem w222 {Z : State} {a0 : Array Value} (hw : ∀ d ∈ tables_1, d.before a0 Z = true) : ((Jvm.Cond.code ({ cls := "java/lang/AbstractStringBuilder", name := "append", desc := "(C)Ljava/lang/AbstractStringBuilder;" } : Jvm.MethodName) jdk_68_method_31_code (2 : Nat) (Option.some (Jvm.ClassFile.FieldType.object "java/lang/AbstractStringBuilder")))).before a0 Z = true := hw _ (List.mem_of_getElem? (i := 222) rfl)
theorem w223 {Z : State} {a0 : Array Value} (hw : ∀ d ∈ tables_1, d.before a0 Z = true) : ((Jvm.Cond.methodLink "java/lang/AbstractStringBuilder" (83 : Nat) ({ cls := "java/lang/AbstractStringBuilder", name := "isLatin1", desc := "()Z" } : Jvm.MethodName))).before a0 Z = true := hw _ (List.mem_of_getElem? (i := 223) rfl)
theorem w224 {Z : State} {a0 : Array Value} (hw : ∀ d ∈ tables_1, d.before a0 Z = true) : ((Jvm.Cond.methodLink "java/lang/AbstractStringBuilder" (191 : Nat) ({ cls := "java/lang/StringLatin1", name := "canEncode", desc := "(C)Z" } : Jvm.MethodName))).before a0 Z = true := hw _ (List.mem_of_getElem? (i := 224) rfl)
theorem w225 {Z : State} {a0 : Array Value} (hw : ∀ d ∈ tables_1, d.before a0 Z = true) : ((Jvm.Cond.static ({ cls := "java/lang/StringLatin1", name := "canEncode", desc := "(C)Z" } : Jvm.MethodName))).before a0 Z = true := hw _ (List.mem_of_getElem? (i := 225) rfl)
theorem w226 {Z : State} {a0 : Array Value} (hw : ∀ d ∈ tables_1, d.before a0 Z = true) : ((Jvm.Cond.code ({ cls := "java/lang/StringLatin1", name := "canEncode", desc := "(C)Z" } : Jvm.MethodName) jdk_43_method_3_code (1 : Nat) (Option.some Jvm.ClassFile.FieldType.boolean))).before a0 Z = true := hw _ (List.mem_of_getElem? (i := 226) rfl)
theorem w227 {Z : State} {a0 : Array Value} (hw : ∀ d ∈ tables_1, d.before a0 Z = true) : ((Jvm.Cond.methodLink "copperpot/web/HtmlTemplateEscapePinLaw" (48 : Nat) ({ cls := "java/lang/String", name := "valueOf", desc := "(C)Ljava/lang/String;" } : Jvm.MethodName))).before a0 Z = true := hw _ (List.mem_of_getElem? (i := 227) rfl)
theorem w228 {Z : State} {a0 : Array Value} (hw : ∀ d ∈ tables_1, d.before a0 Z = true) : ((Jvm.Cond.static ({ cls := "java/lang/String", name := "valueOf", desc := "(C)Ljava/lang/String;" } : Jvm.MethodName))).before a0 Z = true := hw _ (List.mem_of_getElem? (i := 228) rfl)
theorem w229 {Z : State} {a0 : Array Value} (hw : ∀ d ∈ tables_1, d.before a0 Z = true) : ((Jvm.Cond.code ({ cls := "java/lang/String", name := "valueOf", desc := "(C)Ljava/lang/String;" } : Jvm.MethodName) jdk_42_method_139_code (1 : Nat) (Option.some (Jvm.ClassFile.FieldType.object "java/lang/String")))).before a0 Z = true := hw _ (List.mem_of_getElem? (i := 229) rfl)
theorem w230 {Z : State} {a0 : Array Value} (hw : ∀ d ∈ tables_1, d.before a0 Z = true) : ((Jvm.Cond.methodLink "java/lang/String" (1015 : Nat) ({ cls := "java/lang/StringLatin1", name := "canEncode", desc := "(C)Z" } : Jvm.MethodName))).before a0 Z = true := hw _ (List.mem_of_getElem? (i := 230) rfl)
theorem w231 {Z : State} {a0 : Array Value} (hw : ∀ d ∈ tables_1, d.before a0 Z = true) : ((Jvm.Cond.classLink "java/lang/String" (10 : Nat) "java/lang/String")).before a0 Z = true := hw _ (List.mem_of_getElem? (i := 231) rfl)
theorem w232 {Z : State} {a0 : Array Value} (hw : ∀ d ∈ tables_1, d.before a0 Z = true) : ((Jvm.Cond.methodLink "java/lang/String" (1018 : Nat) ({ cls := "java/lang/StringLatin1", name := "toBytes", desc := "(C)[B" } : Jvm.MethodName))).before a0 Z = true := hw _ (List.mem_of_getElem? (i := 232) rfl)
theorem w233 {Z : State} {a0 : Array Value} (hw : ∀ d ∈ tables_1, d.before a0 Z = true) : ((Jvm.Cond.static ({ cls := "java/lang/StringLatin1", name := "toBytes", desc := "(C)[B" } : Jvm.MethodName))).before a0 Z = true := hw _ (List.mem_of_getElem? (i := 233) rfl)
theorem w234 {Z : State} {a0 : Array Value} (hw : ∀ d ∈ tables_1, d.before a0 Z = true) : ((Jvm.Cond.code ({ cls := "java/lang/StringLatin1", name := "toBytes", desc := "(C)[B" } : Jvm.MethodName) jdk_43_method_46_code (1 : Nat) (Option.some (Jvm.ClassFile.FieldType.array Jvm.ClassFile.FieldType.byte)))).before a0 Z = true := hw _ (List.mem_of_getElem? (i := 234) rfl)
theorem w235 {Z : State} {a0 : Array Value} (hw : ∀ d ∈ tables_1, d.before a0 Z = true) : ((Jvm.Cond.methodLink "java/lang/String" (209 : Nat) ({ cls := "java/lang/String", name := "<init>", desc := "([BB)V" } : Jvm.MethodName))).before a0 Z = true := hw _ (List.mem_of_getElem? (i := 235) rfl)
theorem w236 {Z : State} {a0 : Array Value} (hw : ∀ d ∈ tables_1, d.before a0 Z = true) : ((Jvm.Cond.instanceMethod ({ cls := "java/lang/String", name := "<init>", desc := "([BB)V" } : Jvm.MethodName))).before a0 Z = true := hw _ (List.mem_of_getElem? (i := 236) rfl)
theorem w237 {Z : State} {a0 : Array Value} (hw : ∀ d ∈ tables_1, d.before a0 Z = true) : ((Jvm.Cond.code ({ cls := "java/lang/String", name := "<init>", desc := "([BB)V" } : Jvm.MethodName) jdk_42_method_151_code (3 : Nat) (Option.none : Option Jvm.ClassFile.FieldType))).before a0 Z = true := hw _ (List.mem_of_getElem? (i := 237) rfl)
theorem w238 {Z : State} {a0 : Array Value} (hw : ∀ d ∈ tables_1, d.before a0 Z = true) : ((Jvm.Cond.stringLink "java/lang/String" (7 : Nat) "")).before a0 Z = true := hw _ (List.mem_of_getElem? (i := 238) rfl)
theorem w239 {Z : State} {a0 : Array Value} (hw : ∀ d ∈ tables_1, d.before a0 Z = true) : ((Jvm.Cond.stringLink "copperpot/web/HtmlTemplate" (75 : Nat) "&lt;")).before a0 Z = true := hw _ (List.mem_of_getElem? (i := 239) rfl)
theorem w240 {Z : State} {a0 : Array Value} (hw : ∀ d ∈ tables_1, d.before a0 Z = true) : ((Jvm.Cond.stringLink "copperpot/web/HtmlTemplateEscapePinLaw" (40 : Nat) "&lt;")).before a0 Z = true := hw _ (List.mem_of_getElem? (i := 240) rfl)
theorem w241 {Z : State} {a0 : Array Value} (hw : ∀ d ∈ tables_1, d.before a0 Z = true) : ((Jvm.Cond.methodLink "java/lang/StringUTF16" (119 : Nat) ({ cls := "java/lang/StringUTF16", name := "toBytes", desc := "([CII)[B" } : Jvm.MethodName))).before a0 Z = true := hw _ (List.mem_of_getElem? (i := 241) rfl)
theorem w242 {Z : State} {a0 : Array Value} (hw : ∀ d ∈ tables_1, d.before a0 Z = true) : ((Jvm.Cond.static ({ cls := "java/lang/StringUTF16", name := "toBytes", desc := "([CII)[B" } : Jvm.MethodName))).before a0 Z = true := hw _ (List.mem_of_getElem? (i := 242) rfl)
theorem w243 {Z : State} {a0 : Array Value} (hw : ∀ d ∈ tables_1, d.before a0 Z = true) : ((Jvm.Cond.code ({ cls := "java/lang/StringUTF16", name := "toBytes", desc := "([CII)[B" } : Jvm.MethodName) jdk_52_method_14_code (5 : Nat) (Option.some (Jvm.ClassFile.FieldType.array Jvm.ClassFile.FieldType.byte)))).before a0 Z = true := hw _ (List.mem_of_getElem? (i := 243) rfl)
theorem w244 {Z : State} {a0 : Array Value} (hw : ∀ d ∈ tables_1, d.before a0 Z = true) : ((Jvm.Cond.methodLink "java/lang/StringUTF16" (107 : Nat) ({ cls := "java/lang/StringUTF16", name := "newBytesFor", desc := "(I)[B" } : Jvm.MethodName))).before a0 Z = true := hw _ (List.mem_of_getElem? (i := 244) rfl)
theorem w245 {Z : State} {a0 : Array Value} (hw : ∀ d ∈ tables_1, d.before a0 Z = true) : ((Jvm.Cond.static ({ cls := "java/lang/StringUTF16", name := "newBytesFor", desc := "(I)[B" } : Jvm.MethodName))).before a0 Z = true := hw _ (List.mem_of_getElem? (i := 245) rfl)
theorem w246 {Z : State} {a0 : Array Value} (hw : ∀ d ∈ tables_1, d.before a0 Z = true) : ((Jvm.Cond.code ({ cls := "java/lang/StringUTF16", name := "newBytesFor", desc := "(I)[B" } : Jvm.MethodName) jdk_52_method_2_code (1 : Nat) (Option.some (Jvm.ClassFile.FieldType.array Jvm.ClassFile.FieldType.byte)))).before a0 Z = true := hw _ (List.mem_of_getElem? (i := 246) rfl)
theorem w247 {Z : State} {a0 : Array Value} (hw : ∀ d ∈ tables_1, d.before a0 Z = true) : ((Jvm.Cond.methodLink "java/lang/StringUTF16" (11 : Nat) ({ cls := "java/lang/StringUTF16", name := "newBytesLength", desc := "(I)I" } : Jvm.MethodName))).before a0 Z = true := hw _ (List.mem_of_getElem? (i := 247) rfl)
theorem w248 {Z : State} {a0 : Array Value} (hw : ∀ d ∈ tables_1, d.before a0 Z = true) : ((Jvm.Cond.static ({ cls := "java/lang/StringUTF16", name := "newBytesLength", desc := "(I)I" } : Jvm.MethodName))).before a0 Z = true := hw _ (List.mem_of_getElem? (i := 248) rfl)
theorem w249 {Z : State} {a0 : Array Value} (hw : ∀ d ∈ tables_1, d.before a0 Z = true) : ((Jvm.Cond.code ({ cls := "java/lang/StringUTF16", name := "newBytesLength", desc := "(I)I" } : Jvm.MethodName) jdk_52_method_3_code (1 : Nat) (Option.some Jvm.ClassFile.FieldType.int))).before a0 Z = true := hw _ (List.mem_of_getElem? (i := 249) rfl)
theorem w250 {Z : State} {a0 : Array Value} (hw : ∀ d ∈ tables_1, d.before a0 Z = true) : ((Jvm.Cond.constant "java/lang/StringUTF16" (20 : Nat) (1073741823 : Int32))).before a0 Z = true := hw _ (List.mem_of_getElem? (i := 250) rfl)
theorem w251 {Z : State} {a0 : Array Value} (hw : ∀ d ∈ tables_1, d.before a0 Z = true) : ((Jvm.Cond.methodLink "java/lang/StringUTF16" (111 : Nat) ({ cls := "java/lang/StringUTF16", name := "putChar", desc := "([BII)V" } : Jvm.MethodName))).before a0 Z = true := hw _ (List.mem_of_getElem? (i := 251) rfl)
theorem w252 {Z : State} {a0 : Array Value} (hw : ∀ d ∈ tables_1, d.before a0 Z = true) : ((Jvm.Cond.static ({ cls := "java/lang/StringUTF16", name := "putChar", desc := "([BII)V" } : Jvm.MethodName))).before a0 Z = true := hw _ (List.mem_of_getElem? (i := 252) rfl)
theorem w253 {Z : State} {a0 : Array Value} (hw : ∀ d ∈ tables_1, d.before a0 Z = true) : ((Jvm.Cond.code ({ cls := "java/lang/StringUTF16", name := "putChar", desc := "([BII)V" } : Jvm.MethodName) jdk_52_method_4_code (3 : Nat) (Option.none : Option Jvm.ClassFile.FieldType))).before a0 Z = true := hw _ (List.mem_of_getElem? (i := 253) rfl)
theorem w254 {Z : State} {a0 : Array Value} (hw : ∀ d ∈ tables_1, d.before a0 Z = true) : ((Jvm.Cond.fieldLink "java/lang/StringUTF16" (44 : Nat) "java/lang/StringUTF16" "$assertionsDisabled" "Z")).before a0 Z = true := hw _ (List.mem_of_getElem? (i := 254) rfl)
theorem w255 {Z : State} {a0 : Array Value} (hw : ∀ d ∈ tables_1, d.before a0 Z = true) : ((Jvm.Cond.fieldLink "java/lang/StringUTF16" (59 : Nat) "java/lang/StringUTF16" "HI_BYTE_SHIFT" "I")).before a0 Z = true := hw _ (List.mem_of_getElem? (i := 255) rfl)
theorem w256 {Z : State} {a0 : Array Value} (hw : ∀ d ∈ tables_1, d.before a0 Z = true) : ((Jvm.Cond.fieldLink "java/lang/StringUTF16" (63 : Nat) "java/lang/StringUTF16" "LO_BYTE_SHIFT" "I")).before a0 Z = true := hw _ (List.mem_of_getElem? (i := 256) rfl)
theorem w257 {Z : State} {a0 : Array Value} (hw : ∀ d ∈ tables_1, d.before a0 Z = true) : ((Jvm.Cond.methodLink "java/lang/StringUTF16" (71 : Nat) ({ cls := "java/lang/StringUTF16", name := "getChar", desc := "([BI)C" } : Jvm.MethodName))).before a0 Z = true := hw _ (List.mem_of_getElem? (i := 257) rfl)
theorem w258 {Z : State} {a0 : Array Value} (hw : ∀ d ∈ tables_1, d.before a0 Z = true) : ((Jvm.Cond.static ({ cls := "java/lang/StringUTF16", name := "getChar", desc := "([BI)C" } : Jvm.MethodName))).before a0 Z = true := hw _ (List.mem_of_getElem? (i := 258) rfl)
theorem w259 {Z : State} {a0 : Array Value} (hw : ∀ d ∈ tables_1, d.before a0 Z = true) : ((Jvm.Cond.code ({ cls := "java/lang/StringUTF16", name := "getChar", desc := "([BI)C" } : Jvm.MethodName) jdk_52_method_5_code (2 : Nat) (Option.some Jvm.ClassFile.FieldType.char))).before a0 Z = true := hw _ (List.mem_of_getElem? (i := 259) rfl)
theorem w260 {Z : State} {a0 : Array Value} (hw : ∀ d ∈ tables_1, d.before a0 Z = true) : ((Jvm.Cond.methodLink "java/lang/String" (498 : Nat) ({ cls := "java/lang/StringUTF16", name := "charAt", desc := "([BI)C" } : Jvm.MethodName))).before a0 Z = true := hw _ (List.mem_of_getElem? (i := 260) rfl)
theorem w261 {Z : State} {a0 : Array Value} (hw : ∀ d ∈ tables_1, d.before a0 Z = true) : ((Jvm.Cond.static ({ cls := "java/lang/StringUTF16", name := "charAt", desc := "([BI)C" } : Jvm.MethodName))).before a0 Z = true := hw _ (List.mem_of_getElem? (i := 261) rfl)
theorem w262 {Z : State} {a0 : Array Value} (hw : ∀ d ∈ tables_1, d.before a0 Z = true) : ((Jvm.Cond.code ({ cls := "java/lang/StringUTF16", name := "charAt", desc := "([BI)C" } : Jvm.MethodName) jdk_52_method_83_code (2 : Nat) (Option.some Jvm.ClassFile.FieldType.char))).before a0 Z = true := hw _ (List.mem_of_getElem? (i := 262) rfl)
theorem w263 {Z : State} {a0 : Array Value} (hw : ∀ d ∈ tables_1, d.before a0 Z = true) : ((Jvm.Cond.methodLink "java/lang/StringUTF16" (67 : Nat) ({ cls := "java/lang/StringUTF16", name := "checkIndex", desc := "(I[B)V" } : Jvm.MethodName))).before a0 Z = true := hw _ (List.mem_of_getElem? (i := 263) rfl)
theorem w264 {Z : State} {a0 : Array Value} (hw : ∀ d ∈ tables_1, d.before a0 Z = true) : ((Jvm.Cond.static ({ cls := "java/lang/StringUTF16", name := "checkIndex", desc := "(I[B)V" } : Jvm.MethodName))).before a0 Z = true := hw _ (List.mem_of_getElem? (i := 264) rfl)
theorem w265 {Z : State} {a0 : Array Value} (hw : ∀ d ∈ tables_1, d.before a0 Z = true) : ((Jvm.Cond.code ({ cls := "java/lang/StringUTF16", name := "checkIndex", desc := "(I[B)V" } : Jvm.MethodName) jdk_52_method_91_code (2 : Nat) (Option.none : Option Jvm.ClassFile.FieldType))).before a0 Z = true := hw _ (List.mem_of_getElem? (i := 265) rfl)
theorem w266 {Z : State} {a0 : Array Value} (hw : ∀ d ∈ tables_1, d.before a0 Z = true) : ((Jvm.Cond.methodLink "java/lang/StringUTF16" (48 : Nat) ({ cls := "java/lang/StringUTF16", name := "length", desc := "([B)I" } : Jvm.MethodName))).before a0 Z = true := hw _ (List.mem_of_getElem? (i := 266) rfl)
theorem w267 {Z : State} {a0 : Array Value} (hw : ∀ d ∈ tables_1, d.before a0 Z = true) : ((Jvm.Cond.static ({ cls := "java/lang/StringUTF16", name := "length", desc := "([B)I" } : Jvm.MethodName))).before a0 Z = true := hw _ (List.mem_of_getElem? (i := 267) rfl)
theorem w268 {Z : State} {a0 : Array Value} (hw : ∀ d ∈ tables_1, d.before a0 Z = true) : ((Jvm.Cond.code ({ cls := "java/lang/StringUTF16", name := "length", desc := "([B)I" } : Jvm.MethodName) jdk_52_method_6_code (1 : Nat) (Option.some Jvm.ClassFile.FieldType.int))).before a0 Z = true := hw _ (List.mem_of_getElem? (i := 268) rfl)
theorem w269 {Z : State} {a0 : Array Value} (hw : ∀ d ∈ tables_1, d.before a0 Z = true) : ((Jvm.Cond.methodLink "java/lang/StringUTF16" (414 : Nat) ({ cls := "java/lang/String", name := "checkIndex", desc := "(II)V" } : Jvm.MethodName))).before a0 Z = true := hw _ (List.mem_of_getElem? (i := 269) rfl)
theorem w270 {Z : State} {a0 : Array Value} (hw : ∀ d ∈ tables_1, d.before a0 Z = true) : ((Jvm.Cond.methodLink "java/lang/AbstractStringBuilder" (195 : Nat) ({ cls := "java/lang/AbstractStringBuilder", name := "inflate", desc := "()V" } : Jvm.MethodName))).before a0 Z = true := hw _ (List.mem_of_getElem? (i := 270) rfl)
theorem w271 {Z : State} {a0 : Array Value} (hw : ∀ d ∈ tables_1, d.before a0 Z = true) : ((Jvm.Cond.instanceMethod ({ cls := "java/lang/AbstractStringBuilder", name := "inflate", desc := "()V" } : Jvm.MethodName))).before a0 Z = true := hw _ (List.mem_of_getElem? (i := 271) rfl)
theorem w273 {Z : State} {a0 : Array Value} (hw : ∀ d ∈ tables_1, d.before a0 Z = true) : ((Jvm.Cond.selects "java/lang/StringBuilder" ({ cls := "java/lang/AbstractStringBuilder", name := "inflate", desc := "()V" } : Jvm.MethodName) ({ cls := "java/lang/AbstractStringBuilder", name := "inflate", desc := "()V" } : Jvm.MethodName))).before a0 Z = true := hw _ (List.mem_of_getElem? (i := 273) rfl)
theorem w274 {Z : State} {a0 : Array Value} (hw : ∀ d ∈ tables_1, d.before a0 Z = true) : ((Jvm.Cond.code ({ cls := "java/lang/AbstractStringBuilder", name := "inflate", desc := "()V" } : Jvm.MethodName) jdk_68_method_11_code (2 : Nat) (Option.none : Option Jvm.ClassFile.FieldType))).before a0 Z = true := hw _ (List.mem_of_getElem? (i := 274) rfl)
theorem w275 {Z : State} {a0 : Array Value} (hw : ∀ d ∈ tables_1, d.before a0 Z = true) : ((Jvm.Cond.methodLink "java/lang/AbstractStringBuilder" (26 : Nat) ({ cls := "java/lang/StringUTF16", name := "newBytesFor", desc := "(I)[B" } : Jvm.MethodName))).before a0 Z = true := hw _ (List.mem_of_getElem? (i := 275) rfl)
theorem w276 {Z : State} {a0 : Array Value} (hw : ∀ d ∈ tables_1, d.before a0 Z = true) : ((Jvm.Cond.methodLink "java/lang/AbstractStringBuilder" (125 : Nat) ({ cls := "java/lang/StringLatin1", name := "inflate", desc := "([BI[BII)V" } : Jvm.MethodName))).before a0 Z = true := hw _ (List.mem_of_getElem? (i := 276) rfl)
theorem w277 {Z : State} {a0 : Array Value} (hw : ∀ d ∈ tables_1, d.before a0 Z = true) : ((Jvm.Cond.static ({ cls := "java/lang/StringLatin1", name := "inflate", desc := "([BI[BII)V" } : Jvm.MethodName))).before a0 Z = true := hw _ (List.mem_of_getElem? (i := 277) rfl)
theorem w278 {Z : State} {a0 : Array Value} (hw : ∀ d ∈ tables_1, d.before a0 Z = true) : ((Jvm.Cond.code ({ cls := "java/lang/StringLatin1", name := "inflate", desc := "([BI[BII)V" } : Jvm.MethodName) jdk_43_method_50_code (5 : Nat) (Option.none : Option Jvm.ClassFile.FieldType))).before a0 Z = true := hw _ (List.mem_of_getElem? (i := 278) rfl)
theorem w279 {Z : State} {a0 : Array Value} (hw : ∀ d ∈ tables_1, d.before a0 Z = true) : ((Jvm.Cond.methodLink "java/lang/StringLatin1" (240 : Nat) ({ cls := "java/lang/StringUTF16", name := "inflate", desc := "([BI[BII)V" } : Jvm.MethodName))).before a0 Z = true := hw _ (List.mem_of_getElem? (i := 279) rfl)
theorem w280 {Z : State} {a0 : Array Value} (hw : ∀ d ∈ tables_1, d.before a0 Z = true) : ((Jvm.Cond.static ({ cls := "java/lang/StringUTF16", name := "inflate", desc := "([BI[BII)V" } : Jvm.MethodName))).before a0 Z = true := hw _ (List.mem_of_getElem? (i := 280) rfl)
theorem w281 {Z : State} {a0 : Array Value} (hw : ∀ d ∈ tables_1, d.before a0 Z = true) : ((Jvm.Cond.code ({ cls := "java/lang/StringUTF16", name := "inflate", desc := "([BI[BII)V" } : Jvm.MethodName) jdk_52_method_86_code (6 : Nat) (Option.none : Option Jvm.ClassFile.FieldType))).before a0 Z = true := hw _ (List.mem_of_getElem? (i := 281) rfl)
theorem w282 {Z : State} {a0 : Array Value} (hw : ∀ d ∈ tables_1, d.before a0 Z = true) : ((Jvm.Cond.methodLink "java/lang/StringUTF16" (173 : Nat) ({ cls := "java/lang/StringUTF16", name := "checkBoundsOffCount", desc := "(II[B)V" } : Jvm.MethodName))).before a0 Z = true := hw _ (List.mem_of_getElem? (i := 282) rfl)
theorem w283 {Z : State} {a0 : Array Value} (hw : ∀ d ∈ tables_1, d.before a0 Z = true) : ((Jvm.Cond.static ({ cls := "java/lang/StringUTF16", name := "checkBoundsOffCount", desc := "(II[B)V" } : Jvm.MethodName))).before a0 Z = true := hw _ (List.mem_of_getElem? (i := 283) rfl)
theorem w284 {Z : State} {a0 : Array Value} (hw : ∀ d ∈ tables_1, d.before a0 Z = true) : ((Jvm.Cond.code ({ cls := "java/lang/StringUTF16", name := "checkBoundsOffCount", desc := "(II[B)V" } : Jvm.MethodName) jdk_52_method_94_code (3 : Nat) (Option.none : Option Jvm.ClassFile.FieldType))).before a0 Z = true := hw _ (List.mem_of_getElem? (i := 284) rfl)
theorem w285 {Z : State} {a0 : Array Value} (hw : ∀ d ∈ tables_1, d.before a0 Z = true) : ((Jvm.Cond.methodLink "java/lang/StringUTF16" (419 : Nat) ({ cls := "java/lang/String", name := "checkBoundsOffCount", desc := "(III)I" } : Jvm.MethodName))).before a0 Z = true := hw _ (List.mem_of_getElem? (i := 285) rfl)
theorem w286 {Z : State} {a0 : Array Value} (hw : ∀ d ∈ tables_1, d.before a0 Z = true) : ((Jvm.Cond.static ({ cls := "java/lang/String", name := "checkBoundsOffCount", desc := "(III)I" } : Jvm.MethodName))).before a0 Z = true := hw _ (List.mem_of_getElem? (i := 286) rfl)
theorem w287 {Z : State} {a0 : Array Value} (hw : ∀ d ∈ tables_1, d.before a0 Z = true) : ((Jvm.Cond.code ({ cls := "java/lang/String", name := "checkBoundsOffCount", desc := "(III)I" } : Jvm.MethodName) jdk_42_method_157_code (3 : Nat) (Option.some Jvm.ClassFile.FieldType.int))).before a0 Z = true := hw _ (List.mem_of_getElem? (i := 287) rfl)
theorem w288 {Z : State} {a0 : Array Value} (hw : ∀ d ∈ tables_1, d.before a0 Z = true) : ((Jvm.Cond.methodLink "java/lang/String" (1065 : Nat) ({ cls := "jdk/internal/util/Preconditions", name := "checkFromIndexSize", desc := "(IIILjava/util/function/BiFunction;)I" } : Jvm.MethodName))).before a0 Z = true := hw _ (List.mem_of_getElem? (i := 288) rfl)
theorem w289 {Z : State} {a0 : Array Value} (hw : ∀ d ∈ tables_1, d.before a0 Z = true) : ((Jvm.Cond.static ({ cls := "jdk/internal/util/Preconditions", name := "checkFromIndexSize", desc := "(IIILjava/util/function/BiFunction;)I" } : Jvm.MethodName))).before a0 Z = true := hw _ (List.mem_of_getElem? (i := 289) rfl)
theorem w290 {Z : State} {a0 : Array Value} (hw : ∀ d ∈ tables_1, d.before a0 Z = true) : ((Jvm.Cond.code ({ cls := "jdk/internal/util/Preconditions", name := "checkFromIndexSize", desc := "(IIILjava/util/function/BiFunction;)I" } : Jvm.MethodName) jdk_41_method_13_code (4 : Nat) (Option.some Jvm.ClassFile.FieldType.int))).before a0 Z = true := hw _ (List.mem_of_getElem? (i := 290) rfl)
theorem w291 {Z : State} {a0 : Array Value} (hw : ∀ d ∈ tables_1, d.before a0 Z = true) : ((Jvm.Cond.methodLink "java/lang/AbstractStringBuilder" (197 : Nat) ({ cls := "java/lang/StringUTF16", name := "putCharSB", desc := "([BII)V" } : Jvm.MethodName))).before a0 Z = true := hw _ (List.mem_of_getElem? (i := 291) rfl)
theorem w292 {Z : State} {a0 : Array Value} (hw : ∀ d ∈ tables_1, d.before a0 Z = true) : ((Jvm.Cond.static ({ cls := "java/lang/StringUTF16", name := "putCharSB", desc := "([BII)V" } : Jvm.MethodName))).before a0 Z = true := hw _ (List.mem_of_getElem? (i := 292) rfl)
theorem w293 {Z : State} {a0 : Array Value} (hw : ∀ d ∈ tables_1, d.before a0 Z = true) : ((Jvm.Cond.code ({ cls := "java/lang/StringUTF16", name := "putCharSB", desc := "([BII)V" } : Jvm.MethodName) jdk_52_method_71_code (3 : Nat) (Option.none : Option Jvm.ClassFile.FieldType))).before a0 Z = true := hw _ (List.mem_of_getElem? (i := 293) rfl)
theorem w294 {Z : State} {a0 : Array Value} (hw : ∀ d ∈ tables_1, d.before a0 Z = true) : ((Jvm.Cond.fieldLink "java/lang/String" (1048 : Nat) "java/lang/AbstractStringBuilder" "maybeLatin1" "Z")).before a0 Z = true := hw _ (List.mem_of_getElem? (i := 294) rfl)
theorem w295 {Z : State} {a0 : Array Value} (hw : ∀ d ∈ tables_1, d.before a0 Z = true) : ((Jvm.Cond.lays "java/lang/StringBuilder" "java/lang/AbstractStringBuilder" "maybeLatin1" "Z")).before a0 Z = true := hw _ (List.mem_of_getElem? (i := 295) rfl)
theorem w296 {Z : State} {a0 : Array Value} (hw : ∀ d ∈ tables_1, d.before a0 Z = true) : ((Jvm.Cond.methodLink "java/lang/String" (1021 : Nat) ({ cls := "java/lang/StringUTF16", name := "toBytes", desc := "(C)[B" } : Jvm.MethodName))).before a0 Z = true := hw _ (List.mem_of_getElem? (i := 296) rfl)
theorem w297 {Z : State} {a0 : Array Value} (hw : ∀ d ∈ tables_1, d.before a0 Z = true) : ((Jvm.Cond.static ({ cls := "java/lang/StringUTF16", name := "toBytes", desc := "(C)[B" } : Jvm.MethodName))).before a0 Z = true := hw _ (List.mem_of_getElem? (i := 297) rfl)
theorem w298 {Z : State} {a0 : Array Value} (hw : ∀ d ∈ tables_1, d.before a0 Z = true) : ((Jvm.Cond.code ({ cls := "java/lang/StringUTF16", name := "toBytes", desc := "(C)[B" } : Jvm.MethodName) jdk_52_method_24_code (2 : Nat) (Option.some (Jvm.ClassFile.FieldType.array Jvm.ClassFile.FieldType.byte)))).before a0 Z = true := hw _ (List.mem_of_getElem? (i := 298) rfl)
theorem w299 {Z : State} {a0 : Array Value} (hw : ∀ d ∈ tables_1, d.before a0 Z = true) : ((Jvm.Cond.stringLink "copperpot/web/HtmlTemplate" (77 : Nat) "&gt;")).before a0 Z = true := hw _ (List.mem_of_getElem? (i := 299) rfl)
theorem w300 {Z : State} {a0 : Array Value} (hw : ∀ d ∈ tables_1, d.before a0 Z = true) : ((Jvm.Cond.stringLink "copperpot/web/HtmlTemplateEscapePinLaw" (42 : Nat) "&gt;")).before a0 Z = true := hw _ (List.mem_of_getElem? (i := 300) rfl)
theorem w301 {Z : State} {a0 : Array Value} (hw : ∀ d ∈ tables_1, d.before a0 Z = true) : ((Jvm.Cond.methodLink "java/lang/String" (106 : Nat) ({ cls := "java/lang/StringLatin1", name := "inflate", desc := "([BI[BII)V" } : Jvm.MethodName))).before a0 Z = true := hw _ (List.mem_of_getElem? (i := 301) rfl)
theorem d_jdk_68_method_2_0 : decode jdk_68_method_2_code 0 = .ok (.aload_n 0, 1) := by decide +kernel
theorem d_jdk_68_method_2_1 : decode jdk_68_method_2_code 1 = .ok (.invokespecial 3, 3) := by decide +kernel
theorem d_jdk_68_method_2_4 : decode jdk_68_method_2_code 4 = .ok (.getstatic 18, 3) := by decide +kernel
theorem d_jdk_68_method_2_7 : decode jdk_68_method_2_code 7 = .ok (.ifCond .eq 18, 3) := by decide +kernel
theorem d_jdk_68_method_2_10 : decode jdk_68_method_2_code 10 = .ok (.aload_n 0, 1) := by decide +kernel
theorem d_jdk_68_method_2_11 : decode jdk_68_method_2_code 11 = .ok (.iload_n 1, 1) := by decide +kernel
theorem d_jdk_68_method_2_12 : decode jdk_68_method_2_code 12 = .ok (.newarray .byte, 2) := by decide +kernel
theorem d_jdk_68_method_2_14 : decode jdk_68_method_2_code 14 = .ok (.putfield 15, 3) := by decide +kernel
theorem d_jdk_68_method_2_17 : decode jdk_68_method_2_code 17 = .ok (.aload_n 0, 1) := by decide +kernel
theorem d_jdk_68_method_2_18 : decode jdk_68_method_2_code 18 = .ok (.iconst 0, 1) := by decide +kernel
theorem d_jdk_68_method_2_19 : decode jdk_68_method_2_code 19 = .ok (.putfield 22, 3) := by decide +kernel
theorem d_jdk_68_method_2_22 : decode jdk_68_method_2_code 22 = .ok (.goto 16, 3) := by decide +kernel
theorem d_jdk_68_method_2_38 : decode jdk_68_method_2_code 38 = .ok (.return_, 1) := by decide +kernel
theorem d_jdk_67_method_2_0 : decode jdk_67_method_2_code 0 = .ok (.aload_n 0, 1) := by decide +kernel
theorem d_jdk_67_method_2_1 : decode jdk_67_method_2_code 1 = .ok (.iload_n 1, 1) := by decide +kernel
theorem d_jdk_67_method_2_2 : decode jdk_67_method_2_code 2 = .ok (.invokespecial 1, 3) := by decide +kernel
theorem d_jdk_67_method_2_5 : decode jdk_67_method_2_code 5 = .ok (.return_, 1) := by decide +kernel
theorem d_jdk_68_method_64_0 : decode jdk_68_method_64_code 0 = .ok (.aload_n 0, 1) := by decide +kernel
theorem d_jdk_68_method_64_1 : decode jdk_68_method_64_code 1 = .ok (.getfield 15, 3) := by decide +kernel
theorem d_jdk_68_method_64_4 : decode jdk_68_method_64_code 4 = .ok (.areturn, 1) := by decide +kernel
theorem d_jdk_68_method_6_0 : decode jdk_68_method_6_code 0 = .ok (.aload_n 0, 1) := by decide +kernel
theorem d_jdk_68_method_6_1 : decode jdk_68_method_6_code 1 = .ok (.getfield 79, 3) := by decide +kernel
theorem d_jdk_68_method_6_4 : decode jdk_68_method_6_code 4 = .ok (.ireturn, 1) := by decide +kernel
theorem d_jdk_67_method_93_0 : decode jdk_67_method_93_code 0 = .ok (.aload_n 0, 1) := by decide +kernel
theorem d_jdk_67_method_93_1 : decode jdk_67_method_93_code 1 = .ok (.invokespecial 343, 3) := by decide +kernel
theorem d_jdk_67_method_93_4 : decode jdk_67_method_93_code 4 = .ok (.ireturn, 1) := by decide +kernel
theorem d_jdk_68_method_68_0 : decode jdk_68_method_68_code 0 = .ok (.getstatic 18, 3) := by decide +kernel
theorem d_jdk_68_method_68_3 : decode jdk_68_method_68_code 3 = .ok (.ifCond .eq 14, 3) := by decide +kernel
theorem d_jdk_68_method_68_6 : decode jdk_68_method_68_code 6 = .ok (.aload_n 0, 1) := by decide +kernel
theorem d_jdk_68_method_68_7 : decode jdk_68_method_68_code 7 = .ok (.getfield 22, 3) := by decide +kernel
theorem d_jdk_68_method_68_10 : decode jdk_68_method_68_code 10 = .ok (.ifCond .ne 7, 3) := by decide +kernel
theorem d_jdk_68_method_68_13 : decode jdk_68_method_68_code 13 = .ok (.iconst 1, 1) := by decide +kernel
theorem d_jdk_68_method_68_14 : decode jdk_68_method_68_code 14 = .ok (.goto 4, 3) := by decide +kernel
theorem d_jdk_68_method_68_18 : decode jdk_68_method_68_code 18 = .ok (.ireturn, 1) := by decide +kernel
theorem d_jdk_68_method_68_17 : decode jdk_68_method_68_code 17 = .ok (.iconst 0, 1) := by decide +kernel
theorem d_jdk_29_method_65_0 : decode jdk_29_method_65_code 0 = .ok (.iload_n 0, 1) := by decide +kernel
theorem d_jdk_29_method_65_1 : decode jdk_29_method_65_code 1 = .ok (.iload_n 1, 1) := by decide +kernel
theorem d_jdk_29_method_65_2 : decode jdk_29_method_65_code 2 = .ok (.if_icmp .lt 7, 3) := by decide +kernel
theorem d_jdk_29_method_65_9 : decode jdk_29_method_65_code 9 = .ok (.iload_n 1, 1) := by decide +kernel
theorem d_jdk_29_method_65_10 : decode jdk_29_method_65_code 10 = .ok (.ireturn, 1) := by decide +kernel
theorem d_jdk_29_method_65_5 : decode jdk_29_method_65_code 5 = .ok (.iload_n 0, 1) := by decide +kernel
theorem d_jdk_29_method_65_6 : decode jdk_29_method_65_code 6 = .ok (.goto 4, 3) := by decide +kernel
theorem d_jdk_29_method_69_0 : decode jdk_29_method_69_code 0 = .ok (.iload_n 0, 1) := by decide +kernel
theorem d_jdk_29_method_69_1 : decode jdk_29_method_69_code 1 = .ok (.iload_n 1, 1) := by decide +kernel
theorem d_jdk_29_method_69_2 : decode jdk_29_method_69_code 2 = .ok (.if_icmp .gt 7, 3) := by decide +kernel
theorem d_jdk_29_method_69_5 : decode jdk_29_method_69_code 5 = .ok (.iload_n 0, 1) := by decide +kernel
theorem d_jdk_29_method_69_6 : decode jdk_29_method_69_code 6 = .ok (.goto 4, 3) := by decide +kernel
theorem d_jdk_29_method_69_10 : decode jdk_29_method_69_code 10 = .ok (.ireturn, 1) := by decide +kernel
theorem d_jdk_48_method_27_0 : decode jdk_48_method_27_code 0 = .ok (.iload_n 0, 1) := by decide +kernel
theorem d_jdk_48_method_27_1 : decode jdk_48_method_27_code 1 = .ok (.iload_n 1, 1) := by decide +kernel
theorem d_jdk_48_method_27_2 : decode jdk_48_method_27_code 2 = .ok (.iload_n 2, 1) := by decide +kernel
theorem d_jdk_48_method_27_3 : decode jdk_48_method_27_code 3 = .ok (.invokestatic 194, 3) := by decide +kernel
theorem d_jdk_48_method_27_6 : decode jdk_48_method_27_code 6 = .ok (.iadd, 1) := by decide +kernel
theorem d_jdk_48_method_27_7 : decode jdk_48_method_27_code 7 = .ok (.istore_n 3, 1) := by decide +kernel
theorem d_jdk_48_method_27_8 : decode jdk_48_method_27_code 8 = .ok (.iconst 0, 1) := by decide +kernel
theorem d_jdk_48_method_27_9 : decode jdk_48_method_27_code 9 = .ok (.iload_n 3, 1) := by decide +kernel
theorem d_jdk_48_method_27_10 : decode jdk_48_method_27_code 10 = .ok (.if_icmp .ge 11, 3) := by decide +kernel
theorem d_jdk_48_method_27_13 : decode jdk_48_method_27_code 13 = .ok (.iload_n 3, 1) := by decide +kernel
theorem d_jdk_48_method_27_14 : decode jdk_48_method_27_code 14 = .ok (.ldc 200, 2) := by decide +kernel
theorem d_jdk_48_method_27_16 : decode jdk_48_method_27_code 16 = .ok (.if_icmp .gt 5, 3) := by decide +kernel
theorem d_jdk_48_method_27_19 : decode jdk_48_method_27_code 19 = .ok (.iload_n 3, 1) := by decide +kernel
theorem d_jdk_48_method_27_20 : decode jdk_48_method_27_code 20 = .ok (.ireturn, 1) := by decide +kernel
theorem d_jdk_68_method_10_0 : decode jdk_68_method_10_code 0 = .ok (.aload_n 0, 1) := by decide +kernel
theorem d_jdk_68_method_10_1 : decode jdk_68_method_10_code 1 = .ok (.getfield 15, 3) := by decide +kernel
theorem d_jdk_68_method_10_4 : decode jdk_68_method_10_code 4 = .ok (.arraylength, 1) := by decide +kernel
theorem d_jdk_68_method_10_5 : decode jdk_68_method_10_code 5 = .ok (.istore_n 2, 1) := by decide +kernel
theorem d_jdk_68_method_10_6 : decode jdk_68_method_10_code 6 = .ok (.iload_n 1, 1) := by decide +kernel
theorem d_jdk_68_method_10_7 : decode jdk_68_method_10_code 7 = .ok (.aload_n 0, 1) := by decide +kernel
theorem d_jdk_68_method_10_8 : decode jdk_68_method_10_code 8 = .ok (.getfield 22, 3) := by decide +kernel
theorem d_jdk_68_method_10_11 : decode jdk_68_method_10_code 11 = .ok (.ishl, 1) := by decide +kernel
theorem d_jdk_68_method_10_12 : decode jdk_68_method_10_code 12 = .ok (.istore_n 3, 1) := by decide +kernel
theorem d_jdk_68_method_10_13 : decode jdk_68_method_10_code 13 = .ok (.iload_n 3, 1) := by decide +kernel
theorem d_jdk_68_method_10_14 : decode jdk_68_method_10_code 14 = .ok (.iload_n 2, 1) := by decide +kernel
theorem d_jdk_68_method_10_15 : decode jdk_68_method_10_code 15 = .ok (.isub, 1) := by decide +kernel
theorem d_jdk_68_method_10_16 : decode jdk_68_method_10_code 16 = .ok (.istore 4, 2) := by decide +kernel
theorem d_jdk_68_method_10_18 : decode jdk_68_method_10_code 18 = .ok (.iload_n 2, 1) := by decide +kernel
theorem d_jdk_68_method_10_19 : decode jdk_68_method_10_code 19 = .ok (.iload 4, 2) := by decide +kernel
theorem d_jdk_68_method_10_21 : decode jdk_68_method_10_code 21 = .ok (.iload_n 2, 1) := by decide +kernel
theorem d_jdk_68_method_10_22 : decode jdk_68_method_10_code 22 = .ok (.iconst 2, 1) := by decide +kernel
theorem d_jdk_68_method_10_23 : decode jdk_68_method_10_code 23 = .ok (.aload_n 0, 1) := by decide +kernel
theorem d_jdk_68_method_10_24 : decode jdk_68_method_10_code 24 = .ok (.getfield 22, 3) := by decide +kernel
theorem d_jdk_68_method_10_27 : decode jdk_68_method_10_code 27 = .ok (.ishl, 1) := by decide +kernel
theorem d_jdk_68_method_10_28 : decode jdk_68_method_10_code 28 = .ok (.iadd, 1) := by decide +kernel
theorem d_jdk_68_method_10_29 : decode jdk_68_method_10_code 29 = .ok (.invokestatic 114, 3) := by decide +kernel
theorem d_jdk_68_method_10_32 : decode jdk_68_method_10_code 32 = .ok (.istore 5, 2) := by decide +kernel
theorem d_jdk_68_method_10_34 : decode jdk_68_method_10_code 34 = .ok (.iload 5, 2) := by decide +kernel
theorem d_jdk_68_method_10_36 : decode jdk_68_method_10_code 36 = .ok (.ldc 39, 2) := by decide +kernel
theorem d_jdk_68_method_10_38 : decode jdk_68_method_10_code 38 = .ok (.if_icmp .ne 13, 3) := by decide +kernel
theorem d_jdk_68_method_10_51 : decode jdk_68_method_10_code 51 = .ok (.iload 5, 2) := by decide +kernel
theorem d_jdk_68_method_10_53 : decode jdk_68_method_10_code 53 = .ok (.aload_n 0, 1) := by decide +kernel
theorem d_jdk_68_method_10_54 : decode jdk_68_method_10_code 54 = .ok (.getfield 22, 3) := by decide +kernel
theorem d_jdk_68_method_10_57 : decode jdk_68_method_10_code 57 = .ok (.ishr, 1) := by decide +kernel
theorem d_jdk_68_method_10_58 : decode jdk_68_method_10_code 58 = .ok (.ireturn, 1) := by decide +kernel
theorem d_jdk_65_method_121_0 : decode jdk_65_method_121_code 0 = .ok (.iload_n 1, 1) := by decide +kernel
theorem d_jdk_65_method_121_1 : decode jdk_65_method_121_code 1 = .ok (.aload_n 0, 1) := by decide +kernel
theorem d_jdk_65_method_121_2 : decode jdk_65_method_121_code 2 = .ok (.arraylength, 1) := by decide +kernel
theorem d_jdk_65_method_121_3 : decode jdk_65_method_121_code 3 = .ok (.if_icmp .ne 11, 3) := by decide +kernel
theorem d_jdk_65_method_121_14 : decode jdk_65_method_121_code 14 = .ok (.iload_n 1, 1) := by decide +kernel
theorem d_jdk_65_method_121_15 : decode jdk_65_method_121_code 15 = .ok (.newarray .byte, 2) := by decide +kernel
theorem d_jdk_65_method_121_17 : decode jdk_65_method_121_code 17 = .ok (.astore_n 2, 1) := by decide +kernel
theorem d_jdk_65_method_121_18 : decode jdk_65_method_121_code 18 = .ok (.aload_n 0, 1) := by decide +kernel
theorem d_jdk_65_method_121_19 : decode jdk_65_method_121_code 19 = .ok (.iconst 0, 1) := by decide +kernel
theorem d_jdk_65_method_121_20 : decode jdk_65_method_121_code 20 = .ok (.aload_n 2, 1) := by decide +kernel
theorem d_jdk_65_method_121_21 : decode jdk_65_method_121_code 21 = .ok (.iconst 0, 1) := by decide +kernel
theorem d_jdk_65_method_121_22 : decode jdk_65_method_121_code 22 = .ok (.aload_n 0, 1) := by decide +kernel
theorem d_jdk_65_method_121_23 : decode jdk_65_method_121_code 23 = .ok (.arraylength, 1) := by decide +kernel
theorem d_jdk_65_method_121_24 : decode jdk_65_method_121_code 24 = .ok (.iload_n 1, 1) := by decide +kernel
theorem d_jdk_65_method_121_25 : decode jdk_65_method_121_code 25 = .ok (.invokestatic 304, 3) := by decide +kernel
theorem d_jdk_65_method_121_28 : decode jdk_65_method_121_code 28 = .ok (.invokestatic 150, 3) := by decide +kernel
theorem d_jdk_65_method_121_31 : decode jdk_65_method_121_code 31 = .ok (.aload_n 2, 1) := by decide +kernel
theorem d_jdk_65_method_121_32 : decode jdk_65_method_121_code 32 = .ok (.areturn, 1) := by decide +kernel
theorem d_jdk_68_method_9_0 : decode jdk_68_method_9_code 0 = .ok (.aload_n 0, 1) := by decide +kernel
theorem d_jdk_68_method_9_1 : decode jdk_68_method_9_code 1 = .ok (.getfield 15, 3) := by decide +kernel
theorem d_jdk_68_method_9_4 : decode jdk_68_method_9_code 4 = .ok (.arraylength, 1) := by decide +kernel
theorem d_jdk_68_method_9_5 : decode jdk_68_method_9_code 5 = .ok (.aload_n 0, 1) := by decide +kernel
theorem d_jdk_68_method_9_6 : decode jdk_68_method_9_code 6 = .ok (.getfield 22, 3) := by decide +kernel
theorem d_jdk_68_method_9_9 : decode jdk_68_method_9_code 9 = .ok (.ishr, 1) := by decide +kernel
theorem d_jdk_68_method_9_10 : decode jdk_68_method_9_code 10 = .ok (.istore_n 2, 1) := by decide +kernel
theorem d_jdk_68_method_9_11 : decode jdk_68_method_9_code 11 = .ok (.iload_n 1, 1) := by decide +kernel
theorem d_jdk_68_method_9_12 : decode jdk_68_method_9_code 12 = .ok (.iload_n 2, 1) := by decide +kernel
theorem d_jdk_68_method_9_13 : decode jdk_68_method_9_code 13 = .ok (.isub, 1) := by decide +kernel
theorem d_jdk_68_method_9_14 : decode jdk_68_method_9_code 14 = .ok (.ifCond .le 24, 3) := by decide +kernel
theorem d_jdk_68_method_9_17 : decode jdk_68_method_9_code 17 = .ok (.aload_n 0, 1) := by decide +kernel
theorem d_jdk_68_method_9_18 : decode jdk_68_method_9_code 18 = .ok (.aload_n 0, 1) := by decide +kernel
theorem d_jdk_68_method_9_19 : decode jdk_68_method_9_code 19 = .ok (.getfield 15, 3) := by decide +kernel
theorem d_jdk_68_method_9_22 : decode jdk_68_method_9_code 22 = .ok (.aload_n 0, 1) := by decide +kernel
theorem d_jdk_68_method_9_23 : decode jdk_68_method_9_code 23 = .ok (.iload_n 1, 1) := by decide +kernel
theorem d_jdk_68_method_9_24 : decode jdk_68_method_9_code 24 = .ok (.invokevirtual 104, 3) := by decide +kernel
theorem d_jdk_68_method_9_27 : decode jdk_68_method_9_code 27 = .ok (.aload_n 0, 1) := by decide +kernel
theorem d_jdk_68_method_9_28 : decode jdk_68_method_9_code 28 = .ok (.getfield 22, 3) := by decide +kernel
theorem d_jdk_68_method_9_31 : decode jdk_68_method_9_code 31 = .ok (.ishl, 1) := by decide +kernel
theorem d_jdk_68_method_9_32 : decode jdk_68_method_9_code 32 = .ok (.invokestatic 108, 3) := by decide +kernel
theorem d_jdk_68_method_9_35 : decode jdk_68_method_9_code 35 = .ok (.putfield 15, 3) := by decide +kernel
theorem d_jdk_68_method_9_38 : decode jdk_68_method_9_code 38 = .ok (.return_, 1) := by decide +kernel
theorem d_jdk_41_method_11_0 : decode jdk_41_method_11_code 0 = .ok (.iload_n 0, 1) := by decide +kernel
theorem d_jdk_41_method_11_1 : decode jdk_41_method_11_code 1 = .ok (.ifCond .lt 8, 3) := by decide +kernel
theorem d_jdk_41_method_11_4 : decode jdk_41_method_11_code 4 = .ok (.iload_n 0, 1) := by decide +kernel
theorem d_jdk_41_method_11_5 : decode jdk_41_method_11_code 5 = .ok (.iload_n 1, 1) := by decide +kernel
theorem d_jdk_41_method_11_6 : decode jdk_41_method_11_code 6 = .ok (.if_icmp .lt 10, 3) := by decide +kernel
theorem d_jdk_41_method_11_16 : decode jdk_41_method_11_code 16 = .ok (.iload_n 0, 1) := by decide +kernel
theorem d_jdk_41_method_11_17 : decode jdk_41_method_11_code 17 = .ok (.ireturn, 1) := by decide +kernel
theorem d_jdk_42_method_155_0 : decode jdk_42_method_155_code 0 = .ok (.iload_n 0, 1) := by decide +kernel
theorem d_jdk_42_method_155_1 : decode jdk_42_method_155_code 1 = .ok (.iload_n 1, 1) := by decide +kernel
theorem d_jdk_42_method_155_2 : decode jdk_42_method_155_code 2 = .ok (.getstatic 1053, 3) := by decide +kernel
theorem d_jdk_42_method_155_5 : decode jdk_42_method_155_code 5 = .ok (.invokestatic 1059, 3) := by decide +kernel
theorem d_jdk_42_method_155_8 : decode jdk_42_method_155_code 8 = .ok (.pop, 1) := by decide +kernel
theorem d_jdk_42_method_155_9 : decode jdk_42_method_155_code 9 = .ok (.return_, 1) := by decide +kernel
theorem d_jdk_52_method_6_0 : decode jdk_52_method_6_code 0 = .ok (.aload_n 0, 1) := by decide +kernel
theorem d_jdk_52_method_6_1 : decode jdk_52_method_6_code 1 = .ok (.arraylength, 1) := by decide +kernel
theorem d_jdk_52_method_6_2 : decode jdk_52_method_6_code 2 = .ok (.iconst 1, 1) := by decide +kernel
theorem d_jdk_52_method_6_3 : decode jdk_52_method_6_code 3 = .ok (.ishr, 1) := by decide +kernel
theorem d_jdk_52_method_6_4 : decode jdk_52_method_6_code 4 = .ok (.ireturn, 1) := by decide +kernel
theorem d_jdk_52_method_4_0 : decode jdk_52_method_4_code 0 = .ok (.getstatic 44, 3) := by decide +kernel
theorem d_jdk_52_method_4_3 : decode jdk_52_method_4_code 3 = .ok (.ifCond .ne 25, 3) := by decide +kernel
theorem d_jdk_52_method_4_28 : decode jdk_52_method_4_code 28 = .ok (.iload_n 1, 1) := by decide +kernel
theorem d_jdk_52_method_4_29 : decode jdk_52_method_4_code 29 = .ok (.iconst 1, 1) := by decide +kernel
theorem d_jdk_52_method_4_30 : decode jdk_52_method_4_code 30 = .ok (.ishl, 1) := by decide +kernel
theorem d_jdk_52_method_4_31 : decode jdk_52_method_4_code 31 = .ok (.istore_n 1, 1) := by decide +kernel
theorem d_jdk_52_method_4_32 : decode jdk_52_method_4_code 32 = .ok (.aload_n 0, 1) := by decide +kernel
theorem d_jdk_52_method_4_33 : decode jdk_52_method_4_code 33 = .ok (.iload_n 1, 1) := by decide +kernel
theorem d_jdk_52_method_4_34 : decode jdk_52_method_4_code 34 = .ok (.iinc 1 1, 3) := by decide +kernel
theorem d_jdk_52_method_4_37 : decode jdk_52_method_4_code 37 = .ok (.iload_n 2, 1) := by decide +kernel
theorem d_jdk_52_method_4_38 : decode jdk_52_method_4_code 38 = .ok (.getstatic 59, 3) := by decide +kernel
theorem d_jdk_52_method_4_41 : decode jdk_52_method_4_code 41 = .ok (.ishr, 1) := by decide +kernel
theorem d_jdk_52_method_4_42 : decode jdk_52_method_4_code 42 = .ok (.i2b, 1) := by decide +kernel
theorem d_jdk_52_method_4_43 : decode jdk_52_method_4_code 43 = .ok (.bastore, 1) := by decide +kernel
theorem d_jdk_52_method_4_44 : decode jdk_52_method_4_code 44 = .ok (.aload_n 0, 1) := by decide +kernel
theorem d_jdk_52_method_4_45 : decode jdk_52_method_4_code 45 = .ok (.iload_n 1, 1) := by decide +kernel
theorem d_jdk_52_method_4_46 : decode jdk_52_method_4_code 46 = .ok (.iload_n 2, 1) := by decide +kernel
theorem d_jdk_52_method_4_47 : decode jdk_52_method_4_code 47 = .ok (.getstatic 63, 3) := by decide +kernel
theorem d_jdk_52_method_4_50 : decode jdk_52_method_4_code 50 = .ok (.ishr, 1) := by decide +kernel
theorem d_jdk_52_method_4_51 : decode jdk_52_method_4_code 51 = .ok (.i2b, 1) := by decide +kernel
theorem d_jdk_52_method_4_52 : decode jdk_52_method_4_code 52 = .ok (.bastore, 1) := by decide +kernel
theorem d_jdk_52_method_4_53 : decode jdk_52_method_4_code 53 = .ok (.return_, 1) := by decide +kernel
theorem d_jdk_52_method_3_0 : decode jdk_52_method_3_code 0 = .ok (.iload_n 0, 1) := by decide +kernel
theorem d_jdk_52_method_3_1 : decode jdk_52_method_3_code 1 = .ok (.ifCond .ge 11, 3) := by decide +kernel
theorem d_jdk_52_method_3_12 : decode jdk_52_method_3_code 12 = .ok (.iload_n 0, 1) := by decide +kernel
theorem d_jdk_52_method_3_13 : decode jdk_52_method_3_code 13 = .ok (.ldc 20, 2) := by decide +kernel
theorem d_jdk_52_method_3_15 : decode jdk_52_method_3_code 15 = .ok (.if_icmp .lt 40, 3) := by decide +kernel
theorem d_jdk_52_method_3_55 : decode jdk_52_method_3_code 55 = .ok (.iload_n 0, 1) := by decide +kernel
theorem d_jdk_52_method_3_56 : decode jdk_52_method_3_code 56 = .ok (.iconst 1, 1) := by decide +kernel
theorem d_jdk_52_method_3_57 : decode jdk_52_method_3_code 57 = .ok (.ishl, 1) := by decide +kernel
theorem d_jdk_52_method_3_58 : decode jdk_52_method_3_code 58 = .ok (.ireturn, 1) := by decide +kernel
theorem d_jdk_52_method_2_0 : decode jdk_52_method_2_code 0 = .ok (.iload_n 0, 1) := by decide +kernel
theorem d_jdk_52_method_2_1 : decode jdk_52_method_2_code 1 = .ok (.invokestatic 11, 3) := by decide +kernel
theorem d_jdk_52_method_2_4 : decode jdk_52_method_2_code 4 = .ok (.newarray .byte, 2) := by decide +kernel
theorem d_jdk_52_method_2_6 : decode jdk_52_method_2_code 6 = .ok (.areturn, 1) := by decide +kernel
theorem d_jdk_52_method_5_0 : decode jdk_52_method_5_code 0 = .ok (.getstatic 44, 3) := by decide +kernel
theorem d_jdk_52_method_5_3 : decode jdk_52_method_5_code 3 = .ok (.ifCond .ne 25, 3) := by decide +kernel
theorem d_jdk_52_method_5_28 : decode jdk_52_method_5_code 28 = .ok (.iload_n 1, 1) := by decide +kernel
theorem d_jdk_52_method_5_29 : decode jdk_52_method_5_code 29 = .ok (.iconst 1, 1) := by decide +kernel
theorem d_jdk_52_method_5_30 : decode jdk_52_method_5_code 30 = .ok (.ishl, 1) := by decide +kernel
theorem d_jdk_52_method_5_31 : decode jdk_52_method_5_code 31 = .ok (.istore_n 1, 1) := by decide +kernel
theorem d_jdk_52_method_5_32 : decode jdk_52_method_5_code 32 = .ok (.aload_n 0, 1) := by decide +kernel
theorem d_jdk_52_method_5_33 : decode jdk_52_method_5_code 33 = .ok (.iload_n 1, 1) := by decide +kernel
theorem d_jdk_52_method_5_34 : decode jdk_52_method_5_code 34 = .ok (.iinc 1 1, 3) := by decide +kernel
theorem d_jdk_52_method_5_37 : decode jdk_52_method_5_code 37 = .ok (.baload, 1) := by decide +kernel
theorem d_jdk_52_method_5_38 : decode jdk_52_method_5_code 38 = .ok (.sipush 255, 3) := by decide +kernel
theorem d_jdk_52_method_5_41 : decode jdk_52_method_5_code 41 = .ok (.iand, 1) := by decide +kernel
theorem d_jdk_52_method_5_42 : decode jdk_52_method_5_code 42 = .ok (.getstatic 59, 3) := by decide +kernel
theorem d_jdk_52_method_5_45 : decode jdk_52_method_5_code 45 = .ok (.ishl, 1) := by decide +kernel
theorem d_jdk_52_method_5_46 : decode jdk_52_method_5_code 46 = .ok (.aload_n 0, 1) := by decide +kernel
theorem d_jdk_52_method_5_47 : decode jdk_52_method_5_code 47 = .ok (.iload_n 1, 1) := by decide +kernel
theorem d_jdk_52_method_5_48 : decode jdk_52_method_5_code 48 = .ok (.baload, 1) := by decide +kernel
theorem d_jdk_52_method_5_49 : decode jdk_52_method_5_code 49 = .ok (.sipush 255, 3) := by decide +kernel
theorem d_jdk_52_method_5_52 : decode jdk_52_method_5_code 52 = .ok (.iand, 1) := by decide +kernel
theorem d_jdk_52_method_5_53 : decode jdk_52_method_5_code 53 = .ok (.getstatic 63, 3) := by decide +kernel
theorem d_jdk_52_method_5_56 : decode jdk_52_method_5_code 56 = .ok (.ishl, 1) := by decide +kernel
theorem d_jdk_52_method_5_57 : decode jdk_52_method_5_code 57 = .ok (.ior, 1) := by decide +kernel
theorem d_jdk_52_method_5_58 : decode jdk_52_method_5_code 58 = .ok (.i2c, 1) := by decide +kernel
theorem d_jdk_52_method_5_59 : decode jdk_52_method_5_code 59 = .ok (.ireturn, 1) := by decide +kernel
theorem d_jdk_52_method_91_0 : decode jdk_52_method_91_code 0 = .ok (.iload_n 0, 1) := by decide +kernel
theorem d_jdk_52_method_91_1 : decode jdk_52_method_91_code 1 = .ok (.aload_n 1, 1) := by decide +kernel
theorem d_jdk_52_method_91_2 : decode jdk_52_method_91_code 2 = .ok (.invokestatic 48, 3) := by decide +kernel
theorem d_jdk_52_method_91_5 : decode jdk_52_method_91_code 5 = .ok (.invokestatic 414, 3) := by decide +kernel
theorem d_jdk_52_method_91_8 : decode jdk_52_method_91_code 8 = .ok (.return_, 1) := by decide +kernel
theorem d_jdk_52_method_83_0 : decode jdk_52_method_83_code 0 = .ok (.iload_n 1, 1) := by decide +kernel
theorem d_jdk_52_method_83_1 : decode jdk_52_method_83_code 1 = .ok (.aload_n 0, 1) := by decide +kernel
theorem d_jdk_52_method_83_2 : decode jdk_52_method_83_code 2 = .ok (.invokestatic 67, 3) := by decide +kernel
theorem d_jdk_52_method_83_5 : decode jdk_52_method_83_code 5 = .ok (.aload_n 0, 1) := by decide +kernel
theorem d_jdk_52_method_83_6 : decode jdk_52_method_83_code 6 = .ok (.iload_n 1, 1) := by decide +kernel
theorem d_jdk_52_method_83_7 : decode jdk_52_method_83_code 7 = .ok (.invokestatic 71, 3) := by decide +kernel
theorem d_jdk_52_method_83_10 : decode jdk_52_method_83_code 10 = .ok (.ireturn, 1) := by decide +kernel
theorem d_jdk_41_method_13_0 : decode jdk_41_method_13_code 0 = .ok (.iload_n 2, 1) := by decide +kernel
theorem d_jdk_41_method_13_1 : decode jdk_41_method_13_code 1 = .ok (.iload_n 0, 1) := by decide +kernel
theorem d_jdk_41_method_13_2 : decode jdk_41_method_13_code 2 = .ok (.ior, 1) := by decide +kernel
theorem d_jdk_41_method_13_3 : decode jdk_41_method_13_code 3 = .ok (.iload_n 1, 1) := by decide +kernel
theorem d_jdk_41_method_13_4 : decode jdk_41_method_13_code 4 = .ok (.ior, 1) := by decide +kernel
theorem d_jdk_41_method_13_5 : decode jdk_41_method_13_code 5 = .ok (.ifCond .lt 10, 3) := by decide +kernel
theorem d_jdk_41_method_13_8 : decode jdk_41_method_13_code 8 = .ok (.iload_n 1, 1) := by decide +kernel
theorem d_jdk_41_method_13_9 : decode jdk_41_method_13_code 9 = .ok (.iload_n 2, 1) := by decide +kernel
theorem d_jdk_41_method_13_10 : decode jdk_41_method_13_code 10 = .ok (.iload_n 0, 1) := by decide +kernel
theorem d_jdk_41_method_13_11 : decode jdk_41_method_13_code 11 = .ok (.isub, 1) := by decide +kernel
theorem d_jdk_41_method_13_12 : decode jdk_41_method_13_code 12 = .ok (.if_icmp .le 11, 3) := by decide +kernel
theorem d_jdk_41_method_13_23 : decode jdk_41_method_13_code 23 = .ok (.iload_n 0, 1) := by decide +kernel
theorem d_jdk_41_method_13_24 : decode jdk_41_method_13_code 24 = .ok (.ireturn, 1) := by decide +kernel
theorem d_jdk_42_method_157_0 : decode jdk_42_method_157_code 0 = .ok (.iload_n 0, 1) := by decide +kernel
theorem d_jdk_42_method_157_1 : decode jdk_42_method_157_code 1 = .ok (.iload_n 1, 1) := by decide +kernel
theorem d_jdk_42_method_157_2 : decode jdk_42_method_157_code 2 = .ok (.iload_n 2, 1) := by decide +kernel
theorem d_jdk_42_method_157_3 : decode jdk_42_method_157_code 3 = .ok (.getstatic 1053, 3) := by decide +kernel
theorem d_jdk_42_method_157_6 : decode jdk_42_method_157_code 6 = .ok (.invokestatic 1065, 3) := by decide +kernel
theorem d_jdk_42_method_157_9 : decode jdk_42_method_157_code 9 = .ok (.ireturn, 1) := by decide +kernel
theorem d_jdk_52_method_94_0 : decode jdk_52_method_94_code 0 = .ok (.iload_n 0, 1) := by decide +kernel
theorem d_jdk_52_method_94_1 : decode jdk_52_method_94_code 1 = .ok (.iload_n 1, 1) := by decide +kernel
theorem d_jdk_52_method_94_2 : decode jdk_52_method_94_code 2 = .ok (.aload_n 2, 1) := by decide +kernel
theorem d_jdk_52_method_94_3 : decode jdk_52_method_94_code 3 = .ok (.invokestatic 48, 3) := by decide +kernel
theorem d_jdk_52_method_94_6 : decode jdk_52_method_94_code 6 = .ok (.invokestatic 419, 3) := by decide +kernel
theorem d_jdk_52_method_94_9 : decode jdk_52_method_94_code 9 = .ok (.pop, 1) := by decide +kernel
theorem d_jdk_52_method_94_10 : decode jdk_52_method_94_code 10 = .ok (.return_, 1) := by decide +kernel
theorem d_jdk_52_method_86_0 : decode jdk_52_method_86_code 0 = .ok (.iload_n 3, 1) := by decide +kernel
theorem d_jdk_52_method_86_1 : decode jdk_52_method_86_code 1 = .ok (.iload 4, 2) := by decide +kernel
theorem d_jdk_52_method_86_3 : decode jdk_52_method_86_code 3 = .ok (.aload_n 2, 1) := by decide +kernel
theorem d_jdk_52_method_86_4 : decode jdk_52_method_86_code 4 = .ok (.invokestatic 173, 3) := by decide +kernel
theorem d_jdk_52_method_86_7 : decode jdk_52_method_86_code 7 = .ok (.iconst 0, 1) := by decide +kernel
theorem d_jdk_52_method_86_8 : decode jdk_52_method_86_code 8 = .ok (.istore 5, 2) := by decide +kernel
theorem d_jdk_52_method_86_10 : decode jdk_52_method_86_code 10 = .ok (.iload 5, 2) := by decide +kernel
theorem d_jdk_52_method_86_12 : decode jdk_52_method_86_code 12 = .ok (.iload 4, 2) := by decide +kernel
theorem d_jdk_52_method_86_14 : decode jdk_52_method_86_code 14 = .ok (.if_icmp .ge 27, 3) := by decide +kernel
theorem d_jdk_52_method_86_41 : decode jdk_52_method_86_code 41 = .ok (.return_, 1) := by decide +kernel
theorem d_jdk_52_method_86_17 : decode jdk_52_method_86_code 17 = .ok (.aload_n 2, 1) := by decide +kernel
theorem d_jdk_52_method_86_18 : decode jdk_52_method_86_code 18 = .ok (.iload_n 3, 1) := by decide +kernel
theorem d_jdk_52_method_86_19 : decode jdk_52_method_86_code 19 = .ok (.iinc 3 1, 3) := by decide +kernel
theorem d_jdk_52_method_86_22 : decode jdk_52_method_86_code 22 = .ok (.aload_n 0, 1) := by decide +kernel
theorem d_jdk_52_method_86_23 : decode jdk_52_method_86_code 23 = .ok (.iload_n 1, 1) := by decide +kernel
theorem d_jdk_52_method_86_24 : decode jdk_52_method_86_code 24 = .ok (.iinc 1 1, 3) := by decide +kernel
theorem d_jdk_52_method_86_27 : decode jdk_52_method_86_code 27 = .ok (.baload, 1) := by decide +kernel
theorem d_jdk_52_method_86_28 : decode jdk_52_method_86_code 28 = .ok (.sipush 255, 3) := by decide +kernel
theorem d_jdk_52_method_86_31 : decode jdk_52_method_86_code 31 = .ok (.iand, 1) := by decide +kernel
theorem d_jdk_52_method_86_32 : decode jdk_52_method_86_code 32 = .ok (.invokestatic 111, 3) := by decide +kernel
theorem d_jdk_52_method_86_35 : decode jdk_52_method_86_code 35 = .ok (.iinc 5 1, 3) := by decide +kernel
theorem d_jdk_52_method_86_38 : decode jdk_52_method_86_code 38 = .ok (.goto (-28), 3) := by decide +kernel
theorem d_jdk_43_method_50_0 : decode jdk_43_method_50_code 0 = .ok (.aload_n 0, 1) := by decide +kernel
theorem d_jdk_43_method_50_1 : decode jdk_43_method_50_code 1 = .ok (.iload_n 1, 1) := by decide +kernel
theorem d_jdk_43_method_50_2 : decode jdk_43_method_50_code 2 = .ok (.aload_n 2, 1) := by decide +kernel
theorem d_jdk_43_method_50_3 : decode jdk_43_method_50_code 3 = .ok (.iload_n 3, 1) := by decide +kernel
theorem d_jdk_43_method_50_4 : decode jdk_43_method_50_code 4 = .ok (.iload 4, 2) := by decide +kernel
theorem d_jdk_43_method_50_6 : decode jdk_43_method_50_code 6 = .ok (.invokestatic 240, 3) := by decide +kernel
theorem d_jdk_43_method_50_9 : decode jdk_43_method_50_code 9 = .ok (.return_, 1) := by decide +kernel
theorem d_jdk_68_method_11_0 : decode jdk_68_method_11_code 0 = .ok (.aload_n 0, 1) := by decide +kernel
theorem d_jdk_68_method_11_1 : decode jdk_68_method_11_code 1 = .ok (.invokevirtual 83, 3) := by decide +kernel
theorem d_jdk_68_method_11_4 : decode jdk_68_method_11_code 4 = .ok (.ifCond .ne 4, 3) := by decide +kernel
theorem d_jdk_68_method_11_8 : decode jdk_68_method_11_code 8 = .ok (.aload_n 0, 1) := by decide +kernel
theorem d_jdk_68_method_11_9 : decode jdk_68_method_11_code 9 = .ok (.getfield 15, 3) := by decide +kernel
theorem d_jdk_68_method_11_12 : decode jdk_68_method_11_code 12 = .ok (.arraylength, 1) := by decide +kernel
theorem d_jdk_68_method_11_13 : decode jdk_68_method_11_code 13 = .ok (.invokestatic 26, 3) := by decide +kernel
theorem d_jdk_68_method_11_16 : decode jdk_68_method_11_code 16 = .ok (.astore_n 1, 1) := by decide +kernel
theorem d_jdk_68_method_11_17 : decode jdk_68_method_11_code 17 = .ok (.aload_n 0, 1) := by decide +kernel
theorem d_jdk_68_method_11_18 : decode jdk_68_method_11_code 18 = .ok (.getfield 15, 3) := by decide +kernel
theorem d_jdk_68_method_11_21 : decode jdk_68_method_11_code 21 = .ok (.iconst 0, 1) := by decide +kernel
theorem d_jdk_68_method_11_22 : decode jdk_68_method_11_code 22 = .ok (.aload_n 1, 1) := by decide +kernel
theorem d_jdk_68_method_11_23 : decode jdk_68_method_11_code 23 = .ok (.iconst 0, 1) := by decide +kernel
theorem d_jdk_68_method_11_24 : decode jdk_68_method_11_code 24 = .ok (.aload_n 0, 1) := by decide +kernel
theorem d_jdk_68_method_11_25 : decode jdk_68_method_11_code 25 = .ok (.getfield 79, 3) := by decide +kernel
theorem d_jdk_68_method_11_28 : decode jdk_68_method_11_code 28 = .ok (.invokestatic 125, 3) := by decide +kernel
theorem d_jdk_68_method_11_31 : decode jdk_68_method_11_code 31 = .ok (.aload_n 0, 1) := by decide +kernel
theorem d_jdk_68_method_11_32 : decode jdk_68_method_11_code 32 = .ok (.aload_n 1, 1) := by decide +kernel
theorem d_jdk_68_method_11_33 : decode jdk_68_method_11_code 33 = .ok (.putfield 15, 3) := by decide +kernel
theorem d_jdk_68_method_11_36 : decode jdk_68_method_11_code 36 = .ok (.aload_n 0, 1) := by decide +kernel
theorem d_jdk_68_method_11_37 : decode jdk_68_method_11_code 37 = .ok (.iconst 1, 1) := by decide +kernel
theorem d_jdk_68_method_11_38 : decode jdk_68_method_11_code 38 = .ok (.putfield 22, 3) := by decide +kernel
theorem d_jdk_68_method_11_41 : decode jdk_68_method_11_code 41 = .ok (.return_, 1) := by decide +kernel
theorem d_jdk_68_method_11_7 : decode jdk_68_method_11_code 7 = .ok (.return_, 1) := by decide +kernel
theorem d_jdk_52_method_71_0 : decode jdk_52_method_71_code 0 = .ok (.iload_n 1, 1) := by decide +kernel
theorem d_jdk_52_method_71_1 : decode jdk_52_method_71_code 1 = .ok (.aload_n 0, 1) := by decide +kernel
theorem d_jdk_52_method_71_2 : decode jdk_52_method_71_code 2 = .ok (.invokestatic 67, 3) := by decide +kernel
theorem d_jdk_52_method_71_5 : decode jdk_52_method_71_code 5 = .ok (.aload_n 0, 1) := by decide +kernel
theorem d_jdk_52_method_71_6 : decode jdk_52_method_71_code 6 = .ok (.iload_n 1, 1) := by decide +kernel
theorem d_jdk_52_method_71_7 : decode jdk_52_method_71_code 7 = .ok (.iload_n 2, 1) := by decide +kernel
theorem d_jdk_52_method_71_8 : decode jdk_52_method_71_code 8 = .ok (.invokestatic 111, 3) := by decide +kernel
theorem d_jdk_52_method_71_11 : decode jdk_52_method_71_code 11 = .ok (.return_, 1) := by decide +kernel
theorem d_jdk_43_method_3_0 : decode jdk_43_method_3_code 0 = .ok (.iload_n 0, 1) := by decide +kernel
theorem d_jdk_43_method_3_1 : decode jdk_43_method_3_code 1 = .ok (.sipush 255, 3) := by decide +kernel
theorem d_jdk_43_method_3_4 : decode jdk_43_method_3_code 4 = .ok (.if_icmp .gt 7, 3) := by decide +kernel
theorem d_jdk_43_method_3_7 : decode jdk_43_method_3_code 7 = .ok (.iconst 1, 1) := by decide +kernel
theorem d_jdk_43_method_3_8 : decode jdk_43_method_3_code 8 = .ok (.goto 4, 3) := by decide +kernel
theorem d_jdk_43_method_3_12 : decode jdk_43_method_3_code 12 = .ok (.ireturn, 1) := by decide +kernel
theorem d_jdk_43_method_3_11 : decode jdk_43_method_3_code 11 = .ok (.iconst 0, 1) := by decide +kernel
theorem d_jdk_68_method_31_0 : decode jdk_68_method_31_code 0 = .ok (.aload_n 0, 1) := by decide +kernel
theorem d_jdk_68_method_31_1 : decode jdk_68_method_31_code 1 = .ok (.aload_n 0, 1) := by decide +kernel
theorem d_jdk_68_method_31_2 : decode jdk_68_method_31_code 2 = .ok (.getfield 79, 3) := by decide +kernel
theorem d_jdk_68_method_31_5 : decode jdk_68_method_31_code 5 = .ok (.iconst 1, 1) := by decide +kernel
theorem d_jdk_68_method_31_6 : decode jdk_68_method_31_code 6 = .ok (.iadd, 1) := by decide +kernel
theorem d_jdk_68_method_31_7 : decode jdk_68_method_31_code 7 = .ok (.invokevirtual 100, 3) := by decide +kernel
theorem d_jdk_68_method_31_10 : decode jdk_68_method_31_code 10 = .ok (.aload_n 0, 1) := by decide +kernel
theorem d_jdk_68_method_31_11 : decode jdk_68_method_31_code 11 = .ok (.invokevirtual 83, 3) := by decide +kernel
theorem d_jdk_68_method_31_14 : decode jdk_68_method_31_code 14 = .ok (.ifCond .eq 31, 3) := by decide +kernel
theorem d_jdk_68_method_31_17 : decode jdk_68_method_31_code 17 = .ok (.iload_n 1, 1) := by decide +kernel
theorem d_jdk_68_method_31_18 : decode jdk_68_method_31_code 18 = .ok (.invokestatic 191, 3) := by decide +kernel
theorem d_jdk_68_method_31_21 : decode jdk_68_method_31_code 21 = .ok (.ifCond .eq 24, 3) := by decide +kernel
theorem d_jdk_68_method_31_45 : decode jdk_68_method_31_code 45 = .ok (.aload_n 0, 1) := by decide +kernel
theorem d_jdk_68_method_31_46 : decode jdk_68_method_31_code 46 = .ok (.invokevirtual 83, 3) := by decide +kernel
theorem d_jdk_68_method_31_49 : decode jdk_68_method_31_code 49 = .ok (.ifCond .eq 7, 3) := by decide +kernel
theorem d_jdk_68_method_31_52 : decode jdk_68_method_31_code 52 = .ok (.aload_n 0, 1) := by decide +kernel
theorem d_jdk_68_method_31_53 : decode jdk_68_method_31_code 53 = .ok (.invokevirtual 195, 3) := by decide +kernel
theorem d_jdk_68_method_31_56 : decode jdk_68_method_31_code 56 = .ok (.aload_n 0, 1) := by decide +kernel
theorem d_jdk_68_method_31_57 : decode jdk_68_method_31_code 57 = .ok (.getfield 15, 3) := by decide +kernel
theorem d_jdk_68_method_31_60 : decode jdk_68_method_31_code 60 = .ok (.aload_n 0, 1) := by decide +kernel
theorem d_jdk_68_method_31_61 : decode jdk_68_method_31_code 61 = .ok (.dup, 1) := by decide +kernel
theorem d_jdk_68_method_31_62 : decode jdk_68_method_31_code 62 = .ok (.getfield 79, 3) := by decide +kernel
theorem d_jdk_68_method_31_65 : decode jdk_68_method_31_code 65 = .ok (.dup_x1, 1) := by decide +kernel
theorem d_jdk_68_method_31_66 : decode jdk_68_method_31_code 66 = .ok (.iconst 1, 1) := by decide +kernel
theorem d_jdk_68_method_31_67 : decode jdk_68_method_31_code 67 = .ok (.iadd, 1) := by decide +kernel
theorem d_jdk_68_method_31_68 : decode jdk_68_method_31_code 68 = .ok (.putfield 79, 3) := by decide +kernel
theorem d_jdk_68_method_31_71 : decode jdk_68_method_31_code 71 = .ok (.iload_n 1, 1) := by decide +kernel
theorem d_jdk_68_method_31_72 : decode jdk_68_method_31_code 72 = .ok (.invokestatic 197, 3) := by decide +kernel
theorem d_jdk_68_method_31_75 : decode jdk_68_method_31_code 75 = .ok (.aload_n 0, 1) := by decide +kernel
theorem d_jdk_68_method_31_76 : decode jdk_68_method_31_code 76 = .ok (.areturn, 1) := by decide +kernel
theorem d_jdk_68_method_31_24 : decode jdk_68_method_31_code 24 = .ok (.aload_n 0, 1) := by decide +kernel
theorem d_jdk_68_method_31_25 : decode jdk_68_method_31_code 25 = .ok (.getfield 15, 3) := by decide +kernel
theorem d_jdk_68_method_31_28 : decode jdk_68_method_31_code 28 = .ok (.aload_n 0, 1) := by decide +kernel
theorem d_jdk_68_method_31_29 : decode jdk_68_method_31_code 29 = .ok (.dup, 1) := by decide +kernel
theorem d_jdk_68_method_31_30 : decode jdk_68_method_31_code 30 = .ok (.getfield 79, 3) := by decide +kernel
theorem d_jdk_68_method_31_33 : decode jdk_68_method_31_code 33 = .ok (.dup_x1, 1) := by decide +kernel
theorem d_jdk_68_method_31_34 : decode jdk_68_method_31_code 34 = .ok (.iconst 1, 1) := by decide +kernel
theorem d_jdk_68_method_31_35 : decode jdk_68_method_31_code 35 = .ok (.iadd, 1) := by decide +kernel
theorem d_jdk_68_method_31_36 : decode jdk_68_method_31_code 36 = .ok (.putfield 79, 3) := by decide +kernel
theorem d_jdk_68_method_31_39 : decode jdk_68_method_31_code 39 = .ok (.iload_n 1, 1) := by decide +kernel
theorem d_jdk_68_method_31_40 : decode jdk_68_method_31_code 40 = .ok (.i2b, 1) := by decide +kernel
theorem d_jdk_68_method_31_41 : decode jdk_68_method_31_code 41 = .ok (.bastore, 1) := by decide +kernel
theorem d_jdk_68_method_31_42 : decode jdk_68_method_31_code 42 = .ok (.goto 33, 3) := by decide +kernel
theorem d_jdk_67_method_14_0 : decode jdk_67_method_14_code 0 = .ok (.aload_n 0, 1) := by decide +kernel
theorem d_jdk_67_method_14_1 : decode jdk_67_method_14_code 1 = .ok (.iload_n 1, 1) := by decide +kernel
theorem d_jdk_67_method_14_2 : decode jdk_67_method_14_code 2 = .ok (.invokespecial 50, 3) := by decide +kernel
theorem d_jdk_67_method_14_5 : decode jdk_67_method_14_code 5 = .ok (.pop, 1) := by decide +kernel
theorem d_jdk_67_method_14_6 : decode jdk_67_method_14_code 6 = .ok (.aload_n 0, 1) := by decide +kernel
theorem d_jdk_67_method_14_7 : decode jdk_67_method_14_code 7 = .ok (.areturn, 1) := by decide +kernel
theorem d_jdk_42_method_152_0 : decode jdk_42_method_152_code 0 = .ok (.getstatic 38, 3) := by decide +kernel
theorem d_jdk_42_method_152_3 : decode jdk_42_method_152_code 3 = .ok (.ifCond .eq 10, 3) := by decide +kernel
theorem d_jdk_42_method_152_6 : decode jdk_42_method_152_code 6 = .ok (.aload_n 0, 1) := by decide +kernel
theorem d_jdk_42_method_152_7 : decode jdk_42_method_152_code 7 = .ok (.getfield 15, 3) := by decide +kernel
theorem d_jdk_42_method_152_10 : decode jdk_42_method_152_code 10 = .ok (.goto 4, 3) := by decide +kernel
theorem d_jdk_42_method_152_14 : decode jdk_42_method_152_code 14 = .ok (.ireturn, 1) := by decide +kernel
theorem d_jdk_42_method_54_0 : decode jdk_42_method_54_code 0 = .ok (.aload_n 0, 1) := by decide +kernel
theorem d_jdk_42_method_54_1 : decode jdk_42_method_54_code 1 = .ok (.getfield 9, 3) := by decide +kernel
theorem d_jdk_42_method_54_4 : decode jdk_42_method_54_code 4 = .ok (.arraylength, 1) := by decide +kernel
theorem d_jdk_42_method_54_5 : decode jdk_42_method_54_code 5 = .ok (.aload_n 0, 1) := by decide +kernel
theorem d_jdk_42_method_54_6 : decode jdk_42_method_54_code 6 = .ok (.invokevirtual 335, 3) := by decide +kernel
theorem d_jdk_42_method_54_9 : decode jdk_42_method_54_code 9 = .ok (.ishr, 1) := by decide +kernel
theorem d_jdk_42_method_54_10 : decode jdk_42_method_54_code 10 = .ok (.ireturn, 1) := by decide +kernel
theorem d_jdk_68_method_71_0 : decode jdk_68_method_71_code 0 = .ok (.getstatic 18, 3) := by decide +kernel
theorem d_jdk_68_method_71_3 : decode jdk_68_method_71_code 3 = .ok (.ifCond .eq 18, 3) := by decide +kernel
theorem d_jdk_68_method_71_6 : decode jdk_68_method_71_code 6 = .ok (.aload_n 0, 1) := by decide +kernel
theorem d_jdk_68_method_71_7 : decode jdk_68_method_71_code 7 = .ok (.getfield 22, 3) := by decide +kernel
theorem d_jdk_68_method_71_10 : decode jdk_68_method_71_code 10 = .ok (.aload_n 1, 1) := by decide +kernel
theorem d_jdk_68_method_71_11 : decode jdk_68_method_71_code 11 = .ok (.invokevirtual 40, 3) := by decide +kernel
theorem d_jdk_68_method_71_14 : decode jdk_68_method_71_code 14 = .ok (.if_icmp .eq 7, 3) := by decide +kernel
theorem d_jdk_68_method_71_21 : decode jdk_68_method_71_code 21 = .ok (.return_, 1) := by decide +kernel
theorem d_jdk_68_method_71_17 : decode jdk_68_method_71_code 17 = .ok (.aload_n 0, 1) := by decide +kernel
theorem d_jdk_68_method_71_18 : decode jdk_68_method_71_code 18 = .ok (.invokevirtual 195, 3) := by decide +kernel
theorem d_jdk_42_method_147_0 : decode jdk_42_method_147_code 0 = .ok (.aload_n 0, 1) := by decide +kernel
theorem d_jdk_42_method_147_1 : decode jdk_42_method_147_code 1 = .ok (.invokevirtual 335, 3) := by decide +kernel
theorem d_jdk_42_method_147_4 : decode jdk_42_method_147_code 4 = .ok (.iload_n 3, 1) := by decide +kernel
theorem d_jdk_42_method_147_5 : decode jdk_42_method_147_code 5 = .ok (.if_icmp .ne 23, 3) := by decide +kernel
theorem d_jdk_42_method_147_8 : decode jdk_42_method_147_code 8 = .ok (.aload_n 0, 1) := by decide +kernel
theorem d_jdk_42_method_147_9 : decode jdk_42_method_147_code 9 = .ok (.getfield 9, 3) := by decide +kernel
theorem d_jdk_42_method_147_12 : decode jdk_42_method_147_code 12 = .ok (.iconst 0, 1) := by decide +kernel
theorem d_jdk_42_method_147_13 : decode jdk_42_method_147_code 13 = .ok (.aload_n 1, 1) := by decide +kernel
theorem d_jdk_42_method_147_14 : decode jdk_42_method_147_code 14 = .ok (.iload_n 2, 1) := by decide +kernel
theorem d_jdk_42_method_147_15 : decode jdk_42_method_147_code 15 = .ok (.iload_n 3, 1) := by decide +kernel
theorem d_jdk_42_method_147_16 : decode jdk_42_method_147_code 16 = .ok (.ishl, 1) := by decide +kernel
theorem d_jdk_42_method_147_17 : decode jdk_42_method_147_code 17 = .ok (.aload_n 0, 1) := by decide +kernel
theorem d_jdk_42_method_147_18 : decode jdk_42_method_147_code 18 = .ok (.getfield 9, 3) := by decide +kernel
theorem d_jdk_42_method_147_21 : decode jdk_42_method_147_code 21 = .ok (.arraylength, 1) := by decide +kernel
theorem d_jdk_42_method_147_22 : decode jdk_42_method_147_code 22 = .ok (.invokestatic 212, 3) := by decide +kernel
theorem d_jdk_42_method_147_25 : decode jdk_42_method_147_code 25 = .ok (.goto 18, 3) := by decide +kernel
theorem d_jdk_42_method_147_43 : decode jdk_42_method_147_code 43 = .ok (.return_, 1) := by decide +kernel
theorem d_jdk_42_method_147_28 : decode jdk_42_method_147_code 28 = .ok (.aload_n 0, 1) := by decide +kernel
theorem d_jdk_42_method_147_29 : decode jdk_42_method_147_code 29 = .ok (.getfield 9, 3) := by decide +kernel
theorem d_jdk_42_method_147_32 : decode jdk_42_method_147_code 32 = .ok (.iconst 0, 1) := by decide +kernel
theorem d_jdk_42_method_147_33 : decode jdk_42_method_147_code 33 = .ok (.aload_n 1, 1) := by decide +kernel
theorem d_jdk_42_method_147_34 : decode jdk_42_method_147_code 34 = .ok (.iload_n 2, 1) := by decide +kernel
theorem d_jdk_42_method_147_35 : decode jdk_42_method_147_code 35 = .ok (.aload_n 0, 1) := by decide +kernel
theorem d_jdk_42_method_147_36 : decode jdk_42_method_147_code 36 = .ok (.getfield 9, 3) := by decide +kernel
theorem d_jdk_42_method_147_39 : decode jdk_42_method_147_code 39 = .ok (.arraylength, 1) := by decide +kernel
theorem d_jdk_42_method_147_40 : decode jdk_42_method_147_code 40 = .ok (.invokestatic 106, 3) := by decide +kernel
theorem d_jdk_68_method_73_0 : decode jdk_68_method_73_code 0 = .ok (.aload_n 0, 1) := by decide +kernel
theorem d_jdk_68_method_73_1 : decode jdk_68_method_73_code 1 = .ok (.aload_n 2, 1) := by decide +kernel
theorem d_jdk_68_method_73_2 : decode jdk_68_method_73_code 2 = .ok (.invokevirtual 397, 3) := by decide +kernel
theorem d_jdk_68_method_73_5 : decode jdk_68_method_73_code 5 = .ok (.aload_n 2, 1) := by decide +kernel
theorem d_jdk_68_method_73_6 : decode jdk_68_method_73_code 6 = .ok (.aload_n 0, 1) := by decide +kernel
theorem d_jdk_68_method_73_7 : decode jdk_68_method_73_code 7 = .ok (.getfield 15, 3) := by decide +kernel
theorem d_jdk_68_method_73_10 : decode jdk_68_method_73_code 10 = .ok (.iload_n 1, 1) := by decide +kernel
theorem d_jdk_68_method_73_11 : decode jdk_68_method_73_code 11 = .ok (.aload_n 0, 1) := by decide +kernel
theorem d_jdk_68_method_73_12 : decode jdk_68_method_73_code 12 = .ok (.getfield 22, 3) := by decide +kernel
theorem d_jdk_68_method_73_15 : decode jdk_68_method_73_code 15 = .ok (.invokevirtual 399, 3) := by decide +kernel
theorem d_jdk_68_method_73_18 : decode jdk_68_method_73_code 18 = .ok (.return_, 1) := by decide +kernel
theorem d_jdk_68_method_22_0 : decode jdk_68_method_22_code 0 = .ok (.aload_n 1, 1) := by decide +kernel
theorem d_jdk_68_method_22_1 : decode jdk_68_method_22_code 1 = .ok (.ifnonnull 8, 3) := by decide +kernel
theorem d_jdk_68_method_22_9 : decode jdk_68_method_22_code 9 = .ok (.aload_n 1, 1) := by decide +kernel
theorem d_jdk_68_method_22_10 : decode jdk_68_method_22_code 10 = .ok (.invokevirtual 32, 3) := by decide +kernel
theorem d_jdk_68_method_22_13 : decode jdk_68_method_22_code 13 = .ok (.istore_n 2, 1) := by decide +kernel
theorem d_jdk_68_method_22_14 : decode jdk_68_method_22_code 14 = .ok (.aload_n 0, 1) := by decide +kernel
theorem d_jdk_68_method_22_15 : decode jdk_68_method_22_code 15 = .ok (.aload_n 0, 1) := by decide +kernel
theorem d_jdk_68_method_22_16 : decode jdk_68_method_22_code 16 = .ok (.getfield 79, 3) := by decide +kernel
theorem d_jdk_68_method_22_19 : decode jdk_68_method_22_code 19 = .ok (.iload_n 2, 1) := by decide +kernel
theorem d_jdk_68_method_22_20 : decode jdk_68_method_22_code 20 = .ok (.iadd, 1) := by decide +kernel
theorem d_jdk_68_method_22_21 : decode jdk_68_method_22_code 21 = .ok (.invokevirtual 100, 3) := by decide +kernel
theorem d_jdk_68_method_22_24 : decode jdk_68_method_22_code 24 = .ok (.aload_n 0, 1) := by decide +kernel
theorem d_jdk_68_method_22_25 : decode jdk_68_method_22_code 25 = .ok (.aload_n 0, 1) := by decide +kernel
theorem d_jdk_68_method_22_26 : decode jdk_68_method_22_code 26 = .ok (.getfield 79, 3) := by decide +kernel
theorem d_jdk_68_method_22_29 : decode jdk_68_method_22_code 29 = .ok (.aload_n 1, 1) := by decide +kernel
theorem d_jdk_68_method_22_30 : decode jdk_68_method_22_code 30 = .ok (.invokevirtual 208, 3) := by decide +kernel
theorem d_jdk_68_method_22_33 : decode jdk_68_method_22_code 33 = .ok (.aload_n 0, 1) := by decide +kernel
theorem d_jdk_68_method_22_34 : decode jdk_68_method_22_code 34 = .ok (.dup, 1) := by decide +kernel
theorem d_jdk_68_method_22_35 : decode jdk_68_method_22_code 35 = .ok (.getfield 79, 3) := by decide +kernel
theorem d_jdk_68_method_22_38 : decode jdk_68_method_22_code 38 = .ok (.iload_n 2, 1) := by decide +kernel
theorem d_jdk_68_method_22_39 : decode jdk_68_method_22_code 39 = .ok (.iadd, 1) := by decide +kernel
theorem d_jdk_68_method_22_40 : decode jdk_68_method_22_code 40 = .ok (.putfield 79, 3) := by decide +kernel
theorem d_jdk_68_method_22_43 : decode jdk_68_method_22_code 43 = .ok (.aload_n 0, 1) := by decide +kernel
theorem d_jdk_68_method_22_44 : decode jdk_68_method_22_code 44 = .ok (.areturn, 1) := by decide +kernel
theorem d_jdk_67_method_7_0 : decode jdk_67_method_7_code 0 = .ok (.aload_n 0, 1) := by decide +kernel
theorem d_jdk_67_method_7_1 : decode jdk_67_method_7_code 1 = .ok (.aload_n 1, 1) := by decide +kernel
theorem d_jdk_67_method_7_2 : decode jdk_67_method_7_code 2 = .ok (.invokespecial 29, 3) := by decide +kernel
theorem d_jdk_67_method_7_5 : decode jdk_67_method_7_code 5 = .ok (.pop, 1) := by decide +kernel
theorem d_jdk_67_method_7_6 : decode jdk_67_method_7_code 6 = .ok (.aload_n 0, 1) := by decide +kernel
theorem d_jdk_67_method_7_7 : decode jdk_67_method_7_code 7 = .ok (.areturn, 1) := by decide +kernel
theorem d_jdk_65_method_131_0 : decode jdk_65_method_131_code 0 = .ok (.iload_n 1, 1) := by decide +kernel
theorem d_jdk_65_method_131_1 : decode jdk_65_method_131_code 1 = .ok (.iload_n 0, 1) := by decide +kernel
theorem d_jdk_65_method_131_2 : decode jdk_65_method_131_code 2 = .ok (.if_icmp .ge 35, 3) := by decide +kernel
theorem d_jdk_65_method_131_37 : decode jdk_65_method_131_code 37 = .ok (.return_, 1) := by decide +kernel
theorem d_jdk_29_method_69_9 : decode jdk_29_method_69_code 9 = .ok (.iload_n 1, 1) := by decide +kernel
theorem d_jdk_65_method_133_0 : decode jdk_65_method_133_code 0 = .ok (.iload_n 1, 1) := by decide +kernel
theorem d_jdk_65_method_133_1 : decode jdk_65_method_133_code 1 = .ok (.iload_n 2, 1) := by decide +kernel
theorem d_jdk_65_method_133_2 : decode jdk_65_method_133_code 2 = .ok (.invokestatic 343, 3) := by decide +kernel
theorem d_jdk_65_method_133_5 : decode jdk_65_method_133_code 5 = .ok (.iload_n 2, 1) := by decide +kernel
theorem d_jdk_65_method_133_6 : decode jdk_65_method_133_code 6 = .ok (.iload_n 1, 1) := by decide +kernel
theorem d_jdk_65_method_133_7 : decode jdk_65_method_133_code 7 = .ok (.isub, 1) := by decide +kernel
theorem d_jdk_65_method_133_8 : decode jdk_65_method_133_code 8 = .ok (.istore_n 3, 1) := by decide +kernel
theorem d_jdk_65_method_133_9 : decode jdk_65_method_133_code 9 = .ok (.iload_n 3, 1) := by decide +kernel
theorem d_jdk_65_method_133_10 : decode jdk_65_method_133_code 10 = .ok (.newarray .byte, 2) := by decide +kernel
theorem d_jdk_65_method_133_12 : decode jdk_65_method_133_code 12 = .ok (.astore 4, 2) := by decide +kernel
theorem d_jdk_65_method_133_14 : decode jdk_65_method_133_code 14 = .ok (.aload_n 0, 1) := by decide +kernel
theorem d_jdk_65_method_133_15 : decode jdk_65_method_133_code 15 = .ok (.iload_n 1, 1) := by decide +kernel
theorem d_jdk_65_method_133_16 : decode jdk_65_method_133_code 16 = .ok (.aload 4, 2) := by decide +kernel
theorem d_jdk_65_method_133_18 : decode jdk_65_method_133_code 18 = .ok (.iconst 0, 1) := by decide +kernel
theorem d_jdk_65_method_133_19 : decode jdk_65_method_133_code 19 = .ok (.aload_n 0, 1) := by decide +kernel
theorem d_jdk_65_method_133_20 : decode jdk_65_method_133_code 20 = .ok (.arraylength, 1) := by decide +kernel
theorem d_jdk_65_method_133_21 : decode jdk_65_method_133_code 21 = .ok (.iload_n 1, 1) := by decide +kernel
theorem d_jdk_65_method_133_22 : decode jdk_65_method_133_code 22 = .ok (.isub, 1) := by decide +kernel
theorem d_jdk_65_method_133_23 : decode jdk_65_method_133_code 23 = .ok (.iload_n 3, 1) := by decide +kernel
theorem d_jdk_65_method_133_24 : decode jdk_65_method_133_code 24 = .ok (.invokestatic 304, 3) := by decide +kernel
theorem d_jdk_65_method_133_27 : decode jdk_65_method_133_code 27 = .ok (.invokestatic 150, 3) := by decide +kernel
theorem d_jdk_65_method_133_30 : decode jdk_65_method_133_code 30 = .ok (.aload 4, 2) := by decide +kernel
theorem d_jdk_65_method_133_32 : decode jdk_65_method_133_code 32 = .ok (.areturn, 1) := by decide +kernel
theorem d_jdk_65_method_132_0 : decode jdk_65_method_132_code 0 = .ok (.iload_n 1, 1) := by decide +kernel
theorem d_jdk_65_method_132_1 : decode jdk_65_method_132_code 1 = .ok (.ifCond .ne 9, 3) := by decide +kernel
theorem d_jdk_65_method_132_4 : decode jdk_65_method_132_code 4 = .ok (.iload_n 2, 1) := by decide +kernel
theorem d_jdk_65_method_132_5 : decode jdk_65_method_132_code 5 = .ok (.aload_n 0, 1) := by decide +kernel
theorem d_jdk_65_method_132_6 : decode jdk_65_method_132_code 6 = .ok (.arraylength, 1) := by decide +kernel
theorem d_jdk_65_method_132_7 : decode jdk_65_method_132_code 7 = .ok (.if_icmp .eq 10, 3) := by decide +kernel
theorem d_jdk_65_method_132_10 : decode jdk_65_method_132_code 10 = .ok (.aload_n 0, 1) := by decide +kernel
theorem d_jdk_65_method_132_11 : decode jdk_65_method_132_code 11 = .ok (.iload_n 1, 1) := by decide +kernel
theorem d_jdk_65_method_132_12 : decode jdk_65_method_132_code 12 = .ok (.iload_n 2, 1) := by decide +kernel
theorem d_jdk_65_method_132_13 : decode jdk_65_method_132_code 13 = .ok (.invokestatic 339, 3) := by decide +kernel
theorem d_jdk_65_method_132_16 : decode jdk_65_method_132_code 16 = .ok (.areturn, 1) := by decide +kernel
theorem d_jdk_65_method_132_17 : decode jdk_65_method_132_code 17 = .ok (.aload_n 0, 1) := by decide +kernel
theorem d_jdk_65_method_132_18 : decode jdk_65_method_132_code 18 = .ok (.invokevirtual 310, 3) := by decide +kernel
theorem d_jdk_65_method_132_21 : decode jdk_65_method_132_code 21 = .ok (.checkcast 311, 3) := by decide +kernel
theorem d_jdk_65_method_132_24 : decode jdk_65_method_132_code 24 = .ok (.areturn, 1) := by decide +kernel
theorem d_jdk_42_method_150_0 : decode jdk_42_method_150_code 0 = .ok (.aload_n 0, 1) := by decide +kernel
theorem d_jdk_42_method_150_1 : decode jdk_42_method_150_code 1 = .ok (.invokespecial 1, 3) := by decide +kernel
theorem d_jdk_42_method_150_4 : decode jdk_42_method_150_code 4 = .ok (.aload_n 1, 1) := by decide +kernel
theorem d_jdk_42_method_150_5 : decode jdk_42_method_150_code 5 = .ok (.invokevirtual 552, 3) := by decide +kernel
theorem d_jdk_42_method_150_8 : decode jdk_42_method_150_code 8 = .ok (.astore_n 3, 1) := by decide +kernel
theorem d_jdk_42_method_150_9 : decode jdk_42_method_150_code 9 = .ok (.aload_n 1, 1) := by decide +kernel
theorem d_jdk_42_method_150_10 : decode jdk_42_method_150_code 10 = .ok (.invokevirtual 549, 3) := by decide +kernel
theorem d_jdk_42_method_150_13 : decode jdk_42_method_150_code 13 = .ok (.istore 4, 2) := by decide +kernel
theorem d_jdk_42_method_150_15 : decode jdk_42_method_150_code 15 = .ok (.aload_n 1, 1) := by decide +kernel
theorem d_jdk_42_method_150_16 : decode jdk_42_method_150_code 16 = .ok (.invokevirtual 1047, 3) := by decide +kernel
theorem d_jdk_42_method_150_19 : decode jdk_42_method_150_code 19 = .ok (.ifCond .eq 22, 3) := by decide +kernel
theorem d_jdk_42_method_150_22 : decode jdk_42_method_150_code 22 = .ok (.aload_n 0, 1) := by decide +kernel
theorem d_jdk_42_method_150_23 : decode jdk_42_method_150_code 23 = .ok (.iconst 0, 1) := by decide +kernel
theorem d_jdk_42_method_150_24 : decode jdk_42_method_150_code 24 = .ok (.putfield 15, 3) := by decide +kernel
theorem d_jdk_42_method_150_27 : decode jdk_42_method_150_code 27 = .ok (.aload_n 0, 1) := by decide +kernel
theorem d_jdk_42_method_150_28 : decode jdk_42_method_150_code 28 = .ok (.aload_n 3, 1) := by decide +kernel
theorem d_jdk_42_method_150_29 : decode jdk_42_method_150_code 29 = .ok (.iconst 0, 1) := by decide +kernel
theorem d_jdk_42_method_150_30 : decode jdk_42_method_150_code 30 = .ok (.iload 4, 2) := by decide +kernel
theorem d_jdk_42_method_150_32 : decode jdk_42_method_150_code 32 = .ok (.invokestatic 54, 3) := by decide +kernel
theorem d_jdk_42_method_150_35 : decode jdk_42_method_150_code 35 = .ok (.putfield 9, 3) := by decide +kernel
theorem d_jdk_42_method_150_38 : decode jdk_42_method_150_code 38 = .ok (.goto 59, 3) := by decide +kernel
theorem d_jdk_42_method_150_97 : decode jdk_42_method_150_code 97 = .ok (.return_, 1) := by decide +kernel
theorem d_jdk_42_method_150_41 : decode jdk_42_method_150_code 41 = .ok (.getstatic 38, 3) := by decide +kernel
theorem d_jdk_42_method_150_44 : decode jdk_42_method_150_code 44 = .ok (.ifCond .eq 35, 3) := by decide +kernel
theorem d_jdk_42_method_150_47 : decode jdk_42_method_150_code 47 = .ok (.aload_n 1, 1) := by decide +kernel
theorem d_jdk_42_method_150_48 : decode jdk_42_method_150_code 48 = .ok (.getfield 1048, 3) := by decide +kernel
theorem d_jdk_42_method_150_51 : decode jdk_42_method_150_code 51 = .ok (.ifCond .eq 28, 3) := by decide +kernel
theorem d_jdk_42_method_150_79 : decode jdk_42_method_150_code 79 = .ok (.aload_n 0, 1) := by decide +kernel
theorem d_jdk_42_method_150_80 : decode jdk_42_method_150_code 80 = .ok (.iconst 1, 1) := by decide +kernel
theorem d_jdk_42_method_150_81 : decode jdk_42_method_150_code 81 = .ok (.putfield 15, 3) := by decide +kernel
theorem d_jdk_42_method_150_84 : decode jdk_42_method_150_code 84 = .ok (.aload_n 0, 1) := by decide +kernel
theorem d_jdk_42_method_150_85 : decode jdk_42_method_150_code 85 = .ok (.aload_n 3, 1) := by decide +kernel
theorem d_jdk_42_method_150_86 : decode jdk_42_method_150_code 86 = .ok (.iconst 0, 1) := by decide +kernel
theorem d_jdk_42_method_150_87 : decode jdk_42_method_150_code 87 = .ok (.iload 4, 2) := by decide +kernel
theorem d_jdk_42_method_150_89 : decode jdk_42_method_150_code 89 = .ok (.iconst 1, 1) := by decide +kernel
theorem d_jdk_42_method_150_90 : decode jdk_42_method_150_code 90 = .ok (.ishl, 1) := by decide +kernel
theorem d_jdk_42_method_150_91 : decode jdk_42_method_150_code 91 = .ok (.invokestatic 54, 3) := by decide +kernel
theorem d_jdk_42_method_150_94 : decode jdk_42_method_150_code 94 = .ok (.putfield 9, 3) := by decide +kernel
theorem d_jdk_42_method_53_0 : decode jdk_42_method_53_code 0 = .ok (.aload_n 0, 1) := by decide +kernel
theorem d_jdk_42_method_53_1 : decode jdk_42_method_53_code 1 = .ok (.aload_n 1, 1) := by decide +kernel
theorem d_jdk_42_method_53_2 : decode jdk_42_method_53_code 2 = .ok (.aconst_null, 1) := by decide +kernel
theorem d_jdk_42_method_53_3 : decode jdk_42_method_53_code 3 = .ok (.invokespecial 489, 3) := by decide +kernel
theorem d_jdk_42_method_53_6 : decode jdk_42_method_53_code 6 = .ok (.return_, 1) := by decide +kernel
theorem d_jdk_67_method_42_0 : decode jdk_67_method_42_code 0 = .ok (.new 18, 3) := by decide +kernel
theorem d_jdk_67_method_42_3 : decode jdk_67_method_42_code 3 = .ok (.dup, 1) := by decide +kernel
theorem d_jdk_67_method_42_4 : decode jdk_67_method_42_code 4 = .ok (.aload_n 0, 1) := by decide +kernel
theorem d_jdk_67_method_42_5 : decode jdk_67_method_42_code 5 = .ok (.invokespecial 137, 3) := by decide +kernel
theorem d_jdk_67_method_42_8 : decode jdk_67_method_42_code 8 = .ok (.areturn, 1) := by decide +kernel
theorem d_jdk_43_method_46_0 : decode jdk_43_method_46_code 0 = .ok (.iconst 1, 1) := by decide +kernel
theorem d_jdk_43_method_46_1 : decode jdk_43_method_46_code 1 = .ok (.newarray .byte, 2) := by decide +kernel
theorem d_jdk_43_method_46_3 : decode jdk_43_method_46_code 3 = .ok (.dup, 1) := by decide +kernel
theorem d_jdk_43_method_46_4 : decode jdk_43_method_46_code 4 = .ok (.iconst 0, 1) := by decide +kernel
theorem d_jdk_43_method_46_5 : decode jdk_43_method_46_code 5 = .ok (.iload_n 0, 1) := by decide +kernel
theorem d_jdk_43_method_46_6 : decode jdk_43_method_46_code 6 = .ok (.i2b, 1) := by decide +kernel
theorem d_jdk_43_method_46_7 : decode jdk_43_method_46_code 7 = .ok (.bastore, 1) := by decide +kernel
theorem d_jdk_43_method_46_8 : decode jdk_43_method_46_code 8 = .ok (.areturn, 1) := by decide +kernel
theorem d_jdk_42_method_151_0 : decode jdk_42_method_151_code 0 = .ok (.aload_n 0, 1) := by decide +kernel
theorem d_jdk_42_method_151_1 : decode jdk_42_method_151_code 1 = .ok (.invokespecial 1, 3) := by decide +kernel
theorem d_jdk_42_method_151_4 : decode jdk_42_method_151_code 4 = .ok (.aload_n 0, 1) := by decide +kernel
theorem d_jdk_42_method_151_5 : decode jdk_42_method_151_code 5 = .ok (.aload_n 1, 1) := by decide +kernel
theorem d_jdk_42_method_151_6 : decode jdk_42_method_151_code 6 = .ok (.putfield 9, 3) := by decide +kernel
theorem d_jdk_42_method_151_9 : decode jdk_42_method_151_code 9 = .ok (.aload_n 0, 1) := by decide +kernel
theorem d_jdk_42_method_151_10 : decode jdk_42_method_151_code 10 = .ok (.iload_n 2, 1) := by decide +kernel
theorem d_jdk_42_method_151_11 : decode jdk_42_method_151_code 11 = .ok (.putfield 15, 3) := by decide +kernel
theorem d_jdk_42_method_151_14 : decode jdk_42_method_151_code 14 = .ok (.return_, 1) := by decide +kernel
theorem d_jdk_52_method_24_0 : decode jdk_52_method_24_code 0 = .ok (.iconst 2, 1) := by decide +kernel
theorem d_jdk_52_method_24_1 : decode jdk_52_method_24_code 1 = .ok (.newarray .byte, 2) := by decide +kernel
theorem d_jdk_52_method_24_3 : decode jdk_52_method_24_code 3 = .ok (.astore_n 1, 1) := by decide +kernel
theorem d_jdk_52_method_24_4 : decode jdk_52_method_24_code 4 = .ok (.aload_n 1, 1) := by decide +kernel
theorem d_jdk_52_method_24_5 : decode jdk_52_method_24_code 5 = .ok (.iconst 0, 1) := by decide +kernel
theorem d_jdk_52_method_24_6 : decode jdk_52_method_24_code 6 = .ok (.iload_n 0, 1) := by decide +kernel
theorem d_jdk_52_method_24_7 : decode jdk_52_method_24_code 7 = .ok (.invokestatic 111, 3) := by decide +kernel
theorem d_jdk_52_method_24_10 : decode jdk_52_method_24_code 10 = .ok (.aload_n 1, 1) := by decide +kernel
theorem d_jdk_52_method_24_11 : decode jdk_52_method_24_code 11 = .ok (.areturn, 1) := by decide +kernel
theorem d_jdk_42_method_139_0 : decode jdk_42_method_139_code 0 = .ok (.getstatic 38, 3) := by decide +kernel
theorem d_jdk_42_method_139_3 : decode jdk_42_method_139_code 3 = .ok (.ifCond .eq 23, 3) := by decide +kernel
theorem d_jdk_42_method_139_6 : decode jdk_42_method_139_code 6 = .ok (.iload_n 0, 1) := by decide +kernel
theorem d_jdk_42_method_139_7 : decode jdk_42_method_139_code 7 = .ok (.invokestatic 1015, 3) := by decide +kernel
theorem d_jdk_42_method_139_10 : decode jdk_42_method_139_code 10 = .ok (.ifCond .eq 16, 3) := by decide +kernel
theorem d_jdk_42_method_139_13 : decode jdk_42_method_139_code 13 = .ok (.new 10, 3) := by decide +kernel
theorem d_jdk_42_method_139_16 : decode jdk_42_method_139_code 16 = .ok (.dup, 1) := by decide +kernel
theorem d_jdk_42_method_139_17 : decode jdk_42_method_139_code 17 = .ok (.iload_n 0, 1) := by decide +kernel
theorem d_jdk_42_method_139_18 : decode jdk_42_method_139_code 18 = .ok (.invokestatic 1018, 3) := by decide +kernel
theorem d_jdk_42_method_139_21 : decode jdk_42_method_139_code 21 = .ok (.iconst 0, 1) := by decide +kernel
theorem d_jdk_42_method_139_22 : decode jdk_42_method_139_code 22 = .ok (.invokespecial 209, 3) := by decide +kernel
theorem d_jdk_42_method_139_25 : decode jdk_42_method_139_code 25 = .ok (.areturn, 1) := by decide +kernel
theorem d_jdk_42_method_139_26 : decode jdk_42_method_139_code 26 = .ok (.new 10, 3) := by decide +kernel
theorem d_jdk_42_method_139_29 : decode jdk_42_method_139_code 29 = .ok (.dup, 1) := by decide +kernel
theorem d_jdk_42_method_139_30 : decode jdk_42_method_139_code 30 = .ok (.iload_n 0, 1) := by decide +kernel
theorem d_jdk_42_method_139_31 : decode jdk_42_method_139_code 31 = .ok (.invokestatic 1021, 3) := by decide +kernel
theorem d_jdk_42_method_139_34 : decode jdk_42_method_139_code 34 = .ok (.iconst 1, 1) := by decide +kernel
theorem d_jdk_42_method_139_35 : decode jdk_42_method_139_code 35 = .ok (.invokespecial 209, 3) := by decide +kernel
theorem d_jdk_42_method_139_38 : decode jdk_42_method_139_code 38 = .ok (.areturn, 1) := by decide +kernel
theorem d_jdk_42_method_154_0 : decode jdk_42_method_154_code 0 = .ok (.getstatic 38, 3) := by decide +kernel
theorem d_jdk_42_method_154_3 : decode jdk_42_method_154_code 3 = .ok (.ifCond .eq 14, 3) := by decide +kernel
theorem d_jdk_42_method_154_6 : decode jdk_42_method_154_code 6 = .ok (.aload_n 0, 1) := by decide +kernel
theorem d_jdk_42_method_154_7 : decode jdk_42_method_154_code 7 = .ok (.getfield 15, 3) := by decide +kernel
theorem d_jdk_42_method_154_10 : decode jdk_42_method_154_code 10 = .ok (.ifCond .ne 7, 3) := by decide +kernel
theorem d_jdk_42_method_154_13 : decode jdk_42_method_154_code 13 = .ok (.iconst 1, 1) := by decide +kernel
theorem d_jdk_42_method_154_14 : decode jdk_42_method_154_code 14 = .ok (.goto 4, 3) := by decide +kernel
theorem d_jdk_42_method_154_18 : decode jdk_42_method_154_code 18 = .ok (.ireturn, 1) := by decide +kernel
theorem d_jdk_42_method_154_17 : decode jdk_42_method_154_code 17 = .ok (.iconst 0, 1) := by decide +kernel
theorem d_jdk_43_method_2_0 : decode jdk_43_method_2_code 0 = .ok (.iload_n 1, 1) := by decide +kernel
theorem d_jdk_43_method_2_1 : decode jdk_43_method_2_code 1 = .ok (.aload_n 0, 1) := by decide +kernel
theorem d_jdk_43_method_2_2 : decode jdk_43_method_2_code 2 = .ok (.arraylength, 1) := by decide +kernel
theorem d_jdk_43_method_2_3 : decode jdk_43_method_2_code 3 = .ok (.invokestatic 9, 3) := by decide +kernel
theorem d_jdk_43_method_2_6 : decode jdk_43_method_2_code 6 = .ok (.aload_n 0, 1) := by decide +kernel
theorem d_jdk_43_method_2_7 : decode jdk_43_method_2_code 7 = .ok (.iload_n 1, 1) := by decide +kernel
theorem d_jdk_43_method_2_8 : decode jdk_43_method_2_code 8 = .ok (.baload, 1) := by decide +kernel
theorem d_jdk_43_method_2_9 : decode jdk_43_method_2_code 9 = .ok (.sipush 255, 3) := by decide +kernel
theorem d_jdk_43_method_2_12 : decode jdk_43_method_2_code 12 = .ok (.iand, 1) := by decide +kernel
theorem d_jdk_43_method_2_13 : decode jdk_43_method_2_code 13 = .ok (.i2c, 1) := by decide +kernel
theorem d_jdk_43_method_2_14 : decode jdk_43_method_2_code 14 = .ok (.ireturn, 1) := by decide +kernel
theorem d_jdk_42_method_56_0 : decode jdk_42_method_56_code 0 = .ok (.aload_n 0, 1) := by decide +kernel
theorem d_jdk_42_method_56_1 : decode jdk_42_method_56_code 1 = .ok (.invokevirtual 492, 3) := by decide +kernel
theorem d_jdk_42_method_56_4 : decode jdk_42_method_56_code 4 = .ok (.ifCond .eq 12, 3) := by decide +kernel
theorem d_jdk_42_method_56_7 : decode jdk_42_method_56_code 7 = .ok (.aload_n 0, 1) := by decide +kernel
theorem d_jdk_42_method_56_8 : decode jdk_42_method_56_code 8 = .ok (.getfield 9, 3) := by decide +kernel
theorem d_jdk_42_method_56_11 : decode jdk_42_method_56_code 11 = .ok (.iload_n 1, 1) := by decide +kernel
theorem d_jdk_42_method_56_12 : decode jdk_42_method_56_code 12 = .ok (.invokestatic 495, 3) := by decide +kernel
theorem d_jdk_42_method_56_15 : decode jdk_42_method_56_code 15 = .ok (.ireturn, 1) := by decide +kernel
theorem d_jdk_42_method_56_16 : decode jdk_42_method_56_code 16 = .ok (.aload_n 0, 1) := by decide +kernel
theorem d_jdk_42_method_56_17 : decode jdk_42_method_56_code 17 = .ok (.getfield 9, 3) := by decide +kernel
theorem d_jdk_42_method_56_20 : decode jdk_42_method_56_code 20 = .ok (.iload_n 1, 1) := by decide +kernel
theorem d_jdk_42_method_56_21 : decode jdk_42_method_56_code 21 = .ok (.invokestatic 498, 3) := by decide +kernel
theorem d_jdk_42_method_56_24 : decode jdk_42_method_56_code 24 = .ok (.ireturn, 1) := by decide +kernel
theorem d_jdk_52_method_21_0 : decode jdk_52_method_21_code 0 = .ok (.iconst 0, 1) := by decide +kernel
theorem d_jdk_52_method_21_1 : decode jdk_52_method_21_code 1 = .ok (.istore 5, 2) := by decide +kernel
theorem d_jdk_52_method_21_3 : decode jdk_52_method_21_code 3 = .ok (.iload 5, 2) := by decide +kernel
theorem d_jdk_52_method_21_5 : decode jdk_52_method_21_code 5 = .ok (.iload 4, 2) := by decide +kernel
theorem d_jdk_52_method_21_7 : decode jdk_52_method_21_code 7 = .ok (.if_icmp .ge 37, 3) := by decide +kernel
theorem d_jdk_52_method_21_44 : decode jdk_52_method_21_code 44 = .ok (.iload 4, 2) := by decide +kernel
theorem d_jdk_52_method_21_46 : decode jdk_52_method_21_code 46 = .ok (.ireturn, 1) := by decide +kernel
theorem d_jdk_52_method_21_10 : decode jdk_52_method_21_code 10 = .ok (.aload_n 0, 1) := by decide +kernel
theorem d_jdk_52_method_21_11 : decode jdk_52_method_21_code 11 = .ok (.iload_n 1, 1) := by decide +kernel
theorem d_jdk_52_method_21_12 : decode jdk_52_method_21_code 12 = .ok (.caload, 1) := by decide +kernel
theorem d_jdk_52_method_21_13 : decode jdk_52_method_21_code 13 = .ok (.istore 6, 2) := by decide +kernel
theorem d_jdk_52_method_21_15 : decode jdk_52_method_21_code 15 = .ok (.iload 6, 2) := by decide +kernel
theorem d_jdk_52_method_21_17 : decode jdk_52_method_21_code 17 = .ok (.sipush 255, 3) := by decide +kernel
theorem d_jdk_52_method_21_20 : decode jdk_52_method_21_code 20 = .ok (.if_icmp .le 6, 3) := by decide +kernel
theorem d_jdk_52_method_21_26 : decode jdk_52_method_21_code 26 = .ok (.aload_n 2, 1) := by decide +kernel
theorem d_jdk_52_method_21_27 : decode jdk_52_method_21_code 27 = .ok (.iload_n 3, 1) := by decide +kernel
theorem d_jdk_52_method_21_28 : decode jdk_52_method_21_code 28 = .ok (.iload 6, 2) := by decide +kernel
theorem d_jdk_52_method_21_30 : decode jdk_52_method_21_code 30 = .ok (.i2b, 1) := by decide +kernel
theorem d_jdk_52_method_21_31 : decode jdk_52_method_21_code 31 = .ok (.bastore, 1) := by decide +kernel
theorem d_jdk_52_method_21_32 : decode jdk_52_method_21_code 32 = .ok (.iinc 1 1, 3) := by decide +kernel
theorem d_jdk_52_method_21_35 : decode jdk_52_method_21_code 35 = .ok (.iinc 3 1, 3) := by decide +kernel
theorem d_jdk_52_method_21_38 : decode jdk_52_method_21_code 38 = .ok (.iinc 5 1, 3) := by decide +kernel
theorem d_jdk_52_method_21_41 : decode jdk_52_method_21_code 41 = .ok (.goto (-38), 3) := by decide +kernel
theorem d_jdk_52_method_21_23 : decode jdk_52_method_21_code 23 = .ok (.iload 5, 2) := by decide +kernel
theorem d_jdk_52_method_21_25 : decode jdk_52_method_21_code 25 = .ok (.ireturn, 1) := by decide +kernel
theorem d_jdk_52_method_14_0 : decode jdk_52_method_14_code 0 = .ok (.iload_n 2, 1) := by decide +kernel
theorem d_jdk_52_method_14_1 : decode jdk_52_method_14_code 1 = .ok (.invokestatic 107, 3) := by decide +kernel
theorem d_jdk_52_method_14_4 : decode jdk_52_method_14_code 4 = .ok (.astore_n 3, 1) := by decide +kernel
theorem d_jdk_52_method_14_5 : decode jdk_52_method_14_code 5 = .ok (.iconst 0, 1) := by decide +kernel
theorem d_jdk_52_method_14_6 : decode jdk_52_method_14_code 6 = .ok (.istore 4, 2) := by decide +kernel
theorem d_jdk_52_method_14_8 : decode jdk_52_method_14_code 8 = .ok (.iload 4, 2) := by decide +kernel
theorem d_jdk_52_method_14_10 : decode jdk_52_method_14_code 10 = .ok (.iload_n 2, 1) := by decide +kernel
theorem d_jdk_52_method_14_11 : decode jdk_52_method_14_code 11 = .ok (.if_icmp .ge 21, 3) := by decide +kernel
theorem d_jdk_52_method_14_32 : decode jdk_52_method_14_code 32 = .ok (.aload_n 3, 1) := by decide +kernel
theorem d_jdk_52_method_14_33 : decode jdk_52_method_14_code 33 = .ok (.areturn, 1) := by decide +kernel
theorem d_jdk_52_method_14_14 : decode jdk_52_method_14_code 14 = .ok (.aload_n 3, 1) := by decide +kernel
theorem d_jdk_52_method_14_15 : decode jdk_52_method_14_code 15 = .ok (.iload 4, 2) := by decide +kernel
theorem d_jdk_52_method_14_17 : decode jdk_52_method_14_code 17 = .ok (.aload_n 0, 1) := by decide +kernel
theorem d_jdk_52_method_14_18 : decode jdk_52_method_14_code 18 = .ok (.iload_n 1, 1) := by decide +kernel
theorem d_jdk_52_method_14_19 : decode jdk_52_method_14_code 19 = .ok (.caload, 1) := by decide +kernel
theorem d_jdk_52_method_14_20 : decode jdk_52_method_14_code 20 = .ok (.invokestatic 111, 3) := by decide +kernel
theorem d_jdk_52_method_14_23 : decode jdk_52_method_14_code 23 = .ok (.iinc 1 1, 3) := by decide +kernel
theorem d_jdk_52_method_14_26 : decode jdk_52_method_14_code 26 = .ok (.iinc 4 1, 3) := by decide +kernel
theorem d_jdk_52_method_14_29 : decode jdk_52_method_14_code 29 = .ok (.goto (-21), 3) := by decide +kernel
theorem d_jdk_52_method_16_0 : decode jdk_52_method_16_code 0 = .ok (.iload_n 2, 1) := by decide +kernel
theorem d_jdk_52_method_16_1 : decode jdk_52_method_16_code 1 = .ok (.newarray .byte, 2) := by decide +kernel
theorem d_jdk_52_method_16_3 : decode jdk_52_method_16_code 3 = .ok (.astore_n 3, 1) := by decide +kernel
theorem d_jdk_52_method_16_4 : decode jdk_52_method_16_code 4 = .ok (.aload_n 0, 1) := by decide +kernel
theorem d_jdk_52_method_16_5 : decode jdk_52_method_16_code 5 = .ok (.iload_n 1, 1) := by decide +kernel
theorem d_jdk_52_method_16_6 : decode jdk_52_method_16_code 6 = .ok (.aload_n 3, 1) := by decide +kernel
theorem d_jdk_52_method_16_7 : decode jdk_52_method_16_code 7 = .ok (.iconst 0, 1) := by decide +kernel
theorem d_jdk_52_method_16_8 : decode jdk_52_method_16_code 8 = .ok (.iload_n 2, 1) := by decide +kernel
theorem d_jdk_52_method_16_9 : decode jdk_52_method_16_code 9 = .ok (.invokestatic 115, 3) := by decide +kernel
theorem d_jdk_52_method_16_12 : decode jdk_52_method_16_code 12 = .ok (.istore 4, 2) := by decide +kernel
theorem d_jdk_52_method_16_14 : decode jdk_52_method_16_code 14 = .ok (.iload 4, 2) := by decide +kernel
theorem d_jdk_52_method_16_16 : decode jdk_52_method_16_code 16 = .ok (.iload_n 2, 1) := by decide +kernel
theorem d_jdk_52_method_16_17 : decode jdk_52_method_16_code 17 = .ok (.if_icmp .eq 40, 3) := by decide +kernel
theorem d_jdk_52_method_16_57 : decode jdk_52_method_16_code 57 = .ok (.aload_n 3, 1) := by decide +kernel
theorem d_jdk_52_method_16_58 : decode jdk_52_method_16_code 58 = .ok (.areturn, 1) := by decide +kernel
theorem d_jdk_52_method_16_20 : decode jdk_52_method_16_code 20 = .ok (.aload_n 0, 1) := by decide +kernel
theorem d_jdk_52_method_16_21 : decode jdk_52_method_16_code 21 = .ok (.iload_n 1, 1) := by decide +kernel
theorem d_jdk_52_method_16_22 : decode jdk_52_method_16_code 22 = .ok (.iload_n 2, 1) := by decide +kernel
theorem d_jdk_52_method_16_23 : decode jdk_52_method_16_code 23 = .ok (.invokestatic 119, 3) := by decide +kernel
theorem d_jdk_52_method_16_26 : decode jdk_52_method_16_code 26 = .ok (.astore 5, 2) := by decide +kernel
theorem d_jdk_52_method_16_28 : decode jdk_52_method_16_code 28 = .ok (.aload 5, 2) := by decide +kernel
theorem d_jdk_52_method_16_30 : decode jdk_52_method_16_code 30 = .ok (.iload 4, 2) := by decide +kernel
theorem d_jdk_52_method_16_32 : decode jdk_52_method_16_code 32 = .ok (.invokestatic 71, 3) := by decide +kernel
theorem d_jdk_52_method_16_35 : decode jdk_52_method_16_code 35 = .ok (.sipush 255, 3) := by decide +kernel
theorem d_jdk_52_method_16_38 : decode jdk_52_method_16_code 38 = .ok (.if_icmp .gt 16, 3) := by decide +kernel
theorem d_jdk_52_method_16_54 : decode jdk_52_method_16_code 54 = .ok (.aload 5, 2) := by decide +kernel
theorem d_jdk_52_method_16_56 : decode jdk_52_method_16_code 56 = .ok (.areturn, 1) := by decide +kernel
theorem d_jdk_52_method_15_0 : decode jdk_52_method_15_code 0 = .ok (.iload_n 1, 1) := by decide +kernel
theorem d_jdk_52_method_15_1 : decode jdk_52_method_15_code 1 = .ok (.aload_n 0, 1) := by decide +kernel
theorem d_jdk_52_method_15_2 : decode jdk_52_method_15_code 2 = .ok (.arraylength, 1) := by decide +kernel
theorem d_jdk_52_method_15_3 : decode jdk_52_method_15_code 3 = .ok (.isub, 1) := by decide +kernel
theorem d_jdk_52_method_15_4 : decode jdk_52_method_15_code 4 = .ok (.bipush 31, 2) := by decide +kernel
theorem d_jdk_52_method_15_6 : decode jdk_52_method_15_code 6 = .ok (.iushr, 1) := by decide +kernel
theorem d_jdk_52_method_15_7 : decode jdk_52_method_15_code 7 = .ok (.i2b, 1) := by decide +kernel
theorem d_jdk_52_method_15_8 : decode jdk_52_method_15_code 8 = .ok (.ireturn, 1) := by decide +kernel
theorem d_jdk_42_method_149_0 : decode jdk_42_method_149_code 0 = .ok (.aload_n 0, 1) := by decide +kernel
theorem d_jdk_42_method_149_1 : decode jdk_42_method_149_code 1 = .ok (.invokespecial 1, 3) := by decide +kernel
theorem d_jdk_42_method_149_4 : decode jdk_42_method_149_code 4 = .ok (.iload_n 3, 1) := by decide +kernel
theorem d_jdk_42_method_149_5 : decode jdk_42_method_149_code 5 = .ok (.ifCond .ne 22, 3) := by decide +kernel
theorem d_jdk_42_method_149_8 : decode jdk_42_method_149_code 8 = .ok (.aload_n 0, 1) := by decide +kernel
theorem d_jdk_42_method_149_9 : decode jdk_42_method_149_code 9 = .ok (.ldc 7, 2) := by decide +kernel
theorem d_jdk_42_method_149_11 : decode jdk_42_method_149_code 11 = .ok (.getfield 9, 3) := by decide +kernel
theorem d_jdk_42_method_149_14 : decode jdk_42_method_149_code 14 = .ok (.putfield 9, 3) := by decide +kernel
theorem d_jdk_42_method_149_17 : decode jdk_42_method_149_code 17 = .ok (.aload_n 0, 1) := by decide +kernel
theorem d_jdk_42_method_149_18 : decode jdk_42_method_149_code 18 = .ok (.ldc 7, 2) := by decide +kernel
theorem d_jdk_42_method_149_20 : decode jdk_42_method_149_code 20 = .ok (.getfield 15, 3) := by decide +kernel
theorem d_jdk_42_method_149_23 : decode jdk_42_method_149_code 23 = .ok (.putfield 15, 3) := by decide +kernel
theorem d_jdk_42_method_149_26 : decode jdk_42_method_149_code 26 = .ok (.return_, 1) := by decide +kernel
theorem d_jdk_42_method_149_27 : decode jdk_42_method_149_code 27 = .ok (.getstatic 38, 3) := by decide +kernel
theorem d_jdk_42_method_149_30 : decode jdk_42_method_149_code 30 = .ok (.ifCond .eq 28, 3) := by decide +kernel
theorem d_jdk_42_method_149_33 : decode jdk_42_method_149_code 33 = .ok (.aload_n 1, 1) := by decide +kernel
theorem d_jdk_42_method_149_34 : decode jdk_42_method_149_code 34 = .ok (.iload_n 2, 1) := by decide +kernel
theorem d_jdk_42_method_149_35 : decode jdk_42_method_149_code 35 = .ok (.iload_n 3, 1) := by decide +kernel
theorem d_jdk_42_method_149_36 : decode jdk_42_method_149_code 36 = .ok (.invokestatic 177, 3) := by decide +kernel
theorem d_jdk_42_method_149_39 : decode jdk_42_method_149_code 39 = .ok (.astore 5, 2) := by decide +kernel
theorem d_jdk_42_method_149_41 : decode jdk_42_method_149_code 41 = .ok (.aload_n 0, 1) := by decide +kernel
theorem d_jdk_42_method_149_42 : decode jdk_42_method_149_code 42 = .ok (.aload 5, 2) := by decide +kernel
theorem d_jdk_42_method_149_44 : decode jdk_42_method_149_code 44 = .ok (.iload_n 3, 1) := by decide +kernel
theorem d_jdk_42_method_149_45 : decode jdk_42_method_149_code 45 = .ok (.invokestatic 47, 3) := by decide +kernel
theorem d_jdk_42_method_149_48 : decode jdk_42_method_149_code 48 = .ok (.putfield 15, 3) := by decide +kernel
theorem d_jdk_42_method_149_51 : decode jdk_42_method_149_code 51 = .ok (.aload_n 0, 1) := by decide +kernel
theorem d_jdk_42_method_149_52 : decode jdk_42_method_149_code 52 = .ok (.aload 5, 2) := by decide +kernel
theorem d_jdk_42_method_149_54 : decode jdk_42_method_149_code 54 = .ok (.putfield 9, 3) := by decide +kernel
theorem d_jdk_42_method_149_57 : decode jdk_42_method_149_code 57 = .ok (.return_, 1) := by decide +kernel
theorem d_jdk_42_method_3_0 : decode jdk_42_method_3_code 0 = .ok (.aload_n 0, 1) := by decide +kernel
theorem d_jdk_42_method_3_1 : decode jdk_42_method_3_code 1 = .ok (.aload_n 1, 1) := by decide +kernel
theorem d_jdk_42_method_3_2 : decode jdk_42_method_3_code 2 = .ok (.iconst 0, 1) := by decide +kernel
theorem d_jdk_42_method_3_3 : decode jdk_42_method_3_code 3 = .ok (.aload_n 1, 1) := by decide +kernel
theorem d_jdk_42_method_3_4 : decode jdk_42_method_3_code 4 = .ok (.arraylength, 1) := by decide +kernel
theorem d_jdk_42_method_3_5 : decode jdk_42_method_3_code 5 = .ok (.aconst_null, 1) := by decide +kernel
theorem d_jdk_42_method_3_6 : decode jdk_42_method_3_code 6 = .ok (.invokespecial 27, 3) := by decide +kernel
theorem d_jdk_42_method_3_9 : decode jdk_42_method_3_code 9 = .ok (.return_, 1) := by decide +kernel
theorem d_method_3_0 : decode method_3_code 0 = .ok (.iload_n 0, 1) := by decide +kernel
theorem d_method_3_1 : decode method_3_code 1 = .ok (.bipush 7, 2) := by decide +kernel
theorem d_method_3_3 : decode method_3_code 3 = .ok (.iand, 1) := by decide +kernel
theorem d_method_3_4 : decode method_3_code 4 = .ok (.istore_n 1, 1) := by decide +kernel
theorem d_method_3_5 : decode method_3_code 5 = .ok (.iload_n 1, 1) := by decide +kernel
theorem d_method_3_6 : decode method_3_code 6 = .ok (.ifCond .ne 6, 3) := by decide +kernel
theorem d_method_3_9 : decode method_3_code 9 = .ok (.bipush 38, 2) := by decide +kernel
theorem d_method_3_11 : decode method_3_code 11 = .ok (.ireturn, 1) := by decide +kernel
theorem d_method_3_12 : decode method_3_code 12 = .ok (.iload_n 1, 1) := by decide +kernel
theorem d_method_3_13 : decode method_3_code 13 = .ok (.iconst 1, 1) := by decide +kernel
theorem d_method_3_14 : decode method_3_code 14 = .ok (.if_icmp .ne 6, 3) := by decide +kernel
theorem d_method_3_17 : decode method_3_code 17 = .ok (.bipush 60, 2) := by decide +kernel
theorem d_method_3_19 : decode method_3_code 19 = .ok (.ireturn, 1) := by decide +kernel
theorem d_method_3_20 : decode method_3_code 20 = .ok (.iload_n 1, 1) := by decide +kernel
theorem d_method_3_21 : decode method_3_code 21 = .ok (.iconst 2, 1) := by decide +kernel
theorem d_method_3_22 : decode method_3_code 22 = .ok (.if_icmp .ne 6, 3) := by decide +kernel
theorem d_method_3_25 : decode method_3_code 25 = .ok (.bipush 62, 2) := by decide +kernel
theorem d_method_3_27 : decode method_3_code 27 = .ok (.ireturn, 1) := by decide +kernel
theorem d_method_3_28 : decode method_3_code 28 = .ok (.iload_n 1, 1) := by decide +kernel
theorem d_method_3_29 : decode method_3_code 29 = .ok (.iconst 3, 1) := by decide +kernel
theorem d_method_3_30 : decode method_3_code 30 = .ok (.if_icmp .ne 6, 3) := by decide +kernel
theorem d_method_3_33 : decode method_3_code 33 = .ok (.bipush 34, 2) := by decide +kernel
theorem d_method_3_35 : decode method_3_code 35 = .ok (.ireturn, 1) := by decide +kernel
theorem d_method_3_36 : decode method_3_code 36 = .ok (.iload_n 1, 1) := by decide +kernel
theorem d_method_3_37 : decode method_3_code 37 = .ok (.iconst 4, 1) := by decide +kernel
theorem d_method_3_38 : decode method_3_code 38 = .ok (.if_icmp .ne 6, 3) := by decide +kernel
theorem d_method_3_41 : decode method_3_code 41 = .ok (.bipush 39, 2) := by decide +kernel
theorem d_method_3_43 : decode method_3_code 43 = .ok (.ireturn, 1) := by decide +kernel
theorem d_method_3_44 : decode method_3_code 44 = .ok (.iload_n 0, 1) := by decide +kernel
theorem d_method_3_45 : decode method_3_code 45 = .ok (.iconst 3, 1) := by decide +kernel
theorem d_method_3_46 : decode method_3_code 46 = .ok (.iushr, 1) := by decide +kernel
theorem d_method_3_47 : decode method_3_code 47 = .ok (.i2c, 1) := by decide +kernel
theorem d_method_3_48 : decode method_3_code 48 = .ok (.ireturn, 1) := by decide +kernel
theorem d_method_4_0 : decode method_4_code 0 = .ok (.iload_n 0, 1) := by decide +kernel
theorem d_method_4_1 : decode method_4_code 1 = .ok (.bipush 38, 2) := by decide +kernel
theorem d_method_4_3 : decode method_4_code 3 = .ok (.if_icmp .ne 6, 3) := by decide +kernel
theorem d_method_4_6 : decode method_4_code 6 = .ok (.ldc 38, 2) := by decide +kernel
theorem d_method_4_8 : decode method_4_code 8 = .ok (.areturn, 1) := by decide +kernel
theorem d_method_4_9 : decode method_4_code 9 = .ok (.iload_n 0, 1) := by decide +kernel
theorem d_method_4_10 : decode method_4_code 10 = .ok (.bipush 60, 2) := by decide +kernel
theorem d_method_4_12 : decode method_4_code 12 = .ok (.if_icmp .ne 6, 3) := by decide +kernel
theorem d_method_4_15 : decode method_4_code 15 = .ok (.ldc 40, 2) := by decide +kernel
theorem d_method_4_17 : decode method_4_code 17 = .ok (.areturn, 1) := by decide +kernel
theorem d_method_4_18 : decode method_4_code 18 = .ok (.iload_n 0, 1) := by decide +kernel
theorem d_method_4_19 : decode method_4_code 19 = .ok (.bipush 62, 2) := by decide +kernel
theorem d_method_4_21 : decode method_4_code 21 = .ok (.if_icmp .ne 6, 3) := by decide +kernel
theorem d_method_4_24 : decode method_4_code 24 = .ok (.ldc 42, 2) := by decide +kernel
theorem d_method_4_26 : decode method_4_code 26 = .ok (.areturn, 1) := by decide +kernel
theorem d_method_4_27 : decode method_4_code 27 = .ok (.iload_n 0, 1) := by decide +kernel
theorem d_method_4_28 : decode method_4_code 28 = .ok (.bipush 34, 2) := by decide +kernel
theorem d_method_4_30 : decode method_4_code 30 = .ok (.if_icmp .ne 6, 3) := by decide +kernel
theorem d_method_4_33 : decode method_4_code 33 = .ok (.ldc 44, 2) := by decide +kernel
theorem d_method_4_35 : decode method_4_code 35 = .ok (.areturn, 1) := by decide +kernel
theorem d_method_4_36 : decode method_4_code 36 = .ok (.iload_n 0, 1) := by decide +kernel
theorem d_method_4_37 : decode method_4_code 37 = .ok (.bipush 39, 2) := by decide +kernel
theorem d_method_4_39 : decode method_4_code 39 = .ok (.if_icmp .ne 6, 3) := by decide +kernel
theorem d_method_4_42 : decode method_4_code 42 = .ok (.ldc 46, 2) := by decide +kernel
theorem d_method_4_44 : decode method_4_code 44 = .ok (.areturn, 1) := by decide +kernel
theorem d_method_4_45 : decode method_4_code 45 = .ok (.iload_n 0, 1) := by decide +kernel
theorem d_method_4_46 : decode method_4_code 46 = .ok (.invokestatic 48, 3) := by decide +kernel
theorem d_method_4_49 : decode method_4_code 49 = .ok (.areturn, 1) := by decide +kernel
theorem d_method_5_147 : decode method_5_code 147 = .ok (.iconst 1, 1) := by decide +kernel
theorem d_method_5_148 : decode method_5_code 148 = .ok (.ireturn, 1) := by decide +kernel
theorem d_method_5_122 : decode method_5_code 122 = .ok (.aload_n 2, 1) := by decide +kernel
theorem d_method_5_123 : decode method_5_code 123 = .ok (.invokevirtual 30, 3) := by decide +kernel
theorem d_method_5_126 : decode method_5_code 126 = .ok (.iconst 5, 1) := by decide +kernel
theorem d_method_5_127 : decode method_5_code 127 = .ok (.if_icmp .le 20, 3) := by decide +kernel
theorem d_method_5_130 : decode method_5_code 130 = .ok (.aload_n 0, 1) := by decide +kernel
theorem d_method_5_131 : decode method_5_code 131 = .ok (.iload_n 1, 1) := by decide +kernel
theorem d_method_5_132 : decode method_5_code 132 = .ok (.iconst 5, 1) := by decide +kernel
theorem d_method_5_133 : decode method_5_code 133 = .ok (.iadd, 1) := by decide +kernel
theorem d_method_5_134 : decode method_5_code 134 = .ok (.invokevirtual 51, 3) := by decide +kernel
theorem d_method_5_137 : decode method_5_code 137 = .ok (.aload_n 2, 1) := by decide +kernel
theorem d_method_5_138 : decode method_5_code 138 = .ok (.iconst 5, 1) := by decide +kernel
theorem d_method_5_139 : decode method_5_code 139 = .ok (.invokevirtual 51, 3) := by decide +kernel
theorem d_method_5_142 : decode method_5_code 142 = .ok (.if_icmp .eq 5, 3) := by decide +kernel
theorem d_method_5_97 : decode method_5_code 97 = .ok (.aload_n 2, 1) := by decide +kernel
theorem d_method_5_98 : decode method_5_code 98 = .ok (.invokevirtual 30, 3) := by decide +kernel
theorem d_method_5_101 : decode method_5_code 101 = .ok (.iconst 4, 1) := by decide +kernel
theorem d_method_5_102 : decode method_5_code 102 = .ok (.if_icmp .le 20, 3) := by decide +kernel
theorem d_method_5_105 : decode method_5_code 105 = .ok (.aload_n 0, 1) := by decide +kernel
theorem d_method_5_106 : decode method_5_code 106 = .ok (.iload_n 1, 1) := by decide +kernel
theorem d_method_5_107 : decode method_5_code 107 = .ok (.iconst 4, 1) := by decide +kernel
theorem d_method_5_108 : decode method_5_code 108 = .ok (.iadd, 1) := by decide +kernel
theorem d_method_5_109 : decode method_5_code 109 = .ok (.invokevirtual 51, 3) := by decide +kernel
theorem d_method_5_112 : decode method_5_code 112 = .ok (.aload_n 2, 1) := by decide +kernel
theorem d_method_5_113 : decode method_5_code 113 = .ok (.iconst 4, 1) := by decide +kernel
theorem d_method_5_114 : decode method_5_code 114 = .ok (.invokevirtual 51, 3) := by decide +kernel
theorem d_method_5_117 : decode method_5_code 117 = .ok (.if_icmp .eq 5, 3) := by decide +kernel
theorem d_method_5_72 : decode method_5_code 72 = .ok (.aload_n 2, 1) := by decide +kernel
theorem d_method_5_73 : decode method_5_code 73 = .ok (.invokevirtual 30, 3) := by decide +kernel
theorem d_method_5_76 : decode method_5_code 76 = .ok (.iconst 3, 1) := by decide +kernel
theorem d_method_5_77 : decode method_5_code 77 = .ok (.if_icmp .le 20, 3) := by decide +kernel
theorem d_method_5_80 : decode method_5_code 80 = .ok (.aload_n 0, 1) := by decide +kernel
theorem d_method_5_81 : decode method_5_code 81 = .ok (.iload_n 1, 1) := by decide +kernel
theorem d_method_5_82 : decode method_5_code 82 = .ok (.iconst 3, 1) := by decide +kernel
theorem d_method_5_83 : decode method_5_code 83 = .ok (.iadd, 1) := by decide +kernel
theorem d_method_5_84 : decode method_5_code 84 = .ok (.invokevirtual 51, 3) := by decide +kernel
theorem d_method_5_87 : decode method_5_code 87 = .ok (.aload_n 2, 1) := by decide +kernel
theorem d_method_5_88 : decode method_5_code 88 = .ok (.iconst 3, 1) := by decide +kernel
theorem d_method_5_89 : decode method_5_code 89 = .ok (.invokevirtual 51, 3) := by decide +kernel
theorem d_method_5_92 : decode method_5_code 92 = .ok (.if_icmp .eq 5, 3) := by decide +kernel
theorem d_method_5_47 : decode method_5_code 47 = .ok (.aload_n 2, 1) := by decide +kernel
theorem d_method_5_48 : decode method_5_code 48 = .ok (.invokevirtual 30, 3) := by decide +kernel
theorem d_method_5_51 : decode method_5_code 51 = .ok (.iconst 2, 1) := by decide +kernel
theorem d_method_5_52 : decode method_5_code 52 = .ok (.if_icmp .le 20, 3) := by decide +kernel
theorem d_method_5_55 : decode method_5_code 55 = .ok (.aload_n 0, 1) := by decide +kernel
theorem d_method_5_56 : decode method_5_code 56 = .ok (.iload_n 1, 1) := by decide +kernel
theorem d_method_5_57 : decode method_5_code 57 = .ok (.iconst 2, 1) := by decide +kernel
theorem d_method_5_58 : decode method_5_code 58 = .ok (.iadd, 1) := by decide +kernel
theorem d_method_5_59 : decode method_5_code 59 = .ok (.invokevirtual 51, 3) := by decide +kernel
theorem d_method_5_62 : decode method_5_code 62 = .ok (.aload_n 2, 1) := by decide +kernel
theorem d_method_5_63 : decode method_5_code 63 = .ok (.iconst 2, 1) := by decide +kernel
theorem d_method_5_64 : decode method_5_code 64 = .ok (.invokevirtual 51, 3) := by decide +kernel
theorem d_method_5_67 : decode method_5_code 67 = .ok (.if_icmp .eq 5, 3) := by decide +kernel
theorem d_method_5_22 : decode method_5_code 22 = .ok (.aload_n 2, 1) := by decide +kernel
theorem d_method_5_23 : decode method_5_code 23 = .ok (.invokevirtual 30, 3) := by decide +kernel
theorem d_method_5_26 : decode method_5_code 26 = .ok (.iconst 1, 1) := by decide +kernel
theorem d_method_5_27 : decode method_5_code 27 = .ok (.if_icmp .le 20, 3) := by decide +kernel
theorem d_method_5_30 : decode method_5_code 30 = .ok (.aload_n 0, 1) := by decide +kernel
theorem d_method_5_31 : decode method_5_code 31 = .ok (.iload_n 1, 1) := by decide +kernel
theorem d_method_5_32 : decode method_5_code 32 = .ok (.iconst 1, 1) := by decide +kernel
theorem d_method_5_33 : decode method_5_code 33 = .ok (.iadd, 1) := by decide +kernel
theorem d_method_5_34 : decode method_5_code 34 = .ok (.invokevirtual 51, 3) := by decide +kernel
theorem d_method_5_37 : decode method_5_code 37 = .ok (.aload_n 2, 1) := by decide +kernel
theorem d_method_5_38 : decode method_5_code 38 = .ok (.iconst 1, 1) := by decide +kernel
theorem d_method_5_39 : decode method_5_code 39 = .ok (.invokevirtual 51, 3) := by decide +kernel
theorem d_method_5_42 : decode method_5_code 42 = .ok (.if_icmp .eq 5, 3) := by decide +kernel
theorem d_method_5_0 : decode method_5_code 0 = .ok (.aload_n 2, 1) := by decide +kernel
theorem d_method_5_1 : decode method_5_code 1 = .ok (.invokevirtual 30, 3) := by decide +kernel
theorem d_method_5_4 : decode method_5_code 4 = .ok (.ifCond .le 18, 3) := by decide +kernel
theorem d_method_5_7 : decode method_5_code 7 = .ok (.aload_n 0, 1) := by decide +kernel
theorem d_method_5_8 : decode method_5_code 8 = .ok (.iload_n 1, 1) := by decide +kernel
theorem d_method_5_9 : decode method_5_code 9 = .ok (.invokevirtual 51, 3) := by decide +kernel
theorem d_method_5_12 : decode method_5_code 12 = .ok (.aload_n 2, 1) := by decide +kernel
theorem d_method_5_13 : decode method_5_code 13 = .ok (.iconst 0, 1) := by decide +kernel
theorem d_method_5_14 : decode method_5_code 14 = .ok (.invokevirtual 51, 3) := by decide +kernel
theorem d_method_5_17 : decode method_5_code 17 = .ok (.if_icmp .eq 5, 3) := by decide +kernel
theorem d_prog_26_method_4_0 : decode prog_26_method_4_code 0 = .ok (.new 56, 3) := by decide +kernel
theorem d_prog_26_method_4_3 : decode prog_26_method_4_code 3 = .ok (.dup, 1) := by decide +kernel
theorem d_prog_26_method_4_4 : decode prog_26_method_4_code 4 = .ok (.aload_n 0, 1) := by decide +kernel
theorem d_prog_26_method_4_5 : decode prog_26_method_4_code 5 = .ok (.invokevirtual 58, 3) := by decide +kernel
theorem d_prog_26_method_4_8 : decode prog_26_method_4_code 8 = .ok (.invokespecial 62, 3) := by decide +kernel
theorem d_prog_26_method_4_11 : decode prog_26_method_4_code 11 = .ok (.astore_n 1, 1) := by decide +kernel
theorem d_prog_26_method_4_12 : decode prog_26_method_4_code 12 = .ok (.iconst 0, 1) := by decide +kernel
theorem d_prog_26_method_4_13 : decode prog_26_method_4_code 13 = .ok (.istore_n 2, 1) := by decide +kernel
theorem d_prog_26_method_4_14 : decode prog_26_method_4_code 14 = .ok (.iload_n 2, 1) := by decide +kernel
theorem d_prog_26_method_4_15 : decode prog_26_method_4_code 15 = .ok (.aload_n 0, 1) := by decide +kernel
theorem d_prog_26_method_4_16 : decode prog_26_method_4_code 16 = .ok (.invokevirtual 58, 3) := by decide +kernel
theorem d_prog_26_method_4_19 : decode prog_26_method_4_code 19 = .ok (.if_icmp .ge 123, 3) := by decide +kernel
theorem d_prog_26_method_4_142 : decode prog_26_method_4_code 142 = .ok (.aload_n 1, 1) := by decide +kernel
theorem d_prog_26_method_4_143 : decode prog_26_method_4_code 143 = .ok (.invokevirtual 86, 3) := by decide +kernel
theorem d_prog_26_method_4_146 : decode prog_26_method_4_code 146 = .ok (.areturn, 1) := by decide +kernel
theorem d_prog_26_method_4_22 : decode prog_26_method_4_code 22 = .ok (.aload_n 0, 1) := by decide +kernel
theorem d_prog_26_method_4_23 : decode prog_26_method_4_code 23 = .ok (.iload_n 2, 1) := by decide +kernel
theorem d_prog_26_method_4_24 : decode prog_26_method_4_code 24 = .ok (.invokevirtual 65, 3) := by decide +kernel
theorem d_prog_26_method_4_27 : decode prog_26_method_4_code 27 = .ok (.istore_n 3, 1) := by decide +kernel
theorem d_prog_26_method_4_28 : decode prog_26_method_4_code 28 = .ok (.iload_n 3, 1) := by decide +kernel
theorem d_prog_26_method_4_29 : decode prog_26_method_4_code 29 = .ok (.lookupswitch 101 #[(34, 81), (38, 51), (39, 91), (60, 61), (62, 71)], 51) := by decide +kernel
theorem d_prog_26_method_4_80 : decode prog_26_method_4_code 80 = .ok (.aload_n 1, 1) := by decide +kernel
theorem d_prog_26_method_4_81 : decode prog_26_method_4_code 81 = .ok (.ldc 69, 2) := by decide +kernel
theorem d_prog_26_method_4_83 : decode prog_26_method_4_code 83 = .ok (.invokevirtual 71, 3) := by decide +kernel
theorem d_prog_26_method_4_86 : decode prog_26_method_4_code 86 = .ok (.pop, 1) := by decide +kernel
theorem d_prog_26_method_4_87 : decode prog_26_method_4_code 87 = .ok (.goto 49, 3) := by decide +kernel
theorem d_prog_26_method_4_136 : decode prog_26_method_4_code 136 = .ok (.iinc 2 1, 3) := by decide +kernel
theorem d_prog_26_method_4_139 : decode prog_26_method_4_code 139 = .ok (.goto (-125), 3) := by decide +kernel
theorem d_prog_26_method_4_90 : decode prog_26_method_4_code 90 = .ok (.aload_n 1, 1) := by decide +kernel
theorem d_prog_26_method_4_91 : decode prog_26_method_4_code 91 = .ok (.ldc 75, 2) := by decide +kernel
theorem d_prog_26_method_4_93 : decode prog_26_method_4_code 93 = .ok (.invokevirtual 71, 3) := by decide +kernel
theorem d_prog_26_method_4_96 : decode prog_26_method_4_code 96 = .ok (.pop, 1) := by decide +kernel
theorem d_prog_26_method_4_97 : decode prog_26_method_4_code 97 = .ok (.goto 39, 3) := by decide +kernel
theorem d_prog_26_method_4_100 : decode prog_26_method_4_code 100 = .ok (.aload_n 1, 1) := by decide +kernel
theorem d_prog_26_method_4_101 : decode prog_26_method_4_code 101 = .ok (.ldc 77, 2) := by decide +kernel
theorem d_prog_26_method_4_103 : decode prog_26_method_4_code 103 = .ok (.invokevirtual 71, 3) := by decide +kernel
theorem d_prog_26_method_4_106 : decode prog_26_method_4_code 106 = .ok (.pop, 1) := by decide +kernel
theorem d_prog_26_method_4_107 : decode prog_26_method_4_code 107 = .ok (.goto 29, 3) := by decide +kernel
theorem d_prog_26_method_4_110 : decode prog_26_method_4_code 110 = .ok (.aload_n 1, 1) := by decide +kernel
theorem d_prog_26_method_4_111 : decode prog_26_method_4_code 111 = .ok (.ldc 79, 2) := by decide +kernel
theorem d_prog_26_method_4_113 : decode prog_26_method_4_code 113 = .ok (.invokevirtual 71, 3) := by decide +kernel
theorem d_prog_26_method_4_116 : decode prog_26_method_4_code 116 = .ok (.pop, 1) := by decide +kernel
theorem d_prog_26_method_4_117 : decode prog_26_method_4_code 117 = .ok (.goto 19, 3) := by decide +kernel
theorem d_prog_26_method_4_120 : decode prog_26_method_4_code 120 = .ok (.aload_n 1, 1) := by decide +kernel
theorem d_prog_26_method_4_121 : decode prog_26_method_4_code 121 = .ok (.ldc 81, 2) := by decide +kernel
theorem d_prog_26_method_4_123 : decode prog_26_method_4_code 123 = .ok (.invokevirtual 71, 3) := by decide +kernel
theorem d_prog_26_method_4_126 : decode prog_26_method_4_code 126 = .ok (.pop, 1) := by decide +kernel
theorem d_prog_26_method_4_127 : decode prog_26_method_4_code 127 = .ok (.goto 9, 3) := by decide +kernel
theorem d_prog_26_method_4_130 : decode prog_26_method_4_code 130 = .ok (.aload_n 1, 1) := by decide +kernel
theorem d_prog_26_method_4_131 : decode prog_26_method_4_code 131 = .ok (.iload_n 3, 1) := by decide +kernel
theorem d_prog_26_method_4_132 : decode prog_26_method_4_code 132 = .ok (.invokevirtual 83, 3) := by decide +kernel
theorem d_prog_26_method_4_135 : decode prog_26_method_4_code 135 = .ok (.pop, 1) := by decide +kernel
theorem pd_0 : parseMethodDescriptor "(I)V" = some ⟨[.int], none⟩ := by decide +kernel
theorem pd_1 : parseMethodDescriptor "()I" = some ⟨[], some .int⟩ := by decide +kernel
theorem pd_2 : parseMethodDescriptor "(II)I" = some ⟨[.int, .int], some .int⟩ := by decide +kernel
theorem pd_3 : parseMethodDescriptor "(III)I" = some ⟨[.int, .int, .int], some .int⟩ := by decide +kernel
theorem pd_4 : parseMethodDescriptor "(I)I" = some ⟨[.int], some .int⟩ := by decide +kernel
theorem pd_5 : parseMethodDescriptor "([BI)[B" = some ⟨[(.array .byte), .int], some (.array .byte)⟩ := by decide +kernel
theorem pd_6 : parseMethodDescriptor "(IILjava/util/function/BiFunction;)I" = some ⟨[.int, .int, (.object "java/util/function/BiFunction")], some .int⟩ := by decide +kernel
theorem pd_7 : parseMethodDescriptor "([B)I" = some ⟨[(.array .byte)], some .int⟩ := by decide +kernel
theorem pd_8 : parseMethodDescriptor "(II)V" = some ⟨[.int, .int], none⟩ := by decide +kernel
theorem pd_9 : parseMethodDescriptor "(I[B)V" = some ⟨[.int, (.array .byte)], none⟩ := by decide +kernel
theorem pd_10 : parseMethodDescriptor "([BI)C" = some ⟨[(.array .byte), .int], some .char⟩ := by decide +kernel
theorem pd_11 : parseMethodDescriptor "(IIILjava/util/function/BiFunction;)I" = some ⟨[.int, .int, .int, (.object "java/util/function/BiFunction")], some .int⟩ := by decide +kernel
theorem pd_12 : parseMethodDescriptor "(II[B)V" = some ⟨[.int, .int, (.array .byte)], none⟩ := by decide +kernel
theorem pd_13 : parseMethodDescriptor "([BII)V" = some ⟨[(.array .byte), .int, .int], none⟩ := by decide +kernel
theorem pd_14 : parseMethodDescriptor "([BI[BII)V" = some ⟨[(.array .byte), .int, (.array .byte), .int, .int], none⟩ := by decide +kernel
theorem pd_15 : parseMethodDescriptor "()Z" = some ⟨[], some .boolean⟩ := by decide +kernel
theorem pd_16 : parseMethodDescriptor "(I)[B" = some ⟨[.int], some (.array .byte)⟩ := by decide +kernel
theorem pd_17 : parseMethodDescriptor "(C)Z" = some ⟨[.char], some .boolean⟩ := by decide +kernel
theorem pd_18 : parseMethodDescriptor "()V" = some ⟨[], none⟩ := by decide +kernel
theorem pd_19 : parseMethodDescriptor "(C)Ljava/lang/AbstractStringBuilder;" = some ⟨[.char], some (.object "java/lang/AbstractStringBuilder")⟩ := by decide +kernel
theorem pd_20 : parseMethodDescriptor "()B" = some ⟨[], some .byte⟩ := by decide +kernel
theorem pd_21 : parseMethodDescriptor "(Ljava/lang/String;)V" = some ⟨[(.object "java/lang/String")], none⟩ := by decide +kernel
theorem pd_22 : parseMethodDescriptor "([BIB)V" = some ⟨[(.array .byte), .int, .byte], none⟩ := by decide +kernel
theorem pd_23 : parseMethodDescriptor "(ILjava/lang/String;)V" = some ⟨[.int, (.object "java/lang/String")], none⟩ := by decide +kernel
theorem pd_24 : parseMethodDescriptor "(Ljava/lang/String;)Ljava/lang/AbstractStringBuilder;" = some ⟨[(.object "java/lang/String")], some (.object "java/lang/AbstractStringBuilder")⟩ := by decide +kernel
theorem pd_25 : parseMethodDescriptor "([BII)[B" = some ⟨[(.array .byte), .int, .int], some (.array .byte)⟩ := by decide +kernel
theorem pd_26 : parseMethodDescriptor "()[B" = some ⟨[], some (.array .byte)⟩ := by decide +kernel
theorem pd_27 : parseMethodDescriptor "(Ljava/lang/AbstractStringBuilder;Ljava/lang/Void;)V" = some ⟨[(.object "java/lang/AbstractStringBuilder"), (.object "java/lang/Void")], none⟩ := by decide +kernel
theorem pd_28 : parseMethodDescriptor "(Ljava/lang/StringBuilder;)V" = some ⟨[(.object "java/lang/StringBuilder")], none⟩ := by decide +kernel
theorem pd_29 : parseMethodDescriptor "(C)[B" = some ⟨[.char], some (.array .byte)⟩ := by decide +kernel
theorem pd_30 : parseMethodDescriptor "([BB)V" = some ⟨[(.array .byte), .byte], none⟩ := by decide +kernel
theorem pd_31 : parseMethodDescriptor "([CI[BII)I" = some ⟨[(.array .char), .int, (.array .byte), .int, .int], some .int⟩ := by decide +kernel
theorem pd_32 : parseMethodDescriptor "([CII)[B" = some ⟨[(.array .char), .int, .int], some (.array .byte)⟩ := by decide +kernel
theorem pd_33 : parseMethodDescriptor "([BI)B" = some ⟨[(.array .byte), .int], some .byte⟩ := by decide +kernel
theorem pd_34 : parseMethodDescriptor "([CIILjava/lang/Void;)V" = some ⟨[(.array .char), .int, .int, (.object "java/lang/Void")], none⟩ := by decide +kernel
theorem pd_35 : parseMethodDescriptor "(C)Ljava/lang/String;" = some ⟨[.char], some (.object "java/lang/String")⟩ := by decide +kernel
theorem pd_36 : parseMethodDescriptor "(I)C" = some ⟨[.int], some .char⟩ := by decide +kernel
theorem pd_37 : parseMethodDescriptor "()Ljava/lang/String;" = some ⟨[], some (.object "java/lang/String")⟩ := by decide +kernel
theorem pd_38 : parseMethodDescriptor "(Ljava/lang/String;)Ljava/lang/StringBuilder;" = some ⟨[(.object "java/lang/String")], some (.object "java/lang/StringBuilder")⟩ := by decide +kernel
theorem pd_39 : parseMethodDescriptor "(C)Ljava/lang/StringBuilder;" = some ⟨[.char], some (.object "java/lang/StringBuilder")⟩ := by decide +kernel
theorem pd_40 : parseMethodDescriptor "([C)V" = some ⟨[(.array .char)], none⟩ := by decide +kernel
theorem pd_41 : parseMethodDescriptor "(Ljava/lang/String;)Ljava/lang/String;" = some ⟨[(.object "java/lang/String")], some (.object "java/lang/String")⟩ := by decide +kernel
theorem pd_42 : parseMethodDescriptor "(Ljava/lang/String;ILjava/lang/String;)Z" = some ⟨[(.object "java/lang/String"), .int, (.object "java/lang/String")], some .boolean⟩ := by decide +kernel
def pk (p : Int32) : Int32 := if p &&& 7 = 0 then 38 else if p &&& 7 = 1 then 60 else if p &&& 7 = 2 then 62 else if p &&& 7 = 3 then 34 else if p &&& 7 = 4 then 39 else c16 (XT.ushr p 3)
theorem pk_rng (p : Int32) : 0 ≤ (pk p).toInt ∧ (pk p).toInt ≤ 65535 := by
  unfold pk
  repeat' split
  all_goals first | exact c16_rng _ | decide
def pc (c : Int32) : List Int32 := if c = 38 then [38, 97, 109, 112, 59] else if c = 60 then [38, 108, 116, 59] else if c = 62 then [38, 103, 116, 59] else if c = 34 then [38, 113, 117, 111, 116, 59] else if c = 39 then [38, 35, 51, 57, 59] else [c]
theorem pc_len (c : Int32) : (pc c).length ≤ 6 := by
  unfold pc
  repeat' split
  all_goals simp
def esc : List Int32 → List Int32
  | [] => []
  | c :: r => pc c ++ esc r
theorem esc_app : ∀ a b : List Int32, esc (a ++ b) = esc a ++ esc b
  | [], b => rfl
  | c :: r, b => by show pc c ++ esc (r ++ b) = _; rw [esc_app r b]; simp [esc]
theorem esc_len : ∀ a : List Int32, (esc a).length ≤ 6 * a.length
  | [] => by simp [esc]
  | c :: r => by have := esc_len r; have := pc_len c; simp only [esc, List.length_append, List.length_cons]; omega
theorem esc_step {cs : List Int32} {i : Nat} {c : Int32} (h : cs[i]? = some c) : esc (cs.take (i + 1)) = esc (cs.take i) ++ pc c := by
  rw [List.take_add_one, h, esc_app]; simp [esc]
theorem miss5 {c : Int32} (h1 : c ≠ 34) (h2 : c ≠ 38) (h3 : c ≠ 39) (h4 : c ≠ 60) (h5 : c ≠ 62) : (#[(34, 81), (38, 51), (39, 91), (60, 61), (62, 71)] : Array (Int × Int)).find? (·.1 == c.toInt) = none := by
  have k1 : c.toInt ≠ 34 := fun q => h1 (Int32.toInt_inj.mp q)
  have k2 : c.toInt ≠ 38 := fun q => h2 (Int32.toInt_inj.mp q)
  have k3 : c.toInt ≠ 39 := fun q => h3 (Int32.toInt_inj.mp q)
  have k4 : c.toInt ≠ 60 := fun q => h4 (Int32.toInt_inj.mp q)
  have k5 : c.toInt ≠ 62 := fun q => h5 (Int32.toInt_inj.mp q)
  simp; omega
set_option maxRecDepth 65536 in
set_option maxHeartbeats 4000000 in
theorem k_asbInit (l : Launch) (Z : State) (a0 : Array Value) (hE : Ev Z a0) (a : Addr) (nN : Nat) (h : Heap) (X : Exa Z h a SBC) (F1 : Fld Z h a ASB "value" "[B" .null) (F2 : Fld Z h a ASB "coder" "B" (.int 0)) (F4 : Fld Z h a ASB "maybeLatin1" "Z" (.int 0)) (F3 : Fld Z h a ASB "count" "I" (.int 0)) (hn : nN ≤ 3) : Con2 l Z false (⟨"java/lang/AbstractStringBuilder", "<init>", "(I)V"⟩ : MethodName) jdk_68_method_2_code 2 none ({ frames := 1, cells := 1, slots := 3, locals := 12 } : Room) [(.ref a), (.int nN.toInt32)] h [a]  (fun M N v h' => ∃ t, N = [t] ∧ h.size ≤ t ∧ v = none ∧ SBr Z h' a t 0 0 (List.replicate nN 0)) := by
  have hw := hE.1
  refine Con2.intro (L0 := #[.val (.ref a), .val (.int nN.toInt32)]) (by decide +kernel) (fun m => ef_of rfl) ?_
  intro B M hwsM ok
  have lta := gtE X
  refine W.old ok fun _ le0 => ?_
  refine W.aloadN ok (pc' := 1) d_jdk_68_method_2_0 rfl rfl rfl ?_
  refine W.initO ok (pc' := 4) (w60 hw) (w16 hw) (w17 hw) rfl (Nat.le_of_ble_eq_true rfl) (Nat.le_of_ble_eq_true rfl) d_jdk_68_method_2_1 rfl ?_
  obtain ⟨g, hg, Fg⟩ := hE.compact
  refine W.getS ok (pc' := 7) (w61 hw) Via.refl Fg d_jdk_68_method_2_4 rfl ?_
  refine W.ifeq ok (pcY := 25) (pcN := 10) d_jdk_68_method_2_7 rfl (by decide) rfl (fun q => absurd q hg) (fun _ => ?_)
  refine W.aloadN ok (pc' := 11) d_jdk_68_method_2_10 rfl rfl rfl ?_
  refine W.iloadN ok (pc' := 12) d_jdk_68_method_2_11 rfl rfl ?_
  refine W.newBE ok (pc' := 14) (cap := 3) (w23 hw) (i32_nn (by omega)) (by rw [nat_i32 (by omega)]; omega) (by decide) d_jdk_68_method_2_12 rfl (Nat.le_of_ble_eq_true rfl) (Nat.le_of_ble_eq_true rfl) (fun a1 h2 z3 ea4 E5 A6 X7 => ?_)
  replace A6 := A6.cast (cs' := List.replicate nN 0) (by rw [nat_i32 (by omega)])
  have ox8 := X.ext E5
  have of9 := F1.ext E5
  have of10 := F2.ext E5
  have of11 := F4.ext E5
  have of12 := F3.ext E5
  refine W.putF ok (pc' := 17) (cl' := (false, [])) (w62 hw) Via.refl of9 ox8 (Or.inl (w63 hw)) (w39 hw) (ty := (.array .byte)) (by decide) rfl rfl (List.mem_cons_of_mem _ (hwsM _ (List.mem_of_getElem? (i := 0) rfl))) (Or.inl (List.mem_of_getElem? (i := 0) rfl)) (fun q => by cases q) rfl d_jdk_68_method_2_14 rfl (fun h13 W14 => ?_)
  have ox15 := ox8.wr W14
  have of16 := of9.same W14
  have of17 := of10.other W14 (Or.inr (slot_ne (Or.inl (w65 hw)) (Or.inl (w63 hw)) (by decide) (t := .byte) (by decide) (t' := (.array .byte)) (by decide)))
  have of18 := of11.other W14 (Or.inr (slot_ne (Or.inl (w295 hw)) (Or.inl (w63 hw)) (by decide) (t := .boolean) (by decide) (t' := (.array .byte)) (by decide)))
  have of19 := of12.other W14 (Or.inr (slot_ne (Or.inl (w103 hw)) (Or.inl (w63 hw)) (by decide) (t := .int) (by decide) (t' := (.array .byte)) (by decide)))
  refine W.aloadN ok (pc' := 18) d_jdk_68_method_2_17 rfl rfl rfl ?_
  refine W.iconst ok (pc' := 19) (0 : Int32) d_jdk_68_method_2_18 rfl rfl ?_
  refine W.putF ok (pc' := 22) (cl' := (false, [])) (w64 hw) Via.refl of17 ox15 (Or.inl (w65 hw)) (w39 hw) (ty := .byte) (by decide) (by first | rfl | assumption) (by first | rfl | assumption) (List.mem_cons_of_mem _ (hwsM _ (List.mem_of_getElem? (i := 0) rfl))) (Or.inl (List.mem_of_getElem? (i := 0) rfl)) (fun q => by cases q) rfl d_jdk_68_method_2_19 rfl (fun h20 W21 => ?_)
  have ox22 := ox15.wr W21
  have of23 := of16.other W21 (Or.inr (slot_ne (Or.inl (w63 hw)) (Or.inl (w65 hw)) (by decide) (t := (.array .byte)) (by decide) (t' := .byte) (by decide)))
  have of24 := of17.same W21
  have of25 := of18.other W21 (Or.inr (slot_ne (Or.inl (w295 hw)) (Or.inl (w65 hw)) (by decide) (t := .boolean) (by decide) (t' := .byte) (by decide)))
  have of26 := of19.other W21 (Or.inr (slot_ne (Or.inl (w103 hw)) (Or.inl (w65 hw)) (by decide) (t := .int) (by decide) (t' := .byte) (by decide)))
  refine W.goto ok (pc' := 38) d_jdk_68_method_2_22 (by decide) rfl ?_
  exact W.retVN ok [a1] d_jdk_68_method_2_38 (Nat.le_of_ble_eq_true rfl) (Nat.le_of_ble_eq_true rfl) (fun x q => (List.mem_append.mp q).elim (fun q => (by rw [List.mem_singleton.mp q]; exact (List.mem_cons_self ..))) (fun q => (List.mem_cons_of_mem _ q))) (fun kp => ⟨a1, rfl, Nat.le_of_eq ea4, rfl, ox22, of23, of24, of25, of26, (A6.other W14 (ane (by omega))).other W21 (ane (by omega)), (X7.wr W14).wr W21⟩)
set_option maxRecDepth 65536 in
set_option maxHeartbeats 4000000 in
theorem k_gInit (l : Launch) (Z : State) (a0 : Array Value) (hE : Ev Z a0) (a : Addr) (nN : Nat) (h : Heap) (X : Exa Z h a SBC) (F1 : Fld Z h a ASB "value" "[B" .null) (F2 : Fld Z h a ASB "coder" "B" (.int 0)) (F4 : Fld Z h a ASB "maybeLatin1" "Z" (.int 0)) (F3 : Fld Z h a ASB "count" "I" (.int 0)) (hn : nN ≤ 3) : Con2 l Z false (⟨"java/lang/StringBuilder", "<init>", "(I)V"⟩ : MethodName) jdk_67_method_2_code 2 none ({ frames := 2, cells := 1, slots := 3, locals := 25 } : Room) [(.ref a), (.int nN.toInt32)] h [a]  (fun M N v h' => ∃ t, N = [t] ∧ h.size ≤ t ∧ v = none ∧ SBr Z h' a t 0 0 (List.replicate nN 0)) := by
  have hw := hE.1
  refine Con2.intro (L0 := #[.val (.ref a), .val (.int nN.toInt32)]) (by decide +kernel) (fun m => ef_of rfl) ?_
  intro B M hwsM ok
  refine W.aloadN ok (pc' := 1) d_jdk_67_method_2_0 rfl rfl rfl ?_
  refine W.iloadN ok (pc' := 2) d_jdk_67_method_2_1 rfl rfl ?_
  refine W.callI ok (rest := []) (cl' := (false, [])) (pc' := 5) rfl (w54 hw) (w55 hw) (w58 hw) (w59 hw) (by decide) pd_0 rfl (k_asbInit l Z a0 hE a nN h X F1 F2 F4 F3 hn) (fun w q => by simp only [List.mem_cons, List.not_mem_nil, or_false] at q; subst q; exact ⟨(hwsM _ (List.mem_of_getElem? (i := 0) rfl)), (Or.inl (List.mem_of_getElem? (i := 0) rfl))⟩) (fun q => by cases q) rfl rfl (Nat.le_of_ble_eq_true rfl) (Nat.le_of_ble_eq_true rfl) (Nat.le_of_ble_eq_true rfl) (Nat.le_of_ble_eq_true rfl) d_jdk_67_method_2_2 rfl rfl (fun N3 v h1 hq K2 => ?_)
  obtain ⟨t, rfl, ht, rfl, S⟩ := hq
  show W B h1 1 3 (t :: M) (false, []) 5 #[.val (.ref a), .val (.int nN.toInt32)] []
  exact W.retVN ok [t] d_jdk_67_method_2_5 (Nat.le_of_ble_eq_true rfl) (Nat.le_of_ble_eq_true rfl) (fun x q => (List.mem_append.mp q).elim (fun q => (by rw [List.mem_singleton.mp q]; exact (List.mem_cons_self ..))) (fun q => (List.mem_cons_of_mem _ q))) (fun kp => ⟨t, rfl, ht, rfl, S⟩)
set_option maxRecDepth 65536 in
set_option maxHeartbeats 4000000 in
theorem k_gVal (l : Launch) (Z : State) (a0 : Array Value) (hE : Ev Z a0) (a t : Addr) (h : Heap) (F : Fld Z h a ASB "value" "[B" (.ref t)) : Con l Z false (⟨"java/lang/AbstractStringBuilder", "getValue", "()[B"⟩ : MethodName) jdk_68_method_64_code 1 (some (.array .byte)) ({ frames := 0, cells := 0, slots := 0, locals := 0 } : Room) [(.ref a)] h [] false (fun M v h' => v = some (.ref t) ∧ h' = h) := by
  have hw := hE.1
  refine Con.intro (L0 := #[.val (.ref a)]) (by decide +kernel) (fun m => ef_of rfl) ?_
  intro B M hwsM ok
  refine W.aloadN ok (pc' := 1) d_jdk_68_method_64_0 rfl rfl rfl ?_
  refine W.getF ok (pc' := 4) (w62 hw) Via.refl F d_jdk_68_method_64_1 rfl ?_
  exact W.retA ok d_jdk_68_method_64_4 rfl rfl (Nat.le_of_ble_eq_true rfl) (Nat.le_of_ble_eq_true rfl) (fun x (q : x ∈ M) => q) (fun kp => ⟨rfl, rfl⟩)
set_option maxRecDepth 65536 in
set_option maxHeartbeats 4000000 in
theorem k_gaLen (l : Launch) (Z : State) (a0 : Array Value) (hE : Ev Z a0) (a : Addr) (z : Int32) (h : Heap) (F : Fld Z h a ASB "count" "I" (.int z)) : Con l Z false (⟨"java/lang/AbstractStringBuilder", "length", "()I"⟩ : MethodName) jdk_68_method_6_code 1 (some .int) ({ frames := 0, cells := 0, slots := 0, locals := 0 } : Room) [(.ref a)] h [] false (fun M v h' => v = some (.int z) ∧ h' = h) := by
  have hw := hE.1
  refine Con.intro (L0 := #[.val (.ref a)]) (by decide +kernel) (fun m => ef_of rfl) ?_
  intro B M hwsM ok
  refine W.aloadN ok (pc' := 1) d_jdk_68_method_6_0 rfl rfl rfl ?_
  refine W.getF ok (pc' := 4) (w102 hw) Via.refl F d_jdk_68_method_6_1 rfl ?_
  exact W.retI ok d_jdk_68_method_6_4 (Nat.le_of_ble_eq_true rfl) (Nat.le_of_ble_eq_true rfl) (fun x (q : x ∈ M) => q) (fun kp => ⟨rfl, rfl⟩)
set_option maxRecDepth 65536 in
set_option maxHeartbeats 4000000 in
theorem k_gLen (l : Launch) (Z : State) (a0 : Array Value) (hE : Ev Z a0) (a : Addr) (z : Int32) (h : Heap) (X : Exa Z h a SBC) (F : Fld Z h a ASB "count" "I" (.int z)) : Con l Z false (⟨"java/lang/StringBuilder", "length", "()I"⟩ : MethodName) jdk_67_method_93_code 1 (some .int) ({ frames := 1, cells := 0, slots := 0, locals := 12 } : Room) [(.ref a)] h [] false (fun M v h' => v = some (.int z) ∧ h' = h) := by
  have hw := hE.1
  refine Con.intro (L0 := #[.val (.ref a)]) (by decide +kernel) (fun m => ef_of rfl) ?_
  intro B M hwsM ok
  refine W.aloadN ok (pc' := 1) d_jdk_67_method_93_0 rfl rfl rfl ?_
  refine W.callU ok (rest := []) (cl' := (true, [])) (pc' := 4) (y := (⟨"java/lang/AbstractStringBuilder", "length", "()I"⟩ : MethodName)) (show NoFace Z "java/lang/AbstractStringBuilder" from NoFace.of (w107 hw)) (by decide) (w175 hw) (w171 hw) (w98 hw) (w58 hw) (w176 hw) (by decide) X pd_1 rfl (k_gaLen l Z a0 hE a z h F) (fun _ q => (nomatch q)) (fun q => ⟨q, fun _ q => (nomatch q)⟩) rfl rfl (Nat.le_of_ble_eq_true rfl) (Nat.le_of_ble_eq_true rfl) (Nat.le_of_ble_eq_true rfl) (Nat.le_of_ble_eq_true rfl) d_jdk_67_method_93_1 rfl rfl (pureK ?_)
  show W B h 0 0 M (true, []) 4 #[.val (.ref a)] [(.int z)]
  exact W.retI ok d_jdk_67_method_93_4 (Nat.le_of_ble_eq_true rfl) (Nat.le_of_ble_eq_true rfl) (fun x (q : x ∈ M) => q) (fun kp => ⟨rfl, rfl⟩)
set_option maxRecDepth 65536 in
set_option maxHeartbeats 4000000 in
theorem k_gLat0 (l : Launch) (Z : State) (a0 : Array Value) (hE : Ev Z a0) (a : Addr) (h : Heap) (F : Fld Z h a ASB "coder" "B" (.int 0)) : Con l Z false (⟨"java/lang/AbstractStringBuilder", "isLatin1", "()Z"⟩ : MethodName) jdk_68_method_68_code 1 (some .boolean) ({ frames := 0, cells := 0, slots := 0, locals := 0 } : Room) [(.ref a)] h [] false (fun M v h' => v = some (.int 1) ∧ h' = h) := by
  have hw := hE.1
  refine Con.intro (L0 := #[.val (.ref a)]) (by decide +kernel) (fun m => ef_of rfl) ?_
  intro B M hwsM ok
  obtain ⟨g, hg, Fg⟩ := hE.compact
  refine W.getS ok (pc' := 3) (w61 hw) Via.refl Fg d_jdk_68_method_68_0 rfl ?_
  refine W.ifeq ok (pcY := 17) (pcN := 6) d_jdk_68_method_68_3 rfl (by decide) rfl (fun q => absurd q hg) (fun _ => ?_)
  refine W.aloadN ok (pc' := 7) d_jdk_68_method_68_6 rfl rfl rfl ?_
  refine W.getF ok (pc' := 10) (w64 hw) Via.refl F d_jdk_68_method_68_7 rfl ?_
  refine W.ifne ok (pcY := 17) (pcN := 13) d_jdk_68_method_68_10 rfl (by decide) rfl (fun _ => ?_) (fun q => absurd rfl q)
  refine W.iconst ok (pc' := 14) (1 : Int32) d_jdk_68_method_68_13 rfl rfl ?_
  refine W.goto ok (pc' := 18) d_jdk_68_method_68_14 (by decide) rfl ?_
  exact W.retZ ok d_jdk_68_method_68_18 rfl (Nat.le_of_ble_eq_true rfl) (Nat.le_of_ble_eq_true rfl) (fun x (q : x ∈ M) => q) (fun kp => ⟨rfl, rfl⟩)
set_option maxRecDepth 65536 in
set_option maxHeartbeats 4000000 in
theorem k_gLat1 (l : Launch) (Z : State) (a0 : Array Value) (hE : Ev Z a0) (a : Addr) (h : Heap) (F : Fld Z h a ASB "coder" "B" (.int 1)) : Con l Z false (⟨"java/lang/AbstractStringBuilder", "isLatin1", "()Z"⟩ : MethodName) jdk_68_method_68_code 1 (some .boolean) ({ frames := 0, cells := 0, slots := 0, locals := 0 } : Room) [(.ref a)] h [] false (fun M v h' => v = some (.int 0) ∧ h' = h) := by
  have hw := hE.1
  refine Con.intro (L0 := #[.val (.ref a)]) (by decide +kernel) (fun m => ef_of rfl) ?_
  intro B M hwsM ok
  obtain ⟨g, hg, Fg⟩ := hE.compact
  refine W.getS ok (pc' := 3) (w61 hw) Via.refl Fg d_jdk_68_method_68_0 rfl ?_
  refine W.ifeq ok (pcY := 17) (pcN := 6) d_jdk_68_method_68_3 rfl (by decide) rfl (fun q => absurd q hg) (fun _ => ?_)
  refine W.aloadN ok (pc' := 7) d_jdk_68_method_68_6 rfl rfl rfl ?_
  refine W.getF ok (pc' := 10) (w64 hw) Via.refl F d_jdk_68_method_68_7 rfl ?_
  refine W.ifne ok (pcY := 17) (pcN := 13) d_jdk_68_method_68_10 rfl (by decide) rfl (fun q => absurd q (by decide)) (fun _ => ?_)
  refine W.iconst ok (pc' := 18) (0 : Int32) d_jdk_68_method_68_17 rfl rfl ?_
  exact W.retZ ok d_jdk_68_method_68_18 rfl (Nat.le_of_ble_eq_true rfl) (Nat.le_of_ble_eq_true rfl) (fun x (q : x ∈ M) => q) (fun kp => ⟨rfl, rfl⟩)
set_option maxRecDepth 65536 in
set_option maxHeartbeats 4000000 in
theorem k_max (l : Launch) (Z : State) (a0 : Array Value) (hE : Ev Z a0) (aN bN : Nat) (h : Heap) (ha : aN < 1000000) (hb : bN < 1000000) : Con l Z false (⟨"java/lang/Math", "max", "(II)I"⟩ : MethodName) jdk_29_method_65_code 2 (some .int) ({ frames := 0, cells := 0, slots := 0, locals := 0 } : Room) [(.int aN.toInt32), (.int bN.toInt32)] h [] false (fun M v h' => v = some (.int (max aN bN).toInt32) ∧ h' = h) := by
  have hw := hE.1
  refine Con.intro (L0 := #[.val (.int aN.toInt32), .val (.int bN.toInt32)]) (by decide +kernel) (fun m => ef_of rfl) ?_
  intro B M hwsM ok
  refine W.iloadN ok (pc' := 1) d_jdk_29_method_65_0 rfl rfl ?_
  refine W.iloadN ok (pc' := 2) d_jdk_29_method_65_1 rfl rfl ?_
  refine W.icmplt ok (pcY := 9) (pcN := 5) d_jdk_29_method_65_2 rfl (by decide) rfl (fun c => ?_) (fun c => ?_)
  · refine W.iloadN ok (pc' := 10) d_jdk_29_method_65_9 rfl rfl ?_
    exact W.retI ok d_jdk_29_method_65_10 (Nat.le_of_ble_eq_true rfl) (Nat.le_of_ble_eq_true rfl) (fun x (q : x ∈ M) => q) (fun kp => ⟨by rw [Nat.max_eq_right (Nat.le_of_lt ((i32_lt (by omega) (by omega)).mp c))], rfl⟩)
  · refine W.iloadN ok (pc' := 6) d_jdk_29_method_65_5 rfl rfl ?_
    refine W.goto ok (pc' := 10) d_jdk_29_method_65_6 (by decide) rfl ?_
    exact W.retI ok d_jdk_29_method_65_10 (Nat.le_of_ble_eq_true rfl) (Nat.le_of_ble_eq_true rfl) (fun x (q : x ∈ M) => q) (fun kp => ⟨by rw [Nat.max_eq_left (Nat.le_of_not_lt (fun q => c ((i32_lt (by omega) (by omega)).mpr q)))], rfl⟩)
set_option maxRecDepth 65536 in
set_option maxHeartbeats 4000000 in
theorem k_minA (l : Launch) (Z : State) (a0 : Array Value) (hE : Ev Z a0) (aN bN : Nat) (h : Heap) (hab : aN ≤ bN) (hb : bN < 1000000) : Con l Z false (⟨"java/lang/Math", "min", "(II)I"⟩ : MethodName) jdk_29_method_69_code 2 (some .int) ({ frames := 0, cells := 0, slots := 0, locals := 0 } : Room) [(.int aN.toInt32), (.int bN.toInt32)] h [] false (fun M v h' => v = some (.int aN.toInt32) ∧ h' = h) := by
  have hw := hE.1
  refine Con.intro (L0 := #[.val (.int aN.toInt32), .val (.int bN.toInt32)]) (by decide +kernel) (fun m => ef_of rfl) ?_
  intro B M hwsM ok
  refine W.iloadN ok (pc' := 1) d_jdk_29_method_69_0 rfl rfl ?_
  refine W.iloadN ok (pc' := 2) d_jdk_29_method_69_1 rfl rfl ?_
  refine W.icmpgt ok (pcY := 9) (pcN := 5) d_jdk_29_method_69_2 rfl (by decide) rfl (fun q => absurd q (by rw [i32_lt (by omega) (by omega)]; omega)) (fun _ => ?_)
  refine W.iloadN ok (pc' := 6) d_jdk_29_method_69_5 rfl rfl ?_
  refine W.goto ok (pc' := 10) d_jdk_29_method_69_6 (by decide) rfl ?_
  exact W.retI ok d_jdk_29_method_69_10 (Nat.le_of_ble_eq_true rfl) (Nat.le_of_ble_eq_true rfl) (fun x (q : x ∈ M) => q) (fun kp => ⟨rfl, rfl⟩)
set_option maxRecDepth 65536 in
set_option maxHeartbeats 4000000 in
theorem k_newLen (l : Launch) (Z : State) (a0 : Array Value) (hE : Ev Z a0) (oN mN pN : Nat) (h : Heap) (h1 : oN < 1000000) (h2 : mN < 1000000) (h3 : pN < 1000000) (h4 : 0 < mN) : Con l Z false (⟨"jdk/internal/util/ArraysSupport", "newLength", "(III)I"⟩ : MethodName) jdk_48_method_27_code 4 (some .int) ({ frames := 1, cells := 0, slots := 0, locals := 14 } : Room) [(.int oN.toInt32), (.int mN.toInt32), (.int pN.toInt32)] h [] false (fun M v h' => v = some (.int (oN + max mN pN).toInt32) ∧ h' = h) := by
  have hw := hE.1
  refine Con.intro (L0 := #[.val (.int oN.toInt32), .val (.int mN.toInt32), .val (.int pN.toInt32), .unset]) (by decide +kernel) (fun m => ef_of rfl) ?_
  intro B M hwsM ok
  refine W.iloadN ok (pc' := 1) d_jdk_48_method_27_0 rfl rfl ?_
  refine W.iloadN ok (pc' := 2) d_jdk_48_method_27_1 rfl rfl ?_
  refine W.iloadN ok (pc' := 3) d_jdk_48_method_27_2 rfl rfl ?_
  refine W.callS ok (rest := [(.int oN.toInt32)]) (cl' := (true, [])) (pc' := 6) (w118 hw) (w119 hw) (w120 hw) (w121 hw) (by decide) pd_2 rfl (k_max l Z a0 hE mN pN h (by omega) (by omega)) (fun _ q => (nomatch q)) (fun q => ⟨q, fun _ q => (nomatch q)⟩) rfl rfl (Nat.le_of_ble_eq_true rfl) (Nat.le_of_ble_eq_true rfl) (Nat.le_of_ble_eq_true rfl) (Nat.le_of_ble_eq_true rfl) d_jdk_48_method_27_3 rfl rfl (pureK ?_)
  show W B h 0 0 M (true, []) 6 #[.val (.int oN.toInt32), .val (.int mN.toInt32), .val (.int pN.toInt32), .unset] [(.int ((max mN pN).toInt32)), (.int oN.toInt32)]
  refine W.iadd ok (pc' := 7) d_jdk_48_method_27_6 rfl ?_
  rw [i32_add]
  refine W.istoreN ok (pc' := 8) (L' := #[.val (.int oN.toInt32), .val (.int mN.toInt32), .val (.int pN.toInt32), .val (.int ((oN + max mN pN).toInt32))]) d_jdk_48_method_27_7 rfl rfl ?_
  refine W.iconst ok (pc' := 9) (0 : Int32) d_jdk_48_method_27_8 rfl rfl ?_
  refine W.iloadN ok (pc' := 10) d_jdk_48_method_27_9 rfl rfl ?_
  refine W.icmpge ok (pcY := 21) (pcN := 13) d_jdk_48_method_27_10 rfl (by decide) rfl (fun _ => ?_) (fun q => absurd ((i32_lt (a := 0) (by omega) (by omega)).mpr (by omega)) q)
  refine W.iloadN ok (pc' := 14) d_jdk_48_method_27_13 rfl rfl ?_
  refine W.ldcI ok (pc' := 16) (w122 hw) d_jdk_48_method_27_14 rfl ?_
  refine W.icmpgt ok (pcY := 21) (pcN := 19) d_jdk_48_method_27_16 rfl (by decide) rfl (fun q => absurd q (by rw [Int32.lt_iff_toInt_lt, i32_len (by omega)]; have : (2147483639 : Int32).toInt = 2147483639 := rfl; omega)) (fun _ => ?_)
  refine W.iloadN ok (pc' := 20) d_jdk_48_method_27_19 rfl rfl ?_
  exact W.retI ok d_jdk_48_method_27_20 (Nat.le_of_ble_eq_true rfl) (Nat.le_of_ble_eq_true rfl) (fun x (q : x ∈ M) => q) (fun kp => ⟨rfl, rfl⟩)
set_option maxRecDepth 65536 in
set_option maxHeartbeats 4000000 in
theorem k_newCap (l : Launch) (Z : State) (a0 : Array Value) (hE : Ev Z a0) (a t : Addr) (cd : Int32) (n : Nat) (xs : List Int32) (cap mN : Nat) (h : Heap) (S : SBr Z h a t cd n xs) (hc : CapOf cd xs.length cap) (hm : cap < mN) (hx : mN ≤ 1000) : Con l Z false (⟨"java/lang/AbstractStringBuilder", "newCapacity", "(I)I"⟩ : MethodName) jdk_68_method_10_code 6 (some .int) ({ frames := 2, cells := 0, slots := 0, locals := 29 } : Room) [(.ref a), (.int mN.toInt32)] h [] false (fun M v h' => v = some (.int (max mN (2 * cap + 2)).toInt32) ∧ h' = h) := by
  have hw := hE.1
  refine Con.intro (L0 := #[.val (.ref a), .val (.int mN.toInt32), .unset, .unset, .unset, .unset]) (by decide +kernel) (fun m => ef_of rfl) ?_
  intro B M hwsM ok
  obtain ⟨q1, q2, q3, q4, q5, q6, q7⟩ := S
  rcases hc with ⟨rfl, e⟩ | ⟨rfl, e⟩
  · refine W.aloadN ok (pc' := 1) d_jdk_68_method_10_0 rfl rfl rfl ?_
    refine W.getF ok (pc' := 4) (w62 hw) Via.refl q2 d_jdk_68_method_10_1 rfl ?_
    refine W.lenI ok (pc' := 5) q6 cap.toInt32 (by rw [e]) d_jdk_68_method_10_4 rfl ?_
    refine W.istoreN ok (pc' := 6) (L' := #[.val (.ref a), .val (.int mN.toInt32), .val (.int cap.toInt32), .unset, .unset, .unset]) d_jdk_68_method_10_5 rfl rfl ?_
    refine W.iloadN ok (pc' := 7) d_jdk_68_method_10_6 rfl rfl ?_
    refine W.aloadN ok (pc' := 8) d_jdk_68_method_10_7 rfl rfl rfl ?_
    refine W.getF ok (pc' := 11) (w64 hw) Via.refl q3 d_jdk_68_method_10_8 rfl ?_
    refine W.ishl ok (pc' := 12) d_jdk_68_method_10_11 rfl ?_
    rw [shl0]
    refine W.istoreN ok (pc' := 13) (L' := #[.val (.ref a), .val (.int mN.toInt32), .val (.int cap.toInt32), .val (.int mN.toInt32), .unset, .unset]) d_jdk_68_method_10_12 rfl rfl ?_
    refine W.iloadN ok (pc' := 14) d_jdk_68_method_10_13 rfl rfl ?_
    refine W.iloadN ok (pc' := 15) d_jdk_68_method_10_14 rfl rfl ?_
    refine W.isub ok (pc' := 16) d_jdk_68_method_10_15 rfl ?_
    rw [i32_sub (by omega) (by omega)]
    refine W.istore ok (pc' := 18) (L' := #[.val (.ref a), .val (.int mN.toInt32), .val (.int cap.toInt32), .val (.int mN.toInt32), .val (.int ((mN - cap).toInt32)), .unset]) d_jdk_68_method_10_16 rfl rfl ?_
    refine W.iloadN ok (pc' := 19) d_jdk_68_method_10_18 rfl rfl ?_
    refine W.iload ok (pc' := 21) d_jdk_68_method_10_19 rfl rfl ?_
    refine W.iloadN ok (pc' := 22) d_jdk_68_method_10_21 rfl rfl ?_
    refine W.iconst ok (pc' := 23) (2 : Int32) d_jdk_68_method_10_22 rfl rfl ?_
    refine W.aloadN ok (pc' := 24) d_jdk_68_method_10_23 rfl rfl rfl ?_
    refine W.getF ok (pc' := 27) (w64 hw) Via.refl q3 d_jdk_68_method_10_24 rfl ?_
    refine W.ishl ok (pc' := 28) d_jdk_68_method_10_27 rfl ?_
    rw [shl0]
    refine W.iadd ok (pc' := 29) d_jdk_68_method_10_28 rfl ?_
    rw [i32_add2]
    refine W.callS ok (rest := []) (cl' := (true, [])) (pc' := 32) (w114 hw) (w115 hw) (w116 hw) (w117 hw) (by decide) pd_3 rfl (k_newLen l Z a0 hE cap (mN - cap) (cap + 2) h (by omega) (by omega) (by omega) (by omega)) (fun _ q => (nomatch q)) (fun q => ⟨q, fun _ q => (nomatch q)⟩) rfl rfl (Nat.le_of_ble_eq_true rfl) (Nat.le_of_ble_eq_true rfl) (Nat.le_of_ble_eq_true rfl) (Nat.le_of_ble_eq_true rfl) d_jdk_68_method_10_29 rfl rfl (pureK ?_)
    show W B h 0 0 M (true, []) 32 #[.val (.ref a), .val (.int mN.toInt32), .val (.int cap.toInt32), .val (.int mN.toInt32), .val (.int ((mN - cap).toInt32)), .unset] [(.int ((cap + max (mN - cap) (cap + 2)).toInt32))]
    rw [CapOf.grow0 hm]
    refine W.istore ok (pc' := 34) (L' := #[.val (.ref a), .val (.int mN.toInt32), .val (.int cap.toInt32), .val (.int mN.toInt32), .val (.int ((mN - cap).toInt32)), .val (.int ((max mN (2 * cap + 2)).toInt32))]) d_jdk_68_method_10_32 rfl rfl ?_
    refine W.iload ok (pc' := 36) d_jdk_68_method_10_34 rfl rfl ?_
    refine W.ldcI ok (pc' := 38) (w123 hw) d_jdk_68_method_10_36 rfl ?_
    refine W.icmpne ok (pcY := 51) (pcN := 41) d_jdk_68_method_10_38 rfl (by decide) rfl (fun q => absurd q (fun q => by have q2 := congrArg Int32.toInt q; rw [i32_len (by omega)] at q2; have : (2147483647 : Int32).toInt = 2147483647 := rfl; omega)) (fun _ => ?_)
    refine W.iload ok (pc' := 53) d_jdk_68_method_10_51 rfl rfl ?_
    refine W.aloadN ok (pc' := 54) d_jdk_68_method_10_53 rfl rfl rfl ?_
    refine W.getF ok (pc' := 57) (w64 hw) Via.refl q3 d_jdk_68_method_10_54 rfl ?_
    refine W.ishr ok (pc' := 58) d_jdk_68_method_10_57 rfl ?_
    rw [shr0]
    exact W.retI ok d_jdk_68_method_10_58 (Nat.le_of_ble_eq_true rfl) (Nat.le_of_ble_eq_true rfl) (fun x (q : x ∈ M) => q) (fun kp => ⟨rfl, rfl⟩)
  · refine W.aloadN ok (pc' := 1) d_jdk_68_method_10_0 rfl rfl rfl ?_
    refine W.getF ok (pc' := 4) (w62 hw) Via.refl q2 d_jdk_68_method_10_1 rfl ?_
    refine W.lenI ok (pc' := 5) q6 ((2 * cap).toInt32) (by rw [e]) d_jdk_68_method_10_4 rfl ?_
    refine W.istoreN ok (pc' := 6) (L' := #[.val (.ref a), .val (.int mN.toInt32), .val (.int ((2 * cap).toInt32)), .unset, .unset, .unset]) d_jdk_68_method_10_5 rfl rfl ?_
    refine W.iloadN ok (pc' := 7) d_jdk_68_method_10_6 rfl rfl ?_
    refine W.aloadN ok (pc' := 8) d_jdk_68_method_10_7 rfl rfl rfl ?_
    refine W.getF ok (pc' := 11) (w64 hw) Via.refl q3 d_jdk_68_method_10_8 rfl ?_
    refine W.ishl ok (pc' := 12) d_jdk_68_method_10_11 rfl ?_
    rw [shl1_nat (by omega)]
    refine W.istoreN ok (pc' := 13) (L' := #[.val (.ref a), .val (.int mN.toInt32), .val (.int ((2 * cap).toInt32)), .val (.int ((2 * mN).toInt32)), .unset, .unset]) d_jdk_68_method_10_12 rfl rfl ?_
    refine W.iloadN ok (pc' := 14) d_jdk_68_method_10_13 rfl rfl ?_
    refine W.iloadN ok (pc' := 15) d_jdk_68_method_10_14 rfl rfl ?_
    refine W.isub ok (pc' := 16) d_jdk_68_method_10_15 rfl ?_
    rw [i32_sub (by omega) (by omega)]
    refine W.istore ok (pc' := 18) (L' := #[.val (.ref a), .val (.int mN.toInt32), .val (.int ((2 * cap).toInt32)), .val (.int ((2 * mN).toInt32)), .val (.int (((2 * mN) - (2 * cap)).toInt32)), .unset]) d_jdk_68_method_10_16 rfl rfl ?_
    refine W.iloadN ok (pc' := 19) d_jdk_68_method_10_18 rfl rfl ?_
    refine W.iload ok (pc' := 21) d_jdk_68_method_10_19 rfl rfl ?_
    refine W.iloadN ok (pc' := 22) d_jdk_68_method_10_21 rfl rfl ?_
    refine W.iconst ok (pc' := 23) (2 : Int32) d_jdk_68_method_10_22 rfl rfl ?_
    refine W.aloadN ok (pc' := 24) d_jdk_68_method_10_23 rfl rfl rfl ?_
    refine W.getF ok (pc' := 27) (w64 hw) Via.refl q3 d_jdk_68_method_10_24 rfl ?_
    refine W.ishl ok (pc' := 28) d_jdk_68_method_10_27 rfl ?_
    rw [show (2 : Int32) <<< ((1 : Int32) &&& 31) = 4 from by decide]
    refine W.iadd ok (pc' := 29) d_jdk_68_method_10_28 rfl ?_
    rw [i32_add4]
    refine W.callS ok (rest := []) (cl' := (true, [])) (pc' := 32) (w114 hw) (w115 hw) (w116 hw) (w117 hw) (by decide) pd_3 rfl (k_newLen l Z a0 hE (2 * cap) ((2 * mN) - (2 * cap)) ((2 * cap) + 4) h (by omega) (by omega) (by omega) (by omega)) (fun _ q => (nomatch q)) (fun q => ⟨q, fun _ q => (nomatch q)⟩) rfl rfl (Nat.le_of_ble_eq_true rfl) (Nat.le_of_ble_eq_true rfl) (Nat.le_of_ble_eq_true rfl) (Nat.le_of_ble_eq_true rfl) d_jdk_68_method_10_29 rfl rfl (pureK ?_)
    show W B h 0 0 M (true, []) 32 #[.val (.ref a), .val (.int mN.toInt32), .val (.int ((2 * cap).toInt32)), .val (.int ((2 * mN).toInt32)), .val (.int (((2 * mN) - (2 * cap)).toInt32)), .unset] [(.int (((2 * cap) + max ((2 * mN) - (2 * cap)) ((2 * cap) + 4)).toInt32))]
    rw [CapOf.grow1 hm]
    refine W.istore ok (pc' := 34) (L' := #[.val (.ref a), .val (.int mN.toInt32), .val (.int ((2 * cap).toInt32)), .val (.int ((2 * mN).toInt32)), .val (.int (((2 * mN) - (2 * cap)).toInt32)), .val (.int ((2 * max mN (2 * cap + 2)).toInt32))]) d_jdk_68_method_10_32 rfl rfl ?_
    refine W.iload ok (pc' := 36) d_jdk_68_method_10_34 rfl rfl ?_
    refine W.ldcI ok (pc' := 38) (w123 hw) d_jdk_68_method_10_36 rfl ?_
    refine W.icmpne ok (pcY := 51) (pcN := 41) d_jdk_68_method_10_38 rfl (by decide) rfl (fun q => absurd q (fun q => by have q2 := congrArg Int32.toInt q; rw [i32_len (by omega)] at q2; have : (2147483647 : Int32).toInt = 2147483647 := rfl; omega)) (fun _ => ?_)
    refine W.iload ok (pc' := 53) d_jdk_68_method_10_51 rfl rfl ?_
    refine W.aloadN ok (pc' := 54) d_jdk_68_method_10_53 rfl rfl rfl ?_
    refine W.getF ok (pc' := 57) (w64 hw) Via.refl q3 d_jdk_68_method_10_54 rfl ?_
    refine W.ishr ok (pc' := 58) d_jdk_68_method_10_57 rfl ?_
    rw [shr1_nat (by omega)]
    exact W.retI ok d_jdk_68_method_10_58 (Nat.le_of_ble_eq_true rfl) (Nat.le_of_ble_eq_true rfl) (fun x (q : x ∈ M) => q) (fun kp => ⟨rfl, rfl⟩)
set_option maxRecDepth 65536 in
set_option maxHeartbeats 4000000 in
theorem k_cpOf (l : Launch) (Z : State) (a0 : Array Value) (hE : Ev Z a0) (t : Addr) (xs : List Int32) (nN : Nat) (h : Heap) (A : ArI Z h t .byte xs) (hn : xs.length < nN) (hb : nN ≤ 72) : Con l Z false (⟨"java/util/Arrays", "copyOf", "([BI)[B"⟩ : MethodName) jdk_65_method_121_code 3 (some (.array .byte)) ({ frames := 1, cells := 1, slots := 72, locals := 18 } : Room) [(.ref t), (.int nN.toInt32)] h [] true (fun M v h' => ∃ u, v = some (.ref u) ∧ h.size ≤ u ∧ ArI Z h' u .byte (xs ++ List.replicate (nN - xs.length) 0) ∧ Exa Z h' u "[B") := by
  have hw := hE.1
  refine Con.intro (L0 := #[.val (.ref t), .val (.int nN.toInt32), .unset]) (by decide +kernel) (fun m => ef_of rfl) ?_
  intro B M hwsM ok
  have ltt := A.gt
  refine W.iloadN ok (pc' := 1) d_jdk_65_method_121_0 rfl rfl ?_
  refine W.aloadN ok (pc' := 2) d_jdk_65_method_121_1 rfl rfl rfl ?_
  refine W.lenI ok (pc' := 3) A xs.length.toInt32 rfl d_jdk_65_method_121_2 rfl ?_
  refine W.icmpne ok (pcY := 14) (pcN := 6) d_jdk_65_method_121_3 rfl (by decide) rfl (fun q => absurd q (by rw [i32_inj (by omega) (by omega)]; omega)) (fun _ => ?_)
  refine W.iloadN ok (pc' := 15) d_jdk_65_method_121_14 rfl rfl ?_
  refine W.newBE ok (pc' := 17) (cap := 72) (w23 hw) (i32_nn (by omega)) (by rw [nat_i32 (by omega)]; omega) (by decide) d_jdk_65_method_121_15 rfl (Nat.le_of_ble_eq_true rfl) (Nat.le_of_ble_eq_true rfl) (fun a1 h2 z3 ea4 E5 A6 X7 => ?_)
  replace A6 := A6.cast (cs' := List.replicate nN 0) (by rw [nat_i32 (by omega)])
  refine W.astoreN ok (pc' := 18) (L' := #[.val (.ref t), .val (.int nN.toInt32), .val (.ref a1)]) d_jdk_65_method_121_17 rfl rfl rfl ?_
  refine W.aloadN ok (pc' := 19) d_jdk_65_method_121_18 rfl rfl rfl ?_
  refine W.iconst ok (pc' := 20) (0 : Int32) d_jdk_65_method_121_19 rfl rfl ?_
  refine W.aloadN ok (pc' := 21) d_jdk_65_method_121_20 rfl rfl rfl ?_
  refine W.iconst ok (pc' := 22) (0 : Int32) d_jdk_65_method_121_21 rfl rfl ?_
  refine W.aloadN ok (pc' := 23) d_jdk_65_method_121_22 rfl rfl rfl ?_
  refine W.lenI ok (pc' := 24) (A.ext E5) xs.length.toInt32 rfl d_jdk_65_method_121_23 rfl ?_
  refine W.iloadN ok (pc' := 25) d_jdk_65_method_121_24 rfl rfl ?_
  refine W.callS ok (rest := [(.int (0 : Int32)), (.ref a1), (.int (0 : Int32)), (.ref t)]) (cl' := (true, [])) (pc' := 28) (w128 hw) (w129 hw) (w120 hw) (w130 hw) (by decide) pd_2 rfl (k_minA l Z a0 hE xs.length nN h2 (by omega) (by omega)) (fun _ q => (nomatch q)) (fun q => ⟨q, fun _ q => (nomatch q)⟩) rfl rfl (Nat.le_of_ble_eq_true rfl) (Nat.le_of_ble_eq_true rfl) (Nat.le_of_ble_eq_true rfl) (Nat.le_of_ble_eq_true rfl) d_jdk_65_method_121_25 rfl rfl (pureK ?_)
  show W B h2 1 72 (a1 :: M) (true, []) 28 #[.val (.ref t), .val (.int nN.toInt32), .val (.ref a1)] [(.int xs.length.toInt32), (.int (0 : Int32)), (.ref a1), (.int (0 : Int32)), (.ref t)]
  refine W.acopy ok (pc' := 31) (cl' := (true, [])) (sp := 0) (dp := 0) (nn := xs.length) (w131 hw) (w134 hw) (w132 hw) (w133 hw) (A.ext E5) A6 rfl (by omega) (by simp; omega) (by omega) (by simp; omega) (List.mem_cons_self ..) (Or.inr z3) (fun q => ⟨q, z3⟩) rfl rfl (Nat.le_of_ble_eq_true rfl) (Nat.le_of_ble_eq_true rfl) d_jdk_65_method_121_28 rfl (fun h8 K9 A10 => ?_)
  show W B h8 1 72 (a1 :: M) (true, []) 31 #[.val (.ref t), .val (.int nN.toInt32), .val (.ref a1)] []
  refine W.aloadN ok (pc' := 32) d_jdk_65_method_121_31 rfl rfl rfl ?_
  exact W.retA ok d_jdk_65_method_121_32 rfl rfl (Nat.le_of_ble_eq_true rfl) (Nat.le_of_ble_eq_true rfl) (fun x q => (List.mem_cons.mp q).elim (fun e => e ▸ (List.mem_cons_self ..)) (fun q => (List.mem_cons_of_mem _ q))) (fun kp => ⟨a1, rfl, Nat.le_of_eq ea4, A10.cast (by simp), X7.keep K9⟩)
set_option maxRecDepth 65536 in
set_option maxHeartbeats 4000000 in
theorem k_gEns (l : Launch) (Z : State) (a0 : Array Value) (hE : Ev Z a0) (a t : Addr) (cd : Int32) (n : Nat) (xs : List Int32) (cap mN : Nat) (h : Heap) (S : SBr Z h a t cd n xs) (hc : CapOf cd xs.length cap) (hx : mN ≤ 18) (hcap : cap ≤ 36) : Con2 l Z false (⟨"java/lang/AbstractStringBuilder", "ensureCapacityInternal", "(I)V"⟩ : MethodName) jdk_68_method_9_code 3 none ({ frames := 3, cells := 1, slots := 72, locals := 48 } : Room) [(.ref a), (.int mN.toInt32)] h [a]  (fun M N v h' => v = none ∧ ∃ t' cap' ys, SBr Z h' a t' cd n (xs ++ ys) ∧ CapOf cd (xs ++ ys).length cap' ∧ mN ≤ cap' ∧ cap' ≤ 36 ∧ ((t' = t ∧ N = []) ∨ (N = [t'] ∧ h.size ≤ t'))) := by
  have hw := hE.1
  refine Con2.intro (L0 := #[.val (.ref a), .val (.int mN.toInt32), .unset]) (by decide +kernel) (fun m => ef_of rfl) ?_
  intro B M hwsM ok
  have S0 := S
  obtain ⟨q1, q2, q3, q4, q5, q6, q7⟩ := S
  have hc0 := hc
  have lta := gtE q1
  refine W.old ok fun _ le0 => ?_
  rcases hc with ⟨rfl, e⟩ | ⟨rfl, e⟩
  · refine W.aloadN ok (pc' := 1) d_jdk_68_method_9_0 rfl rfl rfl ?_
    refine W.getF ok (pc' := 4) (w62 hw) Via.refl q2 d_jdk_68_method_9_1 rfl ?_
    refine W.lenI ok (pc' := 5) q6 cap.toInt32 (by rw [e]) d_jdk_68_method_9_4 rfl ?_
    refine W.aloadN ok (pc' := 6) d_jdk_68_method_9_5 rfl rfl rfl ?_
    refine W.getF ok (pc' := 9) (w64 hw) Via.refl q3 d_jdk_68_method_9_6 rfl ?_
    refine W.ishr ok (pc' := 10) d_jdk_68_method_9_9 rfl ?_
    rw [shr0]
    refine W.istoreN ok (pc' := 11) (L' := #[.val (.ref a), .val (.int mN.toInt32), .val (.int cap.toInt32)]) d_jdk_68_method_9_10 rfl rfl ?_
    refine W.iloadN ok (pc' := 12) d_jdk_68_method_9_11 rfl rfl ?_
    refine W.iloadN ok (pc' := 13) d_jdk_68_method_9_12 rfl rfl ?_
    refine W.isub ok (pc' := 14) d_jdk_68_method_9_13 rfl ?_
    rcases Nat.lt_or_ge cap mN with hm | hm
    · refine W.ifle ok (pcY := 38) (pcN := 17) d_jdk_68_method_9_14 rfl (by decide) rfl (fun _ => ?_) (fun q => absurd (by rw [Int32.lt_iff_toInt_lt, i32_sub (by omega) (by omega), i32_len (by omega)]; have : (0 : Int32).toInt = 0 := rfl; omega) q)
      refine W.aloadN ok (pc' := 18) d_jdk_68_method_9_17 rfl rfl rfl ?_
      refine W.aloadN ok (pc' := 19) d_jdk_68_method_9_18 rfl rfl rfl ?_
      refine W.getF ok (pc' := 22) (w62 hw) Via.refl q2 d_jdk_68_method_9_19 rfl ?_
      refine W.aloadN ok (pc' := 23) d_jdk_68_method_9_22 rfl rfl rfl ?_
      refine W.iloadN ok (pc' := 24) d_jdk_68_method_9_23 rfl rfl ?_
      refine W.callW ok (rest := [(.ref t), (.ref a)]) (cl' := (true, [])) (pc' := 27) (yr := (⟨"java/lang/AbstractStringBuilder", "newCapacity", "(I)I"⟩ : MethodName)) (w109 hw) (decl_of (w110 hw) (w113 hw)) (show NoFace Z "java/lang/AbstractStringBuilder" from NoFace.of (w107 hw)) (w112 hw) (w110 hw) (w58 hw) (w113 hw) (by decide) q1 pd_4 rfl (k_newCap l Z a0 hE a t (0 : Int32) n xs cap mN h S0 hc0 hm (by omega)) (fun _ q => (nomatch q)) (fun q => ⟨q, fun _ q => (nomatch q)⟩) rfl rfl (Nat.le_of_ble_eq_true rfl) (Nat.le_of_ble_eq_true rfl) (Nat.le_of_ble_eq_true rfl) (Nat.le_of_ble_eq_true rfl) d_jdk_68_method_9_24 rfl rfl (pureK ?_)
      show W B h 0 0 M (true, []) 27 #[.val (.ref a), .val (.int mN.toInt32), .val (.int cap.toInt32)] [(.int ((max mN (2 * cap + 2)).toInt32)), (.ref t), (.ref a)]
      refine W.aloadN ok (pc' := 28) d_jdk_68_method_9_27 rfl rfl rfl ?_
      refine W.getF ok (pc' := 31) (w64 hw) Via.refl q3 d_jdk_68_method_9_28 rfl ?_
      refine W.ishl ok (pc' := 32) d_jdk_68_method_9_31 rfl ?_
      rw [shl0]
      refine W.callS ok (rest := [(.ref a)]) (cl' := (true, [])) (pc' := 35) (w124 hw) (w125 hw) (w126 hw) (w127 hw) (by decide) pd_5 rfl (k_cpOf l Z a0 hE t xs (max mN (2 * cap + 2)) h q6 (by omega) (by omega)) (fun _ q => (nomatch q)) (fun q => ⟨q, fun _ q => (nomatch q)⟩) rfl rfl (Nat.le_of_ble_eq_true rfl) (Nat.le_of_ble_eq_true rfl) (Nat.le_of_ble_eq_true rfl) (Nat.le_of_ble_eq_true rfl) d_jdk_68_method_9_32 rfl rfl (oldK fun v h1 hq K2 => ?_)
      obtain ⟨u, rfl, hu, Au, Xu⟩ := hq
      show W B h1 1 72 (u :: M) (true, []) 35 #[.val (.ref a), .val (.int mN.toInt32), .val (.int cap.toInt32)] [(.ref u), (.ref a)]
      have ltu := Au.gt
      have ox3 := q1.ext (ext_keep K2)
      have of4 := q2.ext (ext_keep K2)
      have of5 := q3.ext (ext_keep K2)
      have of6 := q4.ext (ext_keep K2)
      have of7 := q5.ext (ext_keep K2)
      refine W.putF ok (pc' := 38) (cl' := (false, [])) (w62 hw) Via.refl of4 ox3 (Or.inl (w63 hw)) (w39 hw) (ty := (.array .byte)) (by decide) rfl rfl (List.mem_cons_of_mem _ (hwsM _ (List.mem_of_getElem? (i := 0) rfl))) (Or.inl (List.mem_of_getElem? (i := 0) rfl)) (fun q => by cases q) rfl d_jdk_68_method_9_35 rfl (fun h8 W9 => ?_)
      have ox10 := ox3.wr W9
      have of11 := of4.same W9
      have of12 := of5.other W9 (Or.inr (slot_ne (Or.inl (w65 hw)) (Or.inl (w63 hw)) (by decide) (t := .byte) (by decide) (t' := (.array .byte)) (by decide)))
      have of13 := of6.other W9 (Or.inr (slot_ne (Or.inl (w295 hw)) (Or.inl (w63 hw)) (by decide) (t := .boolean) (by decide) (t' := (.array .byte)) (by decide)))
      have of14 := of7.other W9 (Or.inr (slot_ne (Or.inl (w103 hw)) (Or.inl (w63 hw)) (by decide) (t := .int) (by decide) (t' := (.array .byte)) (by decide)))
      exact W.retVN ok [u] d_jdk_68_method_9_38 (Nat.le_of_ble_eq_true rfl) (Nat.le_of_ble_eq_true rfl) (fun x q => (List.mem_append.mp q).elim (fun q => (by rw [List.mem_singleton.mp q]; exact (List.mem_cons_self ..))) (fun q => (List.mem_cons_of_mem _ q))) (fun kp => ⟨rfl, u, max mN (2 * cap + 2), List.replicate ((max mN (2 * cap + 2)) - xs.length) 0, ⟨ox10, of11, of12, of13, of14, Au.other W9 (ane (by omega)), Xu.wr W9⟩, Or.inl ⟨rfl, by simp; omega⟩, by omega, by omega, Or.inr ⟨rfl, hu⟩⟩)
    · refine W.ifle ok (pcY := 38) (pcN := 17) d_jdk_68_method_9_14 rfl (by decide) rfl (fun q => absurd q (i32_le (by omega) (by omega) hm)) (fun _ => ?_)
      exact W.retVN ok [] d_jdk_68_method_9_38 (Nat.le_of_ble_eq_true rfl) (Nat.le_of_ble_eq_true rfl) (fun x q => (List.mem_append.mp q).elim (fun q => (nomatch q)) (fun q => q)) (fun kp => ⟨rfl, t, cap, [], by rw [List.append_nil]; exact S0, by rw [List.append_nil]; exact hc0, hm, hcap, Or.inl ⟨rfl, rfl⟩⟩)
  · refine W.aloadN ok (pc' := 1) d_jdk_68_method_9_0 rfl rfl rfl ?_
    refine W.getF ok (pc' := 4) (w62 hw) Via.refl q2 d_jdk_68_method_9_1 rfl ?_
    refine W.lenI ok (pc' := 5) q6 ((2 * cap).toInt32) (by rw [e]) d_jdk_68_method_9_4 rfl ?_
    refine W.aloadN ok (pc' := 6) d_jdk_68_method_9_5 rfl rfl rfl ?_
    refine W.getF ok (pc' := 9) (w64 hw) Via.refl q3 d_jdk_68_method_9_6 rfl ?_
    refine W.ishr ok (pc' := 10) d_jdk_68_method_9_9 rfl ?_
    rw [shr1_nat (by omega)]
    refine W.istoreN ok (pc' := 11) (L' := #[.val (.ref a), .val (.int mN.toInt32), .val (.int cap.toInt32)]) d_jdk_68_method_9_10 rfl rfl ?_
    refine W.iloadN ok (pc' := 12) d_jdk_68_method_9_11 rfl rfl ?_
    refine W.iloadN ok (pc' := 13) d_jdk_68_method_9_12 rfl rfl ?_
    refine W.isub ok (pc' := 14) d_jdk_68_method_9_13 rfl ?_
    rcases Nat.lt_or_ge cap mN with hm | hm
    · refine W.ifle ok (pcY := 38) (pcN := 17) d_jdk_68_method_9_14 rfl (by decide) rfl (fun _ => ?_) (fun q => absurd (by rw [Int32.lt_iff_toInt_lt, i32_sub (by omega) (by omega), i32_len (by omega)]; have : (0 : Int32).toInt = 0 := rfl; omega) q)
      refine W.aloadN ok (pc' := 18) d_jdk_68_method_9_17 rfl rfl rfl ?_
      refine W.aloadN ok (pc' := 19) d_jdk_68_method_9_18 rfl rfl rfl ?_
      refine W.getF ok (pc' := 22) (w62 hw) Via.refl q2 d_jdk_68_method_9_19 rfl ?_
      refine W.aloadN ok (pc' := 23) d_jdk_68_method_9_22 rfl rfl rfl ?_
      refine W.iloadN ok (pc' := 24) d_jdk_68_method_9_23 rfl rfl ?_
      refine W.callW ok (rest := [(.ref t), (.ref a)]) (cl' := (true, [])) (pc' := 27) (yr := (⟨"java/lang/AbstractStringBuilder", "newCapacity", "(I)I"⟩ : MethodName)) (w109 hw) (decl_of (w110 hw) (w113 hw)) (show NoFace Z "java/lang/AbstractStringBuilder" from NoFace.of (w107 hw)) (w112 hw) (w110 hw) (w58 hw) (w113 hw) (by decide) q1 pd_4 rfl (k_newCap l Z a0 hE a t (1 : Int32) n xs cap mN h S0 hc0 hm (by omega)) (fun _ q => (nomatch q)) (fun q => ⟨q, fun _ q => (nomatch q)⟩) rfl rfl (Nat.le_of_ble_eq_true rfl) (Nat.le_of_ble_eq_true rfl) (Nat.le_of_ble_eq_true rfl) (Nat.le_of_ble_eq_true rfl) d_jdk_68_method_9_24 rfl rfl (pureK ?_)
      show W B h 0 0 M (true, []) 27 #[.val (.ref a), .val (.int mN.toInt32), .val (.int cap.toInt32)] [(.int ((max mN (2 * cap + 2)).toInt32)), (.ref t), (.ref a)]
      refine W.aloadN ok (pc' := 28) d_jdk_68_method_9_27 rfl rfl rfl ?_
      refine W.getF ok (pc' := 31) (w64 hw) Via.refl q3 d_jdk_68_method_9_28 rfl ?_
      refine W.ishl ok (pc' := 32) d_jdk_68_method_9_31 rfl ?_
      rw [shl1_nat (by omega)]
      refine W.callS ok (rest := [(.ref a)]) (cl' := (true, [])) (pc' := 35) (w124 hw) (w125 hw) (w126 hw) (w127 hw) (by decide) pd_5 rfl (k_cpOf l Z a0 hE t xs (2 * max mN (2 * cap + 2)) h q6 (by omega) (by omega)) (fun _ q => (nomatch q)) (fun q => ⟨q, fun _ q => (nomatch q)⟩) rfl rfl (Nat.le_of_ble_eq_true rfl) (Nat.le_of_ble_eq_true rfl) (Nat.le_of_ble_eq_true rfl) (Nat.le_of_ble_eq_true rfl) d_jdk_68_method_9_32 rfl rfl (oldK fun v h15 hq K16 => ?_)
      obtain ⟨u, rfl, hu, Au, Xu⟩ := hq
      show W B h15 1 72 (u :: M) (true, []) 35 #[.val (.ref a), .val (.int mN.toInt32), .val (.int cap.toInt32)] [(.ref u), (.ref a)]
      have ltu := Au.gt
      have ox17 := q1.ext (ext_keep K16)
      have of18 := q2.ext (ext_keep K16)
      have of19 := q3.ext (ext_keep K16)
      have of20 := q4.ext (ext_keep K16)
      have of21 := q5.ext (ext_keep K16)
      refine W.putF ok (pc' := 38) (cl' := (false, [])) (w62 hw) Via.refl of18 ox17 (Or.inl (w63 hw)) (w39 hw) (ty := (.array .byte)) (by decide) rfl rfl (List.mem_cons_of_mem _ (hwsM _ (List.mem_of_getElem? (i := 0) rfl))) (Or.inl (List.mem_of_getElem? (i := 0) rfl)) (fun q => by cases q) rfl d_jdk_68_method_9_35 rfl (fun h22 W23 => ?_)
      have ox24 := ox17.wr W23
      have of25 := of18.same W23
      have of26 := of19.other W23 (Or.inr (slot_ne (Or.inl (w65 hw)) (Or.inl (w63 hw)) (by decide) (t := .byte) (by decide) (t' := (.array .byte)) (by decide)))
      have of27 := of20.other W23 (Or.inr (slot_ne (Or.inl (w295 hw)) (Or.inl (w63 hw)) (by decide) (t := .boolean) (by decide) (t' := (.array .byte)) (by decide)))
      have of28 := of21.other W23 (Or.inr (slot_ne (Or.inl (w103 hw)) (Or.inl (w63 hw)) (by decide) (t := .int) (by decide) (t' := (.array .byte)) (by decide)))
      exact W.retVN ok [u] d_jdk_68_method_9_38 (Nat.le_of_ble_eq_true rfl) (Nat.le_of_ble_eq_true rfl) (fun x q => (List.mem_append.mp q).elim (fun q => (by rw [List.mem_singleton.mp q]; exact (List.mem_cons_self ..))) (fun q => (List.mem_cons_of_mem _ q))) (fun kp => ⟨rfl, u, max mN (2 * cap + 2), List.replicate ((2 * max mN (2 * cap + 2)) - xs.length) 0, ⟨ox24, of25, of26, of27, of28, Au.other W23 (ane (by omega)), Xu.wr W23⟩, Or.inr ⟨rfl, by simp; omega⟩, by omega, by omega, Or.inr ⟨rfl, hu⟩⟩)
    · refine W.ifle ok (pcY := 38) (pcN := 17) d_jdk_68_method_9_14 rfl (by decide) rfl (fun q => absurd q (i32_le (by omega) (by omega) hm)) (fun _ => ?_)
      exact W.retVN ok [] d_jdk_68_method_9_38 (Nat.le_of_ble_eq_true rfl) (Nat.le_of_ble_eq_true rfl) (fun x q => (List.mem_append.mp q).elim (fun q => (nomatch q)) (fun q => q)) (fun kp => ⟨rfl, t, cap, [], by rw [List.append_nil]; exact S0, by rw [List.append_nil]; exact hc0, hm, hcap, Or.inl ⟨rfl, rfl⟩⟩)
set_option maxRecDepth 65536 in
set_option maxHeartbeats 4000000 in
theorem k_pCheck (l : Launch) (Z : State) (a0 : Array Value) (hE : Ev Z a0) (i n : Int32) (g : Value) (h : Heap) (hg : g.isRef = true) (h1 : ¬ i < 0) (h2 : i < n) : Con l Z false (⟨"jdk/internal/util/Preconditions", "checkIndex", "(IILjava/util/function/BiFunction;)I"⟩ : MethodName) jdk_41_method_11_code 3 (some .int) ({ frames := 0, cells := 0, slots := 0, locals := 0 } : Room) [(.int i), (.int n), g] h [] false (fun M v h' => v = some (.int i) ∧ h' = h) := by
  have hw := hE.1
  refine Con.intro (L0 := #[.val (.int i), .val (.int n), .val g]) (by decide +kernel) (fun m => ef_of (by rcases XT.refc hg with rfl | ⟨r, rfl⟩ <;> rfl)) ?_
  intro B M hwsM ok
  refine W.iloadN ok (pc' := 1) d_jdk_41_method_11_0 rfl rfl ?_
  refine W.iflt ok (pcY := 9) (pcN := 4) d_jdk_41_method_11_1 rfl (by decide) rfl (fun q => absurd q h1) (fun _ => ?_)
  refine W.iloadN ok (pc' := 5) d_jdk_41_method_11_4 rfl rfl ?_
  refine W.iloadN ok (pc' := 6) d_jdk_41_method_11_5 rfl rfl ?_
  refine W.icmplt ok (pcY := 16) (pcN := 9) d_jdk_41_method_11_6 rfl (by decide) rfl (fun _ => ?_) (fun q => absurd h2 q)
  refine W.iloadN ok (pc' := 17) d_jdk_41_method_11_16 rfl rfl ?_
  exact W.retI ok d_jdk_41_method_11_17 (Nat.le_of_ble_eq_true rfl) (Nat.le_of_ble_eq_true rfl) (fun x (q : x ∈ M) => q) (fun kp => ⟨rfl, rfl⟩)
set_option maxRecDepth 65536 in
set_option maxHeartbeats 4000000 in
theorem k_sCheck (l : Launch) (Z : State) (a0 : Array Value) (hE : Ev Z a0) (i n : Int32) (h : Heap) (h1 : ¬ i < 0) (h2 : i < n) : Con l Z false (⟨"java/lang/String", "checkIndex", "(II)V"⟩ : MethodName) jdk_42_method_155_code 2 none ({ frames := 1, cells := 0, slots := 0, locals := 14 } : Room) [(.int i), (.int n)] h [] false (fun M v h' => v = none ∧ h' = h) := by
  have hw := hE.1
  refine Con.intro (L0 := #[.val (.int i), .val (.int n)]) (by decide +kernel) (fun m => ef_of rfl) ?_
  intro B M hwsM ok
  obtain ⟨g, hg, Fg⟩ := hE.fmt
  refine W.iloadN ok (pc' := 1) d_jdk_42_method_155_0 rfl rfl ?_
  refine W.iloadN ok (pc' := 2) d_jdk_42_method_155_1 rfl rfl ?_
  refine W.getS ok (pc' := 5) (w83 hw) Via.refl Fg d_jdk_42_method_155_2 rfl ?_
  refine W.callS ok (rest := []) (cl' := (true, [])) (pc' := 8) (w85 hw) (w86 hw) (w84 hw) (w87 hw) (by decide) pd_6 rfl (k_pCheck l Z a0 hE i n g h hg h1 h2) (fun _ q => (nomatch q)) (fun q => ⟨q, fun _ q => (nomatch q)⟩) rfl rfl (Nat.le_of_ble_eq_true rfl) (Nat.le_of_ble_eq_true rfl) (Nat.le_of_ble_eq_true rfl) (Nat.le_of_ble_eq_true rfl) d_jdk_42_method_155_5 rfl rfl (pureK ?_)
  show W B h 0 0 M (true, []) 8 #[.val (.int i), .val (.int n)] [(.int i)]
  refine W.pop1 ok (pc' := 9) d_jdk_42_method_155_8 rfl rfl ?_
  exact W.retV ok d_jdk_42_method_155_9 (Nat.le_of_ble_eq_true rfl) (Nat.le_of_ble_eq_true rfl) (fun x (q : x ∈ M) => q) (fun kp => ⟨rfl, rfl⟩)
set_option maxRecDepth 65536 in
set_option maxHeartbeats 4000000 in
theorem k_uLen (l : Launch) (Z : State) (a0 : Array Value) (hE : Ev Z a0) (t : Addr) (bs : List Int32) (h : Heap) (A : ArI Z h t .byte bs) : Con l Z false (⟨"java/lang/StringUTF16", "length", "([B)I"⟩ : MethodName) jdk_52_method_6_code 1 (some .int) ({ frames := 0, cells := 0, slots := 0, locals := 0 } : Room) [(.ref t)] h [] false (fun M v h' => v = some (.int (bs.length.toInt32 >>> ((1 : Int32) &&& 31))) ∧ h' = h) := by
  have hw := hE.1
  refine Con.intro (L0 := #[.val (.ref t)]) (by decide +kernel) (fun m => ef_of rfl) ?_
  intro B M hwsM ok
  refine W.aloadN ok (pc' := 1) d_jdk_52_method_6_0 rfl rfl rfl ?_
  refine W.lenI ok (pc' := 2) A bs.length.toInt32 rfl d_jdk_52_method_6_1 rfl ?_
  refine W.iconst ok (pc' := 3) (1 : Int32) d_jdk_52_method_6_2 rfl rfl ?_
  refine W.ishr ok (pc' := 4) d_jdk_52_method_6_3 rfl ?_
  exact W.retI ok d_jdk_52_method_6_4 (Nat.le_of_ble_eq_true rfl) (Nat.le_of_ble_eq_true rfl) (fun x (q : x ∈ M) => q) (fun kp => ⟨rfl, rfl⟩)
set_option maxRecDepth 65536 in
set_option maxHeartbeats 4000000 in
theorem k_putChar (l : Launch) (Z : State) (a0 : Array Value) (hE : Ev Z a0) (t : Addr) (bs : List Int32) (iN : Nat) (c : Int32) (h : Heap) (A : ArI Z h t .byte bs) (hi : 2 * iN + 1 < bs.length) (hl : bs.length < 2000000) : Con l Z false (⟨"java/lang/StringUTF16", "putChar", "([BII)V"⟩ : MethodName) jdk_52_method_4_code 3 none ({ frames := 0, cells := 0, slots := 0, locals := 0 } : Room) [(.ref t), (.int iN.toInt32), (.int c)] h [t] false (fun M v h' => v = none ∧ ArI Z h' t .byte ((bs.set (2 * iN) (b8 c)).set (2 * iN + 1) (b8 (c >>> ((8 : Int32) &&& 31))))) := by
  have hw := hE.1
  refine Con.intro (L0 := #[.val (.ref t), .val (.int iN.toInt32), .val (.int c)]) (by decide +kernel) (fun m => ef_of rfl) ?_
  intro B M hwsM ok
  refine W.getS ok (pc' := 3) (w254 hw) Via.refl hE.asd d_jdk_52_method_4_0 rfl ?_
  refine W.ifne ok (pcY := 28) (pcN := 6) d_jdk_52_method_4_3 rfl (by decide) rfl (fun q => absurd q (by decide)) (fun _ => ?_)
  refine W.iloadN ok (pc' := 29) d_jdk_52_method_4_28 rfl rfl ?_
  refine W.iconst ok (pc' := 30) (1 : Int32) d_jdk_52_method_4_29 rfl rfl ?_
  refine W.ishl ok (pc' := 31) d_jdk_52_method_4_30 rfl ?_
  generalize hj : (iN.toInt32 <<< ((1 : Int32) &&& 31)) = j
  have ej : j.toInt = 2 * iN := by have := shl1 (iN.toInt32); have := i32_len (n := iN) (by omega); rw [hj] at *; have := rng32 j; omega
  have nj : j.toNatClampNeg = 2 * iN := by simp only [Int32.toNatClampNeg]; omega
  have nj1 : (j + 1).toInt = 2 * iN + 1 := by have := c_iadd j 1; have e1 : (1 : Int32).toInt = 1 := rfl; have := rng32 (j + 1); omega
  have nn1 : (j + 1).toNatClampNeg = 2 * iN + 1 := by simp only [Int32.toNatClampNeg]; omega
  have m0 : ¬ j < 0 := by rw [neg_iff]; omega
  have m1 : ¬ (j + 1) < 0 := by rw [neg_iff]; omega
  refine W.istoreN ok (pc' := 32) (L' := #[.val (.ref t), .val (.int j), .val (.int c)]) d_jdk_52_method_4_31 rfl rfl ?_
  refine W.aloadN ok (pc' := 33) d_jdk_52_method_4_32 rfl rfl rfl ?_
  refine W.iloadN ok (pc' := 34) d_jdk_52_method_4_33 rfl rfl ?_
  refine W.iinc ok (pc' := 37) (L' := #[.val (.ref t), .val (.int (j + (1 : Int32))), .val (.int c)]) (1 : Int32) d_jdk_52_method_4_34 rfl rfl rfl rfl ?_
  refine W.iloadN ok (pc' := 38) d_jdk_52_method_4_37 rfl rfl ?_
  refine W.getS ok (pc' := 41) (w255 hw) Via.refl hE.hi d_jdk_52_method_4_38 rfl ?_
  refine W.ishr ok (pc' := 42) d_jdk_52_method_4_41 rfl ?_
  refine W.i2b ok (pc' := 43) d_jdk_52_method_4_42 rfl ?_
  refine W.bastore ok (pc' := 44) (cl' := (false, [])) A m0 (by rw [nj]; omega) (hwsM _ (List.mem_of_getElem? (i := 0) rfl)) (Or.inl (List.mem_of_getElem? (i := 0) rfl)) (fun q => by cases q) rfl d_jdk_52_method_4_43 rfl (fun h1 Wr2 A3 => ?_)
  refine W.aloadN ok (pc' := 45) d_jdk_52_method_4_44 rfl rfl rfl ?_
  refine W.iloadN ok (pc' := 46) d_jdk_52_method_4_45 rfl rfl ?_
  refine W.iloadN ok (pc' := 47) d_jdk_52_method_4_46 rfl rfl ?_
  refine W.getS ok (pc' := 50) (w256 hw) Via.refl hE.lo d_jdk_52_method_4_47 rfl ?_
  refine W.ishr ok (pc' := 51) d_jdk_52_method_4_50 rfl ?_
  refine W.i2b ok (pc' := 52) d_jdk_52_method_4_51 rfl ?_
  refine W.bastore ok (pc' := 53) (cl' := (false, [])) A3 m1 (by rw [nn1, List.length_set]; omega) (hwsM _ (List.mem_of_getElem? (i := 0) rfl)) (Or.inl (List.mem_of_getElem? (i := 0) rfl)) (fun q => by cases q) rfl d_jdk_52_method_4_52 rfl (fun h4 Wr5 A6 => ?_)
  exact W.retV ok d_jdk_52_method_4_53 (Nat.le_of_ble_eq_true rfl) (Nat.le_of_ble_eq_true rfl) (fun x (q : x ∈ M) => q) (fun kp => ⟨rfl, A6.cast (by rw [nj, nn1, shr0, b8_b8, b8_b8])⟩)
set_option maxRecDepth 65536 in
set_option maxHeartbeats 4000000 in
theorem k_nbl (l : Launch) (Z : State) (a0 : Array Value) (hE : Ev Z a0) (nN : Nat) (h : Heap) (hn : nN < 1000000) : Con l Z false (⟨"java/lang/StringUTF16", "newBytesLength", "(I)I"⟩ : MethodName) jdk_52_method_3_code 1 (some .int) ({ frames := 0, cells := 0, slots := 0, locals := 0 } : Room) [(.int nN.toInt32)] h [] false (fun M v h' => v = some (.int (nN.toInt32 <<< ((1 : Int32) &&& 31))) ∧ h' = h) := by
  have hw := hE.1
  refine Con.intro (L0 := #[.val (.int nN.toInt32)]) (by decide +kernel) (fun m => ef_of rfl) ?_
  intro B M hwsM ok
  refine W.iloadN ok (pc' := 1) d_jdk_52_method_3_0 rfl rfl ?_
  refine W.ifge ok (pcY := 12) (pcN := 4) d_jdk_52_method_3_1 rfl (by decide) rfl (fun q => absurd q (i32_nn (by omega))) (fun _ => ?_)
  refine W.iloadN ok (pc' := 13) d_jdk_52_method_3_12 rfl rfl ?_
  refine W.ldcI ok (pc' := 15) (w250 hw) d_jdk_52_method_3_13 rfl ?_
  refine W.icmplt ok (pcY := 55) (pcN := 18) d_jdk_52_method_3_15 rfl (by decide) rfl (fun _ => ?_) (fun q => absurd (by rw [Int32.lt_iff_toInt_lt, i32_len (by omega)]; have : (1073741823 : Int32).toInt = 1073741823 := rfl; omega) q)
  refine W.iloadN ok (pc' := 56) d_jdk_52_method_3_55 rfl rfl ?_
  refine W.iconst ok (pc' := 57) (1 : Int32) d_jdk_52_method_3_56 rfl rfl ?_
  refine W.ishl ok (pc' := 58) d_jdk_52_method_3_57 rfl ?_
  exact W.retI ok d_jdk_52_method_3_58 (Nat.le_of_ble_eq_true rfl) (Nat.le_of_ble_eq_true rfl) (fun x (q : x ∈ M) => q) (fun kp => ⟨rfl, rfl⟩)
set_option maxRecDepth 65536 in
set_option maxHeartbeats 4000000 in
theorem k_nbf (l : Launch) (Z : State) (a0 : Array Value) (hE : Ev Z a0) (nN : Nat) (h : Heap) (hn : nN ≤ 36) : Con l Z false (⟨"java/lang/StringUTF16", "newBytesFor", "(I)[B"⟩ : MethodName) jdk_52_method_2_code 1 (some (.array .byte)) ({ frames := 1, cells := 1, slots := 72, locals := 12 } : Room) [(.int nN.toInt32)] h [] true (fun M v h' => ∃ t, v = some (.ref t) ∧ h.size ≤ t ∧ ArI Z h' t .byte (List.replicate (2 * nN) 0) ∧ Exa Z h' t "[B") := by
  have hw := hE.1
  refine Con.intro (L0 := #[.val (.int nN.toInt32)]) (by decide +kernel) (fun m => ef_of rfl) ?_
  intro B M hwsM ok
  refine W.iloadN ok (pc' := 1) d_jdk_52_method_2_0 rfl rfl ?_
  refine W.callS ok (rest := []) (cl' := (true, [])) (pc' := 4) (w247 hw) (w248 hw) (w21 hw) (w249 hw) (by decide) pd_4 rfl (k_nbl l Z a0 hE nN h (by omega)) (fun _ q => (nomatch q)) (fun q => ⟨q, fun _ q => (nomatch q)⟩) rfl rfl (Nat.le_of_ble_eq_true rfl) (Nat.le_of_ble_eq_true rfl) (Nat.le_of_ble_eq_true rfl) (Nat.le_of_ble_eq_true rfl) d_jdk_52_method_2_1 rfl rfl (pureK ?_)
  show W B h 0 0 M (true, []) 4 #[.val (.int nN.toInt32)] [(.int (nN.toInt32 <<< ((1 : Int32) &&& 31)))]
  rw [shl1_nat (by omega)]
  refine W.newBE ok (pc' := 6) (cap := 72) (w23 hw) (i32_nn (by omega)) (by rw [nat_i32 (by omega)]; omega) (by decide) d_jdk_52_method_2_4 rfl (Nat.le_of_ble_eq_true rfl) (Nat.le_of_ble_eq_true rfl) (fun a1 h2 z3 ea4 E5 A6 X7 => ?_)
  replace A6 := A6.cast (cs' := List.replicate (2 * nN) 0) (by rw [nat_i32 (by omega)])
  exact W.retA ok d_jdk_52_method_2_6 rfl rfl (Nat.le_of_ble_eq_true rfl) (Nat.le_of_ble_eq_true rfl) (fun x q => (List.mem_cons.mp q).elim (fun e => e ▸ (List.mem_cons_self ..)) (fun q => (List.mem_cons_of_mem _ q))) (fun kp => ⟨a1, rfl, Nat.le_of_eq ea4, A6, X7⟩)
set_option maxRecDepth 65536 in
set_option maxHeartbeats 4000000 in
theorem k_getChar (l : Launch) (Z : State) (a0 : Array Value) (hE : Ev Z a0) (t : Addr) (bs : List Int32) (iN : Nat) (u w : Int32) (h : Heap) (A : ArI Z h t .byte bs) (h1 : bs[2 * iN]? = some u) (h2 : bs[2 * iN + 1]? = some w) (hl : bs.length < 2000000) : Con l Z false (⟨"java/lang/StringUTF16", "getChar", "([BI)C"⟩ : MethodName) jdk_52_method_5_code 2 (some .char) ({ frames := 0, cells := 0, slots := 0, locals := 0 } : Room) [(.ref t), (.int iN.toInt32)] h [] false (fun M v h' => v = some (.int (c16 (((u &&& 255) <<< ((0 : Int32) &&& 31)) ||| ((w &&& 255) <<< ((8 : Int32) &&& 31))))) ∧ h' = h) := by
  have hw := hE.1
  refine Con.intro (L0 := #[.val (.ref t), .val (.int iN.toInt32)]) (by decide +kernel) (fun m => ef_of rfl) ?_
  intro B M hwsM ok
  refine W.getS ok (pc' := 3) (w254 hw) Via.refl hE.asd d_jdk_52_method_5_0 rfl ?_
  refine W.ifne ok (pcY := 28) (pcN := 6) d_jdk_52_method_5_3 rfl (by decide) rfl (fun q => absurd q (by decide)) (fun _ => ?_)
  refine W.iloadN ok (pc' := 29) d_jdk_52_method_5_28 rfl rfl ?_
  refine W.iconst ok (pc' := 30) (1 : Int32) d_jdk_52_method_5_29 rfl rfl ?_
  refine W.ishl ok (pc' := 31) d_jdk_52_method_5_30 rfl ?_
  generalize hj : (iN.toInt32 <<< ((1 : Int32) &&& 31)) = j
  have l1 := lt_of_at h1
  have l2 := lt_of_at h2
  have ej : j.toInt = 2 * iN := by have := shl1 (iN.toInt32); have := i32_len (n := iN) (by omega); rw [hj] at *; have := rng32 j; omega
  have nj : j.toNatClampNeg = 2 * iN := by simp only [Int32.toNatClampNeg]; omega
  have nj1 : (j + 1).toInt = 2 * iN + 1 := by have := c_iadd j 1; have e1 : (1 : Int32).toInt = 1 := rfl; have := rng32 (j + 1); omega
  have nn1 : (j + 1).toNatClampNeg = 2 * iN + 1 := by simp only [Int32.toNatClampNeg]; omega
  have m0 : ¬ j < 0 := by rw [neg_iff]; omega
  have m1 : ¬ (j + 1) < 0 := by rw [neg_iff]; omega
  refine W.istoreN ok (pc' := 32) (L' := #[.val (.ref t), .val (.int j)]) d_jdk_52_method_5_31 rfl rfl ?_
  refine W.aloadN ok (pc' := 33) d_jdk_52_method_5_32 rfl rfl rfl ?_
  refine W.iloadN ok (pc' := 34) d_jdk_52_method_5_33 rfl rfl ?_
  refine W.iinc ok (pc' := 37) (L' := #[.val (.ref t), .val (.int (j + (1 : Int32)))]) (1 : Int32) d_jdk_52_method_5_34 rfl rfl rfl rfl ?_
  refine W.baload ok (pc' := 38) A u m0 (by rw [nj]; exact h1) d_jdk_52_method_5_37 rfl ?_
  refine W.sipush ok (pc' := 41) (255 : Int32) d_jdk_52_method_5_38 rfl rfl ?_
  refine W.iand ok (pc' := 42) d_jdk_52_method_5_41 rfl ?_
  refine W.getS ok (pc' := 45) (w255 hw) Via.refl hE.hi d_jdk_52_method_5_42 rfl ?_
  refine W.ishl ok (pc' := 46) d_jdk_52_method_5_45 rfl ?_
  refine W.aloadN ok (pc' := 47) d_jdk_52_method_5_46 rfl rfl rfl ?_
  refine W.iloadN ok (pc' := 48) d_jdk_52_method_5_47 rfl rfl ?_
  refine W.baload ok (pc' := 49) A w m1 (by rw [nn1]; exact h2) d_jdk_52_method_5_48 rfl ?_
  refine W.sipush ok (pc' := 52) (255 : Int32) d_jdk_52_method_5_49 rfl rfl ?_
  refine W.iand ok (pc' := 53) d_jdk_52_method_5_52 rfl ?_
  refine W.getS ok (pc' := 56) (w256 hw) Via.refl hE.lo d_jdk_52_method_5_53 rfl ?_
  refine W.ishl ok (pc' := 57) d_jdk_52_method_5_56 rfl ?_
  refine W.ior ok (pc' := 58) d_jdk_52_method_5_57 rfl ?_
  refine W.i2c ok (pc' := 59) d_jdk_52_method_5_58 rfl ?_
  exact W.retC ok d_jdk_52_method_5_59 (c16_c16 _) (Nat.le_of_ble_eq_true rfl) (Nat.le_of_ble_eq_true rfl) (fun x (q : x ∈ M) => q) (fun kp => ⟨rfl, rfl⟩)
set_option maxRecDepth 65536 in
set_option maxHeartbeats 4000000 in
theorem k_uCheck (l : Launch) (Z : State) (a0 : Array Value) (hE : Ev Z a0) (t : Addr) (bs : List Int32) (iN : Nat) (h : Heap) (A : ArI Z h t .byte bs) (hi : 2 * iN + 1 < bs.length) (hl : bs.length < 2000000) : Con l Z false (⟨"java/lang/StringUTF16", "checkIndex", "(I[B)V"⟩ : MethodName) jdk_52_method_91_code 2 none ({ frames := 2, cells := 0, slots := 0, locals := 27 } : Room) [(.int iN.toInt32), (.ref t)] h [] false (fun M v h' => v = none ∧ h' = h) := by
  have hw := hE.1
  refine Con.intro (L0 := #[.val (.int iN.toInt32), .val (.ref t)]) (by decide +kernel) (fun m => ef_of rfl) ?_
  intro B M hwsM ok
  have m1 : iN.toInt32 < bs.length.toInt32 >>> ((1 : Int32) &&& 31) := by rw [Int32.lt_iff_toInt_lt, shr1, i32_len (by omega), i32_len (by omega)]; omega
  have m0 : ¬ iN.toInt32 < 0 := by rw [neg_iff, i32_len (by omega)]; omega
  refine W.iloadN ok (pc' := 1) d_jdk_52_method_91_0 rfl rfl ?_
  refine W.aloadN ok (pc' := 2) d_jdk_52_method_91_1 rfl rfl rfl ?_
  refine W.callS ok (rest := [(.int iN.toInt32)]) (cl' := (true, [])) (pc' := 5) (w266 hw) (w267 hw) (w21 hw) (w268 hw) (by decide) pd_7 rfl (k_uLen l Z a0 hE t bs h A) (fun _ q => (nomatch q)) (fun q => ⟨q, fun _ q => (nomatch q)⟩) rfl rfl (Nat.le_of_ble_eq_true rfl) (Nat.le_of_ble_eq_true rfl) (Nat.le_of_ble_eq_true rfl) (Nat.le_of_ble_eq_true rfl) d_jdk_52_method_91_2 rfl rfl (pureK ?_)
  show W B h 0 0 M (true, []) 5 #[.val (.int iN.toInt32), .val (.ref t)] [(.int (bs.length.toInt32 >>> ((1 : Int32) &&& 31))), (.int iN.toInt32)]
  refine W.callS ok (rest := []) (cl' := (true, [])) (pc' := 8) (w269 hw) (w81 hw) (w7 hw) (w82 hw) (by decide) pd_8 rfl (k_sCheck l Z a0 hE (iN.toInt32) (bs.length.toInt32 >>> ((1 : Int32) &&& 31)) h m0 m1) (fun _ q => (nomatch q)) (fun q => ⟨q, fun _ q => (nomatch q)⟩) rfl rfl (Nat.le_of_ble_eq_true rfl) (Nat.le_of_ble_eq_true rfl) (Nat.le_of_ble_eq_true rfl) (Nat.le_of_ble_eq_true rfl) d_jdk_52_method_91_5 rfl rfl (pureK0 ?_)
  show W B h 0 0 M (true, []) 8 #[.val (.int iN.toInt32), .val (.ref t)] []
  exact W.retV ok d_jdk_52_method_91_8 (Nat.le_of_ble_eq_true rfl) (Nat.le_of_ble_eq_true rfl) (fun x (q : x ∈ M) => q) (fun kp => ⟨rfl, rfl⟩)
set_option maxRecDepth 65536 in
set_option maxHeartbeats 4000000 in
theorem k_chW (l : Launch) (Z : State) (a0 : Array Value) (hE : Ev Z a0) (t : Addr) (bs : List Int32) (iN : Nat) (u w : Int32) (h : Heap) (A : ArI Z h t .byte bs) (h1 : bs[2 * iN]? = some u) (h2 : bs[2 * iN + 1]? = some w) (hl : bs.length < 2000000) : Con l Z false (⟨"java/lang/StringUTF16", "charAt", "([BI)C"⟩ : MethodName) jdk_52_method_83_code 2 (some .char) ({ frames := 3, cells := 0, slots := 0, locals := 40 } : Room) [(.ref t), (.int iN.toInt32)] h [] false (fun M v h' => v = some (.int (c16 (((u &&& 255) <<< ((0 : Int32) &&& 31)) ||| ((w &&& 255) <<< ((8 : Int32) &&& 31))))) ∧ h' = h) := by
  have hw := hE.1
  refine Con.intro (L0 := #[.val (.ref t), .val (.int iN.toInt32)]) (by decide +kernel) (fun m => ef_of rfl) ?_
  intro B M hwsM ok
  refine W.iloadN ok (pc' := 1) d_jdk_52_method_83_0 rfl rfl ?_
  refine W.aloadN ok (pc' := 2) d_jdk_52_method_83_1 rfl rfl rfl ?_
  refine W.callS ok (rest := []) (cl' := (true, [])) (pc' := 5) (w263 hw) (w264 hw) (w21 hw) (w265 hw) (by decide) pd_9 rfl (k_uCheck l Z a0 hE t bs iN h A (lt_of_at h2) hl) (fun _ q => (nomatch q)) (fun q => ⟨q, fun _ q => (nomatch q)⟩) rfl rfl (Nat.le_of_ble_eq_true rfl) (Nat.le_of_ble_eq_true rfl) (Nat.le_of_ble_eq_true rfl) (Nat.le_of_ble_eq_true rfl) d_jdk_52_method_83_2 rfl rfl (pureK0 ?_)
  show W B h 0 0 M (true, []) 5 #[.val (.ref t), .val (.int iN.toInt32)] []
  refine W.aloadN ok (pc' := 6) d_jdk_52_method_83_5 rfl rfl rfl ?_
  refine W.iloadN ok (pc' := 7) d_jdk_52_method_83_6 rfl rfl ?_
  refine W.callS ok (rest := []) (cl' := (true, [])) (pc' := 10) (w257 hw) (w258 hw) (w21 hw) (w259 hw) (by decide) pd_10 rfl (k_getChar l Z a0 hE t bs iN u w h A h1 h2 hl) (fun _ q => (nomatch q)) (fun q => ⟨q, fun _ q => (nomatch q)⟩) rfl rfl (Nat.le_of_ble_eq_true rfl) (Nat.le_of_ble_eq_true rfl) (Nat.le_of_ble_eq_true rfl) (Nat.le_of_ble_eq_true rfl) d_jdk_52_method_83_7 rfl rfl (pureK ?_)
  show W B h 0 0 M (true, []) 10 #[.val (.ref t), .val (.int iN.toInt32)] [(.int (c16 (((u &&& 255) <<< ((0 : Int32) &&& 31)) ||| ((w &&& 255) <<< ((8 : Int32) &&& 31)))))]
  exact W.retC ok d_jdk_52_method_83_10 (c16_c16 _) (Nat.le_of_ble_eq_true rfl) (Nat.le_of_ble_eq_true rfl) (fun x (q : x ∈ M) => q) (fun kp => ⟨rfl, rfl⟩)
set_option maxRecDepth 65536 in
set_option maxHeartbeats 4000000 in
theorem k_cfis (l : Launch) (Z : State) (a0 : Array Value) (hE : Ev Z a0) (oN sN lN : Nat) (g : Value) (h : Heap) (hg : g.isRef = true) (hs : oN + sN ≤ lN) (hl : lN < 1000000) : Con l Z false (⟨"jdk/internal/util/Preconditions", "checkFromIndexSize", "(IIILjava/util/function/BiFunction;)I"⟩ : MethodName) jdk_41_method_13_code 4 (some .int) ({ frames := 0, cells := 0, slots := 0, locals := 0 } : Room) [(.int oN.toInt32), (.int sN.toInt32), (.int lN.toInt32), g] h [] false (fun M v h' => v = some (.int oN.toInt32) ∧ h' = h) := by
  have hw := hE.1
  refine Con.intro (L0 := #[.val (.int oN.toInt32), .val (.int sN.toInt32), .val (.int lN.toInt32), .val g]) (by decide +kernel) (fun m => ef_of (by rcases XT.refc hg with rfl | ⟨r, rfl⟩ <;> rfl)) ?_
  intro B M hwsM ok
  refine W.iloadN ok (pc' := 1) d_jdk_41_method_13_0 rfl rfl ?_
  refine W.iloadN ok (pc' := 2) d_jdk_41_method_13_1 rfl rfl ?_
  refine W.ior ok (pc' := 3) d_jdk_41_method_13_2 rfl ?_
  refine W.iloadN ok (pc' := 4) d_jdk_41_method_13_3 rfl rfl ?_
  refine W.ior ok (pc' := 5) d_jdk_41_method_13_4 rfl ?_
  refine W.iflt ok (pcY := 15) (pcN := 8) d_jdk_41_method_13_5 rfl (by decide) rfl (fun q => absurd q (by rw [neg_iff]; have := or_nn (or_nn (x := lN.toInt32) (y := oN.toInt32) (by rw [i32_len (by omega)]; omega) (by rw [i32_len (by omega)]; omega)) (y := sN.toInt32) (by rw [i32_len (by omega)]; omega); omega)) (fun _ => ?_)
  refine W.iloadN ok (pc' := 9) d_jdk_41_method_13_8 rfl rfl ?_
  refine W.iloadN ok (pc' := 10) d_jdk_41_method_13_9 rfl rfl ?_
  refine W.iloadN ok (pc' := 11) d_jdk_41_method_13_10 rfl rfl ?_
  refine W.isub ok (pc' := 12) d_jdk_41_method_13_11 rfl ?_
  rw [i32_sub (by omega) (by omega)]
  refine W.icmple ok (pcY := 23) (pcN := 15) d_jdk_41_method_13_12 rfl (by decide) rfl (fun q => absurd q (by rw [i32_lt (by omega) (by omega)]; omega)) (fun _ => ?_)
  refine W.iloadN ok (pc' := 24) d_jdk_41_method_13_23 rfl rfl ?_
  exact W.retI ok d_jdk_41_method_13_24 (Nat.le_of_ble_eq_true rfl) (Nat.le_of_ble_eq_true rfl) (fun x (q : x ∈ M) => q) (fun kp => ⟨rfl, rfl⟩)
set_option maxRecDepth 65536 in
set_option maxHeartbeats 4000000 in
theorem k_sBnd (l : Launch) (Z : State) (a0 : Array Value) (hE : Ev Z a0) (oN sN lN : Nat) (h : Heap) (hs : oN + sN ≤ lN) (hl : lN < 1000000) : Con l Z false (⟨"java/lang/String", "checkBoundsOffCount", "(III)I"⟩ : MethodName) jdk_42_method_157_code 3 (some .int) ({ frames := 1, cells := 0, slots := 0, locals := 15 } : Room) [(.int oN.toInt32), (.int sN.toInt32), (.int lN.toInt32)] h [] false (fun M v h' => v = some (.int oN.toInt32) ∧ h' = h) := by
  have hw := hE.1
  refine Con.intro (L0 := #[.val (.int oN.toInt32), .val (.int sN.toInt32), .val (.int lN.toInt32)]) (by decide +kernel) (fun m => ef_of rfl) ?_
  intro B M hwsM ok
  obtain ⟨g, hg, Fg⟩ := hE.fmt
  refine W.iloadN ok (pc' := 1) d_jdk_42_method_157_0 rfl rfl ?_
  refine W.iloadN ok (pc' := 2) d_jdk_42_method_157_1 rfl rfl ?_
  refine W.iloadN ok (pc' := 3) d_jdk_42_method_157_2 rfl rfl ?_
  refine W.getS ok (pc' := 6) (w83 hw) Via.refl Fg d_jdk_42_method_157_3 rfl ?_
  refine W.callS ok (rest := []) (cl' := (true, [])) (pc' := 9) (w288 hw) (w289 hw) (w84 hw) (w290 hw) (by decide) pd_11 rfl (k_cfis l Z a0 hE oN sN lN g h hg hs hl) (fun _ q => (nomatch q)) (fun q => ⟨q, fun _ q => (nomatch q)⟩) rfl rfl (Nat.le_of_ble_eq_true rfl) (Nat.le_of_ble_eq_true rfl) (Nat.le_of_ble_eq_true rfl) (Nat.le_of_ble_eq_true rfl) d_jdk_42_method_157_6 rfl rfl (pureK ?_)
  show W B h 0 0 M (true, []) 9 #[.val (.int oN.toInt32), .val (.int sN.toInt32), .val (.int lN.toInt32)] [(.int oN.toInt32)]
  exact W.retI ok d_jdk_42_method_157_9 (Nat.le_of_ble_eq_true rfl) (Nat.le_of_ble_eq_true rfl) (fun x (q : x ∈ M) => q) (fun kp => ⟨rfl, rfl⟩)
set_option maxRecDepth 65536 in
set_option maxHeartbeats 4000000 in
theorem k_uBnd (l : Launch) (Z : State) (a0 : Array Value) (hE : Ev Z a0) (d : Addr) (xs : List Int32) (oN sN lN : Nat) (h : Heap) (A : ArI Z h d .byte xs) (he : xs.length = 2 * lN) (hs : oN + sN ≤ lN) (hl : lN < 1000000) : Con l Z false (⟨"java/lang/StringUTF16", "checkBoundsOffCount", "(II[B)V"⟩ : MethodName) jdk_52_method_94_code 3 none ({ frames := 2, cells := 0, slots := 0, locals := 29 } : Room) [(.int oN.toInt32), (.int sN.toInt32), (.ref d)] h [] false (fun M v h' => v = none ∧ h' = h) := by
  have hw := hE.1
  refine Con.intro (L0 := #[.val (.int oN.toInt32), .val (.int sN.toInt32), .val (.ref d)]) (by decide +kernel) (fun m => ef_of rfl) ?_
  intro B M hwsM ok
  refine W.iloadN ok (pc' := 1) d_jdk_52_method_94_0 rfl rfl ?_
  refine W.iloadN ok (pc' := 2) d_jdk_52_method_94_1 rfl rfl ?_
  refine W.aloadN ok (pc' := 3) d_jdk_52_method_94_2 rfl rfl rfl ?_
  refine W.callS ok (rest := [(.int sN.toInt32), (.int oN.toInt32)]) (cl' := (true, [])) (pc' := 6) (w266 hw) (w267 hw) (w21 hw) (w268 hw) (by decide) pd_7 rfl (k_uLen l Z a0 hE d xs h A) (fun _ q => (nomatch q)) (fun q => ⟨q, fun _ q => (nomatch q)⟩) rfl rfl (Nat.le_of_ble_eq_true rfl) (Nat.le_of_ble_eq_true rfl) (Nat.le_of_ble_eq_true rfl) (Nat.le_of_ble_eq_true rfl) d_jdk_52_method_94_3 rfl rfl (pureK ?_)
  show W B h 0 0 M (true, []) 6 #[.val (.int oN.toInt32), .val (.int sN.toInt32), .val (.ref d)] [(.int (xs.length.toInt32 >>> ((1 : Int32) &&& 31))), (.int sN.toInt32), (.int oN.toInt32)]
  rw [he, shr1_nat hl]
  refine W.callS ok (rest := []) (cl' := (true, [])) (pc' := 9) (w285 hw) (w286 hw) (w7 hw) (w287 hw) (by decide) pd_3 rfl (k_sBnd l Z a0 hE oN sN lN h hs hl) (fun _ q => (nomatch q)) (fun q => ⟨q, fun _ q => (nomatch q)⟩) rfl rfl (Nat.le_of_ble_eq_true rfl) (Nat.le_of_ble_eq_true rfl) (Nat.le_of_ble_eq_true rfl) (Nat.le_of_ble_eq_true rfl) d_jdk_52_method_94_6 rfl rfl (pureK ?_)
  show W B h 0 0 M (true, []) 9 #[.val (.int oN.toInt32), .val (.int sN.toInt32), .val (.ref d)] [(.int oN.toInt32)]
  refine W.pop1 ok (pc' := 10) d_jdk_52_method_94_9 rfl rfl ?_
  exact W.retV ok d_jdk_52_method_94_10 (Nat.le_of_ble_eq_true rfl) (Nat.le_of_ble_eq_true rfl) (fun x (q : x ∈ M) => q) (fun kp => ⟨rfl, rfl⟩)
set_option maxRecDepth 65536 in
set_option maxHeartbeats 4000000 in
theorem k_uInf (l : Launch) (Z : State) (a0 : Array Value) (hE : Ev Z a0) (s d : Addr) (ds sb pre rest : List Int32) (pN tot : Nat) (h : Heap) (As : ArI Z h s .byte (ds.map b8 ++ sb)) (hr : ∀ c ∈ ds, 0 ≤ c.toInt ∧ c.toInt ≤ 255) (Ad : ArI Z h d .byte (pre ++ rest)) (hp : pre.length = 2 * pN) (hl : 2 * ds.length ≤ rest.length) (he : (pre ++ rest).length = 2 * tot) (ht : tot < 500000) (hsd : s ≠ d) : Con l Z false (⟨"java/lang/StringUTF16", "inflate", "([BI[BII)V"⟩ : MethodName) jdk_52_method_86_code 6 none ({ frames := 3, cells := 0, slots := 0, locals := 43 } : Room) [(.ref s), (.int (0 : Int32)), (.ref d), (.int pN.toInt32), (.int ds.length.toInt32)] h [d] false (fun M v h' => v = none ∧ ArI Z h' d .byte (pre ++ wide ds ++ rest.drop (2 * ds.length))) := by
  have hw := hE.1
  refine Con.intro (L0 := #[.val (.ref s), .val (.int (0 : Int32)), .val (.ref d), .val (.int pN.toInt32), .val (.int ds.length.toInt32), .unset]) (by decide +kernel) (fun m => ef_of rfl) ?_
  intro B M hwsM ok
  have he' := he
  rw [List.length_append] at he'
  refine W.iloadN ok (pc' := 1) d_jdk_52_method_86_0 rfl rfl ?_
  refine W.iload ok (pc' := 3) d_jdk_52_method_86_1 rfl rfl ?_
  refine W.aloadN ok (pc' := 4) d_jdk_52_method_86_3 rfl rfl rfl ?_
  refine W.callS ok (rest := []) (cl' := (true, [])) (pc' := 7) (w282 hw) (w283 hw) (w21 hw) (w284 hw) (by decide) pd_12 rfl (k_uBnd l Z a0 hE d (pre ++ rest) pN ds.length tot h Ad he (by omega) (by omega)) (fun _ q => (nomatch q)) (fun q => ⟨q, fun _ q => (nomatch q)⟩) rfl rfl (Nat.le_of_ble_eq_true rfl) (Nat.le_of_ble_eq_true rfl) (Nat.le_of_ble_eq_true rfl) (Nat.le_of_ble_eq_true rfl) d_jdk_52_method_86_4 rfl rfl (pureK0 ?_)
  show W B h 0 0 M (true, []) 7 #[.val (.ref s), .val (.int (0 : Int32)), .val (.ref d), .val (.int pN.toInt32), .val (.int ds.length.toInt32), .unset] []
  refine W.iconst ok (pc' := 8) (0 : Int32) d_jdk_52_method_86_7 rfl rfl ?_
  refine W.istore ok (pc' := 10) (L' := #[.val (.ref s), .val (.int (0 : Int32)), .val (.ref d), .val (.int pN.toInt32), .val (.int ds.length.toInt32), .val (.int (0 : Int32))]) d_jdk_52_method_86_8 rfl rfl ?_
  have loop : ∀ (m i : Nat) (hh : Heap) (cl : Cl) (rs : List Int32), i + m = ds.length → ArI Z hh s .byte (ds.map b8 ++ sb) → ArI Z hh d .byte (pre ++ wide (ds.take i) ++ rs) → 2 * m ≤ rs.length → rs = rest.drop (2 * i) → W B hh 0 0 M cl 10 #[.val (.ref s), .val (.int i.toInt32), .val (.ref d), .val (.int ((pN + i).toInt32)), .val (.int ds.length.toInt32), .val (.int i.toInt32)] [] := by
    intro m
    induction m with
    | zero =>
      intro i hh cl rs hi Bs Bd hm ers
      refine W.iload ok (pc' := 12) d_jdk_52_method_86_10 rfl rfl ?_
      refine W.iload ok (pc' := 14) d_jdk_52_method_86_12 rfl rfl ?_
      refine W.icmpge ok (pcY := 41) (pcN := 17) d_jdk_52_method_86_14 rfl (by decide) rfl (fun q => absurd q (by rw [i32_lt (by omega) (by omega)]; omega)) (fun _ => ?_)
      exact W.retV ok d_jdk_52_method_86_41 (Nat.le_of_ble_eq_true rfl) (Nat.le_of_ble_eq_true rfl) (fun x (q : x ∈ M) => q) (fun kp => ⟨rfl, Bd.cast (by rw [ers, show i = ds.length by omega, List.take_length])⟩)
    | succ m ih =>
      intro i hh cl rs hi Bs Bd hm ers
      obtain ⟨c, hc⟩ := at_lt (cs := ds) (i := i) (by omega)
      have rc := hr c (mem_of_at hc)
      obtain ⟨x, y, rs', rfl⟩ : ∃ x y rs', rs = x :: y :: rs' := by
        match rs, hm with
        | [], q => exact absurd q (by simp)
        | [_], q => exact absurd q (by simp; omega)
        | x :: y :: r, _ => exact ⟨x, y, r, rfl⟩
      have lw : (pre ++ wide (ds.take i)).length = 2 * (pN + i) := by rw [List.length_append, wide_length, List.length_take, hp]; omega
      have ltot : (pre ++ wide (ds.take i) ++ x :: y :: rs').length < 2000000 := by
        rw [List.length_append, lw, ers, List.length_drop]; omega
      refine W.iload ok (pc' := 12) d_jdk_52_method_86_10 rfl rfl ?_
      refine W.iload ok (pc' := 14) d_jdk_52_method_86_12 rfl rfl ?_
      refine W.icmpge ok (pcY := 41) (pcN := 17) d_jdk_52_method_86_14 rfl (by decide) rfl (fun _ => ?_) (fun q => absurd ((i32_lt (by omega) (by omega)).mpr (by omega)) q)
      refine W.aloadN ok (pc' := 18) d_jdk_52_method_86_17 rfl rfl rfl ?_
      refine W.iloadN ok (pc' := 19) d_jdk_52_method_86_18 rfl rfl ?_
      refine W.iinc ok (pc' := 22) (L' := #[.val (.ref s), .val (.int i.toInt32), .val (.ref d), .val (.int (((pN + i).toInt32) + (1 : Int32))), .val (.int ds.length.toInt32), .val (.int i.toInt32)]) (1 : Int32) d_jdk_52_method_86_19 rfl rfl rfl rfl ?_
      refine W.aloadN ok (pc' := 23) d_jdk_52_method_86_22 rfl rfl rfl ?_
      refine W.iloadN ok (pc' := 24) d_jdk_52_method_86_23 rfl rfl ?_
      refine W.iinc ok (pc' := 27) (L' := #[.val (.ref s), .val (.int (i.toInt32 + (1 : Int32))), .val (.ref d), .val (.int (((pN + i).toInt32) + (1 : Int32))), .val (.int ds.length.toInt32), .val (.int i.toInt32)]) (1 : Int32) d_jdk_52_method_86_24 rfl rfl rfl rfl ?_
      refine W.baload ok (pc' := 28) Bs (b8 c) (i32_nn (by omega)) (by rw [nat_i32 (by omega), List.getElem?_append_left (by rw [List.length_map]; omega), List.getElem?_map, hc]; rfl) d_jdk_52_method_86_27 rfl ?_
      refine W.sipush ok (pc' := 31) (255 : Int32) d_jdk_52_method_86_28 rfl rfl ?_
      refine W.iand ok (pc' := 32) d_jdk_52_method_86_31 rfl ?_
      rw [b8_and rc]
      refine W.callS ok (rest := []) (cl' := (false, cl.2)) (pc' := 35) (w251 hw) (w252 hw) (w21 hw) (w253 hw) (by decide) pd_13 rfl (k_putChar l Z a0 hE d (pre ++ wide (ds.take i) ++ x :: y :: rs') (pN + i) c hh Bd (by rw [List.length_append, lw]; simp) ltot) (fun w q => by simp only [List.mem_cons, List.not_mem_nil, or_false] at q; subst q; exact ⟨(hwsM _ (List.mem_of_getElem? (i := 0) rfl)), (Or.inl (List.mem_of_getElem? (i := 0) rfl))⟩) (fun q => by cases q) rfl rfl (Nat.le_of_ble_eq_true rfl) (Nat.le_of_ble_eq_true rfl) (Nat.le_of_ble_eq_true rfl) (Nat.le_of_ble_eq_true rfl) d_jdk_52_method_86_32 rfl rfl (oldK fun v h1 hq K2 => ?_)
      obtain ⟨rfl, A2⟩ := hq
      show W B h1 0 0 M (false, cl.2) 35 #[.val (.ref s), .val (.int (i.toInt32 + (1 : Int32))), .val (.ref d), .val (.int (((pN + i).toInt32) + (1 : Int32))), .val (.int ds.length.toInt32), .val (.int i.toInt32)] []
      refine W.iinc ok (pc' := 38) (L' := #[.val (.ref s), .val (.int (i.toInt32 + (1 : Int32))), .val (.ref d), .val (.int (((pN + i).toInt32) + (1 : Int32))), .val (.int ds.length.toInt32), .val (.int (i.toInt32 + (1 : Int32)))]) (1 : Int32) d_jdk_52_method_86_35 rfl rfl rfl rfl ?_
      refine W.goto ok (pc' := 10) d_jdk_52_method_86_38 (by decide) rfl ?_
      rw [i32_succ i, i32_succ (pN + i)]
      exact ih (i + 1) _ _ rs' (by omega) (Bs.keep K2 (by simp; exact hsd)) (A2.cast (by rw [← lw, set2, wide_snoc hc]; simp)) (by simp at hm; omega) (by have := congrArg (List.drop 2) ers; rw [List.drop_drop] at this; simpa [Nat.mul_add] using this)
  exact loop ds.length 0 h _ rest (by omega) As (Ad.cast (by simp [Wk.wide])) hl (by simp)
set_option maxRecDepth 65536 in
set_option maxHeartbeats 4000000 in
theorem k_lInf (l : Launch) (Z : State) (a0 : Array Value) (hE : Ev Z a0) (s d : Addr) (ds sb pre rest : List Int32) (pN tot : Nat) (h : Heap) (As : ArI Z h s .byte (ds.map b8 ++ sb)) (hr : ∀ c ∈ ds, 0 ≤ c.toInt ∧ c.toInt ≤ 255) (Ad : ArI Z h d .byte (pre ++ rest)) (hp : pre.length = 2 * pN) (hl : 2 * ds.length ≤ rest.length) (he : (pre ++ rest).length = 2 * tot) (ht : tot < 500000) (hsd : s ≠ d) : Con l Z false (⟨"java/lang/StringLatin1", "inflate", "([BI[BII)V"⟩ : MethodName) jdk_43_method_50_code 5 none ({ frames := 4, cells := 0, slots := 0, locals := 60 } : Room) [(.ref s), (.int (0 : Int32)), (.ref d), (.int pN.toInt32), (.int ds.length.toInt32)] h [d] false (fun M v h' => v = none ∧ ArI Z h' d .byte (pre ++ wide ds ++ rest.drop (2 * ds.length))) := by
  have hw := hE.1
  refine Con.intro (L0 := #[.val (.ref s), .val (.int (0 : Int32)), .val (.ref d), .val (.int pN.toInt32), .val (.int ds.length.toInt32)]) (by decide +kernel) (fun m => ef_of rfl) ?_
  intro B M hwsM ok
  refine W.aloadN ok (pc' := 1) d_jdk_43_method_50_0 rfl rfl rfl ?_
  refine W.iloadN ok (pc' := 2) d_jdk_43_method_50_1 rfl rfl ?_
  refine W.aloadN ok (pc' := 3) d_jdk_43_method_50_2 rfl rfl rfl ?_
  refine W.iloadN ok (pc' := 4) d_jdk_43_method_50_3 rfl rfl ?_
  refine W.iload ok (pc' := 6) d_jdk_43_method_50_4 rfl rfl ?_
  refine W.callS ok (rest := []) (cl' := (false, [])) (pc' := 9) (w279 hw) (w280 hw) (w21 hw) (w281 hw) (by decide) pd_14 rfl (k_uInf l Z a0 hE s d ds sb pre rest pN tot h As hr Ad hp hl he ht hsd) (fun w q => by simp only [List.mem_cons, List.not_mem_nil, or_false] at q; subst q; exact ⟨(hwsM _ (List.mem_of_getElem? (i := 0) rfl)), (Or.inl (List.mem_of_getElem? (i := 0) rfl))⟩) (fun q => by cases q) rfl rfl (Nat.le_of_ble_eq_true rfl) (Nat.le_of_ble_eq_true rfl) (Nat.le_of_ble_eq_true rfl) (Nat.le_of_ble_eq_true rfl) d_jdk_43_method_50_6 rfl rfl (oldK fun v h1 hq K2 => ?_)
  obtain ⟨rfl, A⟩ := hq
  show W B h1 0 0 M (false, []) 9 #[.val (.ref s), .val (.int (0 : Int32)), .val (.ref d), .val (.int pN.toInt32), .val (.int ds.length.toInt32)] []
  exact W.retV ok d_jdk_43_method_50_9 (Nat.le_of_ble_eq_true rfl) (Nat.le_of_ble_eq_true rfl) (fun x (q : x ∈ M) => q) (fun kp => ⟨rfl, A⟩)
set_option maxRecDepth 65536 in
set_option maxHeartbeats 4000000 in
theorem k_gInf0 (l : Launch) (Z : State) (a0 : Array Value) (hE : Ev Z a0) (a t : Addr) (cs bs : List Int32) (cap : Nat) (h : Heap) (S : SBr Z h a t 0 cs.length (cs.map b8 ++ bs)) (hr : ∀ c ∈ cs, 0 ≤ c.toInt ∧ c.toInt ≤ 255) (hcap : (cs.map b8 ++ bs).length = cap) (hcm : cap ≤ 36) : Con2 l Z false (⟨"java/lang/AbstractStringBuilder", "inflate", "()V"⟩ : MethodName) jdk_68_method_11_code 2 none ({ frames := 5, cells := 1, slots := 72, locals := 76 } : Room) [(.ref a)] h [a]  (fun M N v h' => v = none ∧ ∃ u, N = [u] ∧ h.size ≤ u ∧ SBr Z h' a u 1 cs.length (wide cs ++ List.replicate (2 * cap - 2 * cs.length) 0)) := by
  have hw := hE.1
  refine Con2.intro (L0 := #[.val (.ref a), .unset]) (by decide +kernel) (fun m => ef_of rfl) ?_
  intro B M hwsM ok
  obtain ⟨q1, q2, q3, q4, q5, q6, q7⟩ := S
  have lta := gtE q1
  have ltt := q6.gt
  refine W.old ok fun _ le0 => ?_
  refine W.aloadN ok (pc' := 1) d_jdk_68_method_11_0 rfl rfl rfl ?_
  refine W.callV ok (rest := []) (cl' := (true, [])) (pc' := 4) (w223 hw) (w178 hw) (w180 hw) (w179 hw) (w58 hw) (w181 hw) (by decide) q1 pd_15 rfl (k_gLat0 l Z a0 hE a h q3) (fun _ q => (nomatch q)) (fun q => ⟨q, fun _ q => (nomatch q)⟩) rfl rfl (Nat.le_of_ble_eq_true rfl) (Nat.le_of_ble_eq_true rfl) (Nat.le_of_ble_eq_true rfl) (Nat.le_of_ble_eq_true rfl) d_jdk_68_method_11_1 rfl rfl (pureK ?_)
  show W B h 0 0 M (true, []) 4 #[.val (.ref a), .unset] [(.int (1 : Int32))]
  refine W.ifne ok (pcY := 8) (pcN := 7) d_jdk_68_method_11_4 rfl (by decide) rfl (fun q => absurd q (by decide)) (fun _ => ?_)
  refine W.aloadN ok (pc' := 9) d_jdk_68_method_11_8 rfl rfl rfl ?_
  refine W.getF ok (pc' := 12) (w62 hw) Via.refl q2 d_jdk_68_method_11_9 rfl ?_
  refine W.lenI ok (pc' := 13) q6 cap.toInt32 (by rw [hcap]) d_jdk_68_method_11_12 rfl ?_
  refine W.callS ok (rest := []) (cl' := (true, [])) (pc' := 16) (w275 hw) (w245 hw) (w21 hw) (w246 hw) (by decide) pd_16 rfl (k_nbf l Z a0 hE cap h hcm) (fun _ q => (nomatch q)) (fun q => ⟨q, fun _ q => (nomatch q)⟩) rfl rfl (Nat.le_of_ble_eq_true rfl) (Nat.le_of_ble_eq_true rfl) (Nat.le_of_ble_eq_true rfl) (Nat.le_of_ble_eq_true rfl) d_jdk_68_method_11_13 rfl rfl (oldK fun v h1 hq K2 => ?_)
  obtain ⟨u, rfl, hu, Au, Xu⟩ := hq
  show W B h1 1 72 (u :: M) (true, []) 16 #[.val (.ref a), .unset] [(.ref u)]
  refine W.astoreN ok (pc' := 17) (L' := #[.val (.ref a), .val (.ref u)]) d_jdk_68_method_11_16 rfl rfl rfl ?_
  refine W.aloadN ok (pc' := 18) d_jdk_68_method_11_17 rfl rfl rfl ?_
  refine W.getF ok (pc' := 21) (w62 hw) Via.refl (q2.ext (ext_keep K2)) d_jdk_68_method_11_18 rfl ?_
  refine W.iconst ok (pc' := 22) (0 : Int32) d_jdk_68_method_11_21 rfl rfl ?_
  refine W.aloadN ok (pc' := 23) d_jdk_68_method_11_22 rfl rfl rfl ?_
  refine W.iconst ok (pc' := 24) (0 : Int32) d_jdk_68_method_11_23 rfl rfl ?_
  refine W.aloadN ok (pc' := 25) d_jdk_68_method_11_24 rfl rfl rfl ?_
  refine W.getF ok (pc' := 28) (w102 hw) Via.refl (q5.ext (ext_keep K2)) d_jdk_68_method_11_25 rfl ?_
  have le1 := K2.1
  have hcl : cs.length ≤ cap := by rw [← hcap]; simp
  refine W.callS ok (rest := []) (cl' := (true, [])) (pc' := 31) (w276 hw) (w277 hw) (w78 hw) (w278 hw) (by decide) pd_14 rfl (k_lInf l Z a0 hE t u cs bs [] (List.replicate (2 * cap) 0) 0 cap h1 (q6.ext (ext_keep K2)) hr Au rfl (by simp; omega) (by simp) (by omega) (ane (by omega))) (fun w q => by simp only [List.mem_cons, List.not_mem_nil, or_false] at q; subst q; exact ⟨(List.mem_cons_self ..), (Or.inr hu)⟩) (fun q => ⟨q, fun w q => by simp only [List.mem_cons, List.not_mem_nil, or_false] at q; subst q; exact hu⟩) rfl rfl (Nat.le_of_ble_eq_true rfl) (Nat.le_of_ble_eq_true rfl) (Nat.le_of_ble_eq_true rfl) (Nat.le_of_ble_eq_true rfl) d_jdk_68_method_11_28 rfl rfl (oldK fun v h3 hq K4 => ?_)
  obtain ⟨rfl, Av⟩ := hq
  show W B h3 1 72 (u :: M) (true, []) 31 #[.val (.ref a), .val (.ref u)] []
  refine W.aloadN ok (pc' := 32) d_jdk_68_method_11_31 rfl rfl rfl ?_
  refine W.aloadN ok (pc' := 33) d_jdk_68_method_11_32 rfl rfl rfl ?_
  have nin : a ∉ [u] := nin1 (by omega)
  have ox5 := (q1.ext (ext_keep K2)).keep K4
  have of6 := (q2.ext (ext_keep K2)).keep K4 nin
  have of7 := (q3.ext (ext_keep K2)).keep K4 nin
  have of8 := (q4.ext (ext_keep K2)).keep K4 nin
  have of9 := (q5.ext (ext_keep K2)).keep K4 nin
  refine W.putF ok (pc' := 36) (cl' := (false, [])) (w62 hw) Via.refl of6 ox5 (Or.inl (w63 hw)) (w39 hw) (ty := (.array .byte)) (by decide) rfl rfl (List.mem_cons_of_mem _ (hwsM _ (List.mem_of_getElem? (i := 0) rfl))) (Or.inl (List.mem_of_getElem? (i := 0) rfl)) (fun q => by cases q) rfl d_jdk_68_method_11_33 rfl (fun h10 W11 => ?_)
  have ox12 := ox5.wr W11
  have of13 := of6.same W11
  have of14 := of7.other W11 (Or.inr (slot_ne (Or.inl (w65 hw)) (Or.inl (w63 hw)) (by decide) (t := .byte) (by decide) (t' := (.array .byte)) (by decide)))
  have of15 := of8.other W11 (Or.inr (slot_ne (Or.inl (w295 hw)) (Or.inl (w63 hw)) (by decide) (t := .boolean) (by decide) (t' := (.array .byte)) (by decide)))
  have of16 := of9.other W11 (Or.inr (slot_ne (Or.inl (w103 hw)) (Or.inl (w63 hw)) (by decide) (t := .int) (by decide) (t' := (.array .byte)) (by decide)))
  refine W.aloadN ok (pc' := 37) d_jdk_68_method_11_36 rfl rfl rfl ?_
  refine W.iconst ok (pc' := 38) (1 : Int32) d_jdk_68_method_11_37 rfl rfl ?_
  refine W.putF ok (pc' := 41) (cl' := (false, [])) (w64 hw) Via.refl of14 ox12 (Or.inl (w65 hw)) (w39 hw) (ty := .byte) (by decide) (by first | rfl | assumption) (by first | rfl | assumption) (List.mem_cons_of_mem _ (hwsM _ (List.mem_of_getElem? (i := 0) rfl))) (Or.inl (List.mem_of_getElem? (i := 0) rfl)) (fun q => by cases q) rfl d_jdk_68_method_11_38 rfl (fun h17 W18 => ?_)
  have ox19 := ox12.wr W18
  have of20 := of13.other W18 (Or.inr (slot_ne (Or.inl (w63 hw)) (Or.inl (w65 hw)) (by decide) (t := (.array .byte)) (by decide) (t' := .byte) (by decide)))
  have of21 := of14.same W18
  have of22 := of15.other W18 (Or.inr (slot_ne (Or.inl (w295 hw)) (Or.inl (w65 hw)) (by decide) (t := .boolean) (by decide) (t' := .byte) (by decide)))
  have of23 := of16.other W18 (Or.inr (slot_ne (Or.inl (w103 hw)) (Or.inl (w65 hw)) (by decide) (t := .int) (by decide) (t' := .byte) (by decide)))
  exact W.retVN ok [u] d_jdk_68_method_11_41 (Nat.le_of_ble_eq_true rfl) (Nat.le_of_ble_eq_true rfl) (fun x q => (List.mem_append.mp q).elim (fun q => (by rw [List.mem_singleton.mp q]; exact (List.mem_cons_self ..))) (fun q => (List.mem_cons_of_mem _ q))) (fun kp => ⟨rfl, u, rfl, hu, ox19, of20, of21, of22, of23, ((Av.other W11 (ane (by omega))).other W18 (ane (by omega))).cast (by simp [Nat.mul_sub]), ((Xu.keep K4).wr W11).wr W18⟩)
set_option maxRecDepth 65536 in
set_option maxHeartbeats 4000000 in
theorem k_gInf1 (l : Launch) (Z : State) (a0 : Array Value) (hE : Ev Z a0) (a : Addr) (h : Heap) (X : Exa Z h a SBC) (F : Fld Z h a ASB "coder" "B" (.int 1)) : Con l Z false (⟨"java/lang/AbstractStringBuilder", "inflate", "()V"⟩ : MethodName) jdk_68_method_11_code 2 none ({ frames := 1, cells := 0, slots := 0, locals := 12 } : Room) [(.ref a)] h [] false (fun M v h' => v = none ∧ h' = h) := by
  have hw := hE.1
  refine Con.intro (L0 := #[.val (.ref a), .unset]) (by decide +kernel) (fun m => ef_of rfl) ?_
  intro B M hwsM ok
  refine W.aloadN ok (pc' := 1) d_jdk_68_method_11_0 rfl rfl rfl ?_
  refine W.callV ok (rest := []) (cl' := (true, [])) (pc' := 4) (w223 hw) (w178 hw) (w180 hw) (w179 hw) (w58 hw) (w181 hw) (by decide) X pd_15 rfl (k_gLat1 l Z a0 hE a h F) (fun _ q => (nomatch q)) (fun q => ⟨q, fun _ q => (nomatch q)⟩) rfl rfl (Nat.le_of_ble_eq_true rfl) (Nat.le_of_ble_eq_true rfl) (Nat.le_of_ble_eq_true rfl) (Nat.le_of_ble_eq_true rfl) d_jdk_68_method_11_1 rfl rfl (pureK ?_)
  show W B h 0 0 M (true, []) 4 #[.val (.ref a), .unset] [(.int (0 : Int32))]
  refine W.ifne ok (pcY := 8) (pcN := 7) d_jdk_68_method_11_4 rfl (by decide) rfl (fun _ => ?_) (fun q => absurd rfl q)
  exact W.retV ok d_jdk_68_method_11_7 (Nat.le_of_ble_eq_true rfl) (Nat.le_of_ble_eq_true rfl) (fun x (q : x ∈ M) => q) (fun kp => ⟨rfl, rfl⟩)
set_option maxRecDepth 65536 in
set_option maxHeartbeats 4000000 in
theorem k_putSB (l : Launch) (Z : State) (a0 : Array Value) (hE : Ev Z a0) (t : Addr) (xs : List Int32) (iN : Nat) (c : Int32) (h : Heap) (A : ArI Z h t .byte xs) (hi : 2 * iN + 1 < xs.length) (hl : xs.length < 2000000) : Con l Z false (⟨"java/lang/StringUTF16", "putCharSB", "([BII)V"⟩ : MethodName) jdk_52_method_71_code 3 none ({ frames := 3, cells := 0, slots := 0, locals := 40 } : Room) [(.ref t), (.int iN.toInt32), (.int c)] h [t] false (fun M v h' => v = none ∧ ArI Z h' t .byte ((xs.set (2 * iN) (b8 c)).set (2 * iN + 1) (b8 (c >>> ((8 : Int32) &&& 31))))) := by
  have hw := hE.1
  refine Con.intro (L0 := #[.val (.ref t), .val (.int iN.toInt32), .val (.int c)]) (by decide +kernel) (fun m => ef_of rfl) ?_
  intro B M hwsM ok
  refine W.iloadN ok (pc' := 1) d_jdk_52_method_71_0 rfl rfl ?_
  refine W.aloadN ok (pc' := 2) d_jdk_52_method_71_1 rfl rfl rfl ?_
  refine W.callS ok (rest := []) (cl' := (true, [])) (pc' := 5) (w263 hw) (w264 hw) (w21 hw) (w265 hw) (by decide) pd_9 rfl (k_uCheck l Z a0 hE t xs iN h A hi hl) (fun _ q => (nomatch q)) (fun q => ⟨q, fun _ q => (nomatch q)⟩) rfl rfl (Nat.le_of_ble_eq_true rfl) (Nat.le_of_ble_eq_true rfl) (Nat.le_of_ble_eq_true rfl) (Nat.le_of_ble_eq_true rfl) d_jdk_52_method_71_2 rfl rfl (pureK0 ?_)
  show W B h 0 0 M (true, []) 5 #[.val (.ref t), .val (.int iN.toInt32), .val (.int c)] []
  refine W.aloadN ok (pc' := 6) d_jdk_52_method_71_5 rfl rfl rfl ?_
  refine W.iloadN ok (pc' := 7) d_jdk_52_method_71_6 rfl rfl ?_
  refine W.iloadN ok (pc' := 8) d_jdk_52_method_71_7 rfl rfl ?_
  refine W.callS ok (rest := []) (cl' := (false, [])) (pc' := 11) (w251 hw) (w252 hw) (w21 hw) (w253 hw) (by decide) pd_13 rfl (k_putChar l Z a0 hE t xs iN c h A hi hl) (fun w q => by simp only [List.mem_cons, List.not_mem_nil, or_false] at q; subst q; exact ⟨(hwsM _ (List.mem_of_getElem? (i := 0) rfl)), (Or.inl (List.mem_of_getElem? (i := 0) rfl))⟩) (fun q => by cases q) rfl rfl (Nat.le_of_ble_eq_true rfl) (Nat.le_of_ble_eq_true rfl) (Nat.le_of_ble_eq_true rfl) (Nat.le_of_ble_eq_true rfl) d_jdk_52_method_71_8 rfl rfl (oldK fun v h1 hq K2 => ?_)
  obtain ⟨rfl, A2⟩ := hq
  show W B h1 0 0 M (false, []) 11 #[.val (.ref t), .val (.int iN.toInt32), .val (.int c)] []
  exact W.retV ok d_jdk_52_method_71_11 (Nat.le_of_ble_eq_true rfl) (Nat.le_of_ble_eq_true rfl) (fun x (q : x ∈ M) => q) (fun kp => ⟨rfl, A2⟩)
set_option maxRecDepth 65536 in
set_option maxHeartbeats 4000000 in
theorem k_canL (l : Launch) (Z : State) (a0 : Array Value) (hE : Ev Z a0) (c : Int32) (h : Heap) (hc : ¬ (255 : Int32) < c) : Con l Z false (⟨"java/lang/StringLatin1", "canEncode", "(C)Z"⟩ : MethodName) jdk_43_method_3_code 1 (some .boolean) ({ frames := 0, cells := 0, slots := 0, locals := 0 } : Room) [(.int c)] h [] false (fun M v h' => v = some (.int 1) ∧ h' = h) := by
  have hw := hE.1
  refine Con.intro (L0 := #[.val (.int c)]) (by decide +kernel) (fun m => ef_of rfl) ?_
  intro B M hwsM ok
  refine W.iloadN ok (pc' := 1) d_jdk_43_method_3_0 rfl rfl ?_
  refine W.sipush ok (pc' := 4) (255 : Int32) d_jdk_43_method_3_1 rfl rfl ?_
  refine W.icmpgt ok (pcY := 11) (pcN := 7) d_jdk_43_method_3_4 rfl (by decide) rfl (fun q => absurd q hc) (fun _ => ?_)
  refine W.iconst ok (pc' := 8) (1 : Int32) d_jdk_43_method_3_7 rfl rfl ?_
  refine W.goto ok (pc' := 12) d_jdk_43_method_3_8 (by decide) rfl ?_
  exact W.retZ ok d_jdk_43_method_3_12 rfl (Nat.le_of_ble_eq_true rfl) (Nat.le_of_ble_eq_true rfl) (fun x (q : x ∈ M) => q) (fun kp => ⟨rfl, rfl⟩)
set_option maxRecDepth 65536 in
set_option maxHeartbeats 4000000 in
theorem k_canW (l : Launch) (Z : State) (a0 : Array Value) (hE : Ev Z a0) (c : Int32) (h : Heap) (hc : (255 : Int32) < c) : Con l Z false (⟨"java/lang/StringLatin1", "canEncode", "(C)Z"⟩ : MethodName) jdk_43_method_3_code 1 (some .boolean) ({ frames := 0, cells := 0, slots := 0, locals := 0 } : Room) [(.int c)] h [] false (fun M v h' => v = some (.int 0) ∧ h' = h) := by
  have hw := hE.1
  refine Con.intro (L0 := #[.val (.int c)]) (by decide +kernel) (fun m => ef_of rfl) ?_
  intro B M hwsM ok
  refine W.iloadN ok (pc' := 1) d_jdk_43_method_3_0 rfl rfl ?_
  refine W.sipush ok (pc' := 4) (255 : Int32) d_jdk_43_method_3_1 rfl rfl ?_
  refine W.icmpgt ok (pcY := 11) (pcN := 7) d_jdk_43_method_3_4 rfl (by decide) rfl (fun _ => ?_) (fun q => absurd hc q)
  refine W.iconst ok (pc' := 12) (0 : Int32) d_jdk_43_method_3_11 rfl rfl ?_
  exact W.retZ ok d_jdk_43_method_3_12 rfl (Nat.le_of_ble_eq_true rfl) (Nat.le_of_ble_eq_true rfl) (fun x (q : x ∈ M) => q) (fun kp => ⟨rfl, rfl⟩)
set_option maxRecDepth 65536 in
set_option maxHeartbeats 4000000 in
theorem k_gaAppC (l : Launch) (Z : State) (a0 : Array Value) (hE : Ev Z a0) (a t : Addr) (cs : List Int32) (cap : Nat) (c : Int32) (h : Heap) (G : SBG Z h a t cs cap) (hc16 : 0 ≤ c.toInt ∧ c.toInt ≤ 65535) (hm : cs.length + 1 ≤ 18) (hcm : cap ≤ 36) : Con2 l Z false (⟨"java/lang/AbstractStringBuilder", "append", "(C)Ljava/lang/AbstractStringBuilder;"⟩ : MethodName) jdk_68_method_31_code 2 (some (.object "java/lang/AbstractStringBuilder")) ({ frames := 6, cells := 2, slots := 144, locals := 89 } : Room) [(.ref a), (.int c)] h [a, t]  (fun M N v h' => v = some (.ref a) ∧ ∃ t' cap', SBG Z h' a t' (cs ++ [c]) cap' ∧ cap' ≤ 36 ∧ (t' = t ∨ (t' ∈ N ∧ h.size ≤ t')) ∧ ∀ x ∈ N, h.size ≤ x) := by
  have hw := hE.1
  refine Con2.intro (L0 := #[.val (.ref a), .val (.int c)]) (by decide +kernel) (fun m => ef_of rfl) ?_
  intro B M hwsM ok
  obtain ⟨cd, es, bs, S, hc, hcap⟩ := G
  have S0 := S
  obtain ⟨q1, q2, q3, q4, q5, q6, q7⟩ := S
  refine W.old ok fun _ le0 => ?_
  refine W.aloadN ok (pc' := 1) d_jdk_68_method_31_0 rfl rfl rfl ?_
  refine W.aloadN ok (pc' := 2) d_jdk_68_method_31_1 rfl rfl rfl ?_
  refine W.getF ok (pc' := 5) (w102 hw) Via.refl q5 d_jdk_68_method_31_2 rfl ?_
  refine W.iconst ok (pc' := 6) (1 : Int32) d_jdk_68_method_31_5 rfl rfl ?_
  refine W.iadd ok (pc' := 7) d_jdk_68_method_31_6 rfl ?_
  rw [i32_succ]
  refine W.callW ok (rest := []) (cl' := (false, [])) (pc' := 10) (yr := (⟨"java/lang/AbstractStringBuilder", "ensureCapacityInternal", "(I)V"⟩ : MethodName)) (w104 hw) (decl_of (w105 hw) (w108 hw)) (show NoFace Z "java/lang/AbstractStringBuilder" from NoFace.of (w107 hw)) (w107 hw) (w105 hw) (w58 hw) (w108 hw) (by decide) q1 pd_0 rfl (k_gEns l Z a0 hE a t cd cs.length (es ++ bs) cap (cs.length + 1) h S0 hcap (by omega) hcm) (fun w q => by simp only [List.mem_cons, List.not_mem_nil, or_false] at q; subst q; exact ⟨(hwsM _ (List.mem_of_getElem? (i := 0) rfl)), (Or.inl (List.mem_of_getElem? (i := 0) rfl))⟩) (fun q => by cases q) rfl rfl (Nat.le_of_ble_eq_true rfl) (Nat.le_of_ble_eq_true rfl) (Nat.le_of_ble_eq_true rfl) (Nat.le_of_ble_eq_true rfl) d_jdk_68_method_31_7 rfl rfl (fun N3 v h1 hq K2 => ?_)
  obtain ⟨rfl, t1, cap1, ys, S1, hcap1, hm1, hb1, hN⟩ := hq
  show W B h1 1 72 (N3 ++ M) (false, []) 10 #[.val (.ref a), .val (.int c)] []
  have mt1 : t1 ∈ N3 ++ M := by
    rcases hN with ⟨e, -⟩ | ⟨e, -⟩
    · rw [e]; exact List.mem_append_right _ (hwsM _ (List.mem_of_getElem? (i := 1) rfl))
    · rw [e]; simp
  have ft1 : t1 = t ∨ (t1 ∈ N3 ∧ h.size ≤ t1) := by
    rcases hN with ⟨e, -⟩ | ⟨e, z⟩
    · exact Or.inl e
    · exact Or.inr ⟨by rw [e]; simp, z⟩
  have hN1 : ∀ x ∈ N3, h.size ≤ x := by
    rcases hN with ⟨-, e⟩ | ⟨e, z⟩
    · rw [e]; exact fun _ q => (nomatch q)
    · rw [e]; intro x q; rw [List.mem_singleton.mp q]; exact z
  obtain ⟨p1, p2, p3, p4, p5, p6, p7⟩ := S1
  have nat_ := Exa.neArI p1 (w39 hw) p6
  rw [List.append_assoc] at p6 hcap1
  have le1 := K2.1
  rcases hc with ⟨rfl, rfl, hr⟩ | ⟨rfl, rfl, hr, hx⟩
  · have lcap := hcap1.elim (fun q => q.2) (fun q => absurd q.1 (by decide))
    obtain ⟨z0, zs, ez⟩ := ex1 (xs := bs ++ ys) (by rw [List.length_append] at lcap; simp at lcap ⊢; omega)
    rw [ez] at p6 lcap
    rcases Int.lt_or_le 255 c.toInt with c255 | c255
    · refine W.aloadN ok (pc' := 11) d_jdk_68_method_31_10 rfl rfl rfl ?_
      refine W.callV ok (rest := []) (cl' := (false, [])) (pc' := 14) (w223 hw) (w178 hw) (w180 hw) (w179 hw) (w58 hw) (w181 hw) (by decide) p1 pd_15 rfl (k_gLat0 l Z a0 hE a h1 p3) (fun _ q => (nomatch q)) (fun q => ⟨q, fun _ q => (nomatch q)⟩) rfl rfl (Nat.le_of_ble_eq_true rfl) (Nat.le_of_ble_eq_true rfl) (Nat.le_of_ble_eq_true rfl) (Nat.le_of_ble_eq_true rfl) d_jdk_68_method_31_11 rfl rfl (pureK ?_)
      show W B h1 1 72 (N3 ++ M) (false, []) 14 #[.val (.ref a), .val (.int c)] [(.int (1 : Int32))]
      refine W.ifeq ok (pcY := 45) (pcN := 17) d_jdk_68_method_31_14 rfl (by decide) rfl (fun q => absurd q (by decide)) (fun _ => ?_)
      refine W.iloadN ok (pc' := 18) d_jdk_68_method_31_17 rfl rfl ?_
      refine W.callS ok (rest := []) (cl' := (false, [])) (pc' := 21) (w224 hw) (w225 hw) (w78 hw) (w226 hw) (by decide) pd_17 rfl (k_canW l Z a0 hE c h1 (gt255 c255)) (fun _ q => (nomatch q)) (fun q => ⟨q, fun _ q => (nomatch q)⟩) rfl rfl (Nat.le_of_ble_eq_true rfl) (Nat.le_of_ble_eq_true rfl) (Nat.le_of_ble_eq_true rfl) (Nat.le_of_ble_eq_true rfl) d_jdk_68_method_31_18 rfl rfl (pureK ?_)
      show W B h1 1 72 (N3 ++ M) (false, []) 21 #[.val (.ref a), .val (.int c)] [(.int (0 : Int32))]
      refine W.ifeq ok (pcY := 45) (pcN := 24) d_jdk_68_method_31_21 rfl (by decide) rfl (fun _ => ?_) (fun q => absurd rfl q)
      refine W.aloadN ok (pc' := 46) d_jdk_68_method_31_45 rfl rfl rfl ?_
      refine W.callV ok (rest := []) (cl' := (false, [])) (pc' := 49) (w223 hw) (w178 hw) (w180 hw) (w179 hw) (w58 hw) (w181 hw) (by decide) p1 pd_15 rfl (k_gLat0 l Z a0 hE a h1 p3) (fun _ q => (nomatch q)) (fun q => ⟨q, fun _ q => (nomatch q)⟩) rfl rfl (Nat.le_of_ble_eq_true rfl) (Nat.le_of_ble_eq_true rfl) (Nat.le_of_ble_eq_true rfl) (Nat.le_of_ble_eq_true rfl) d_jdk_68_method_31_46 rfl rfl (pureK ?_)
      show W B h1 1 72 (N3 ++ M) (false, []) 49 #[.val (.ref a), .val (.int c)] [(.int (1 : Int32))]
      refine W.ifeq ok (pcY := 56) (pcN := 52) d_jdk_68_method_31_49 rfl (by decide) rfl (fun q => absurd q (by decide)) (fun _ => ?_)
      refine W.aloadN ok (pc' := 53) d_jdk_68_method_31_52 rfl rfl rfl ?_
      refine W.callW ok (rest := []) (cl' := (false, [])) (pc' := 56) (yr := (⟨"java/lang/AbstractStringBuilder", "inflate", "()V"⟩ : MethodName)) (w270 hw) (decl_of (w271 hw) (w274 hw)) (show NoFace Z "java/lang/AbstractStringBuilder" from NoFace.of (w107 hw)) (w273 hw) (w271 hw) (w58 hw) (w274 hw) (by decide) p1 pd_18 rfl (k_gInf0 l Z a0 hE a t1 cs (z0 :: zs) cap1 h1 ⟨p1, p2, p3, p4, p5, p6, p7⟩ hr lcap hb1) (fun w q => by simp only [List.mem_cons, List.not_mem_nil, or_false] at q; subst q; exact ⟨(List.mem_append_right _ (hwsM _ (List.mem_of_getElem? (i := 0) rfl))), (Or.inl (List.mem_of_getElem? (i := 0) rfl))⟩) (fun q => by cases q) rfl rfl (Nat.le_of_ble_eq_true rfl) (Nat.le_of_ble_eq_true rfl) (Nat.le_of_ble_eq_true rfl) (Nat.le_of_ble_eq_true rfl) d_jdk_68_method_31_53 rfl rfl (fun N6 v h4 hq K5 => ?_)
      obtain ⟨rfl, u, rfl, hu, S2⟩ := hq
      show W B h4 2 144 (u :: (N3 ++ M)) (false, []) 56 #[.val (.ref a), .val (.int c)] []
      have nu : h.size ≤ u := Nat.le_trans le1 hu
      obtain ⟨r1, r2, r3, r4, r5, r6, r7⟩ := S2
      have nau := Exa.neArI r1 (w39 hw) r6
      obtain ⟨y0, y1, rs, ey⟩ := ex2 (xs := List.replicate (2 * cap1 - 2 * cs.length) (0 : Int32)) (by simp; omega)
      have ly := congrArg List.length ey
      rw [List.length_replicate] at ly
      simp only [List.length_cons] at ly
      rw [ey] at r6
      refine W.aloadN ok (pc' := 57) d_jdk_68_method_31_56 rfl rfl rfl ?_
      refine W.getF ok (pc' := 60) (w62 hw) Via.refl r2 d_jdk_68_method_31_57 rfl ?_
      refine W.aloadN ok (pc' := 61) d_jdk_68_method_31_60 rfl rfl rfl ?_
      refine W.dup ok (pc' := 62) d_jdk_68_method_31_61 rfl rfl ?_
      refine W.getF ok (pc' := 65) (w102 hw) Via.refl r5 d_jdk_68_method_31_62 rfl ?_
      refine W.dupX1 ok (pc' := 66) d_jdk_68_method_31_65 rfl rfl rfl ?_
      refine W.iconst ok (pc' := 67) (1 : Int32) d_jdk_68_method_31_66 rfl rfl ?_
      refine W.iadd ok (pc' := 68) d_jdk_68_method_31_67 rfl ?_
      rw [i32_succ]
      have ox7 := r1
      have of8 := r2
      have of9 := r3
      have of10 := r4
      have of11 := r5
      refine W.putF ok (pc' := 71) (cl' := (false, [])) (w102 hw) Via.refl of11 ox7 (Or.inl (w103 hw)) (w39 hw) (ty := .int) (by decide) rfl rfl (List.mem_cons_of_mem _ (List.mem_append_right _ (hwsM _ (List.mem_of_getElem? (i := 0) rfl)))) (Or.inl (List.mem_of_getElem? (i := 0) rfl)) (fun q => by cases q) rfl d_jdk_68_method_31_68 rfl (fun h12 W13 => ?_)
      have ox14 := ox7.wr W13
      have of15 := of8.other W13 (Or.inr (slot_ne (Or.inl (w63 hw)) (Or.inl (w103 hw)) (by decide) (t := (.array .byte)) (by decide) (t' := .int) (by decide)))
      have of16 := of9.other W13 (Or.inr (slot_ne (Or.inl (w65 hw)) (Or.inl (w103 hw)) (by decide) (t := .byte) (by decide) (t' := .int) (by decide)))
      have of17 := of10.other W13 (Or.inr (slot_ne (Or.inl (w295 hw)) (Or.inl (w103 hw)) (by decide) (t := .boolean) (by decide) (t' := .int) (by decide)))
      have of18 := of11.same W13
      refine W.iloadN ok (pc' := 72) d_jdk_68_method_31_71 rfl rfl ?_
      refine W.callS ok (rest := []) (cl' := (false, [])) (pc' := 75) (w291 hw) (w292 hw) (w21 hw) (w293 hw) (by decide) pd_13 rfl (k_putSB l Z a0 hE u (wide cs ++ y0 :: y1 :: rs) cs.length c h12 (r6.other W13 (Ne.symm nau)) (by simp [wide_length]) (by rw [List.length_append, wide_length] at *; simp at *; omega)) (fun w q => by simp only [List.mem_cons, List.not_mem_nil, or_false] at q; subst q; exact ⟨(List.mem_cons_self ..), (Or.inr nu)⟩) (fun q => ⟨q, fun w q => by simp only [List.mem_cons, List.not_mem_nil, or_false] at q; subst q; exact nu⟩) rfl rfl (Nat.le_of_ble_eq_true rfl) (Nat.le_of_ble_eq_true rfl) (Nat.le_of_ble_eq_true rfl) (Nat.le_of_ble_eq_true rfl) d_jdk_68_method_31_72 rfl rfl (oldK fun v h19 hq K20 => ?_)
      obtain ⟨rfl, A2⟩ := hq
      show W B h19 2 144 (u :: (N3 ++ M)) (false, []) 75 #[.val (.ref a), .val (.int c)] []
      refine W.aloadN ok (pc' := 76) d_jdk_68_method_31_75 rfl rfl rfl ?_
      have nin_ : a ∉ [u] := by simp; exact nau
      have ox21 := (ox14.keep K20)
      have of22 := (of15.keep K20 nin_)
      have of23 := (of16.keep K20 nin_)
      have of24 := (of17.keep K20 nin_)
      have of25 := (of18.keep K20 nin_)
      exact W.retAN ok (u :: N3) d_jdk_68_method_31_76 rfl rfl (Nat.le_of_ble_eq_true rfl) (Nat.le_of_ble_eq_true rfl) (fun x q => (List.mem_append.mp q).elim (fun q => ((List.mem_cons.mp q).elim (fun e => e ▸ (List.mem_cons_self ..)) (fun q => List.mem_cons_of_mem _ (List.mem_append_left _ q)))) (fun q => (List.mem_cons_of_mem _ (List.mem_append_right _ q)))) (fun kp => ⟨rfl, u, cap1, ⟨1, wide (cs ++ [c]), rs, ⟨ox21, of22, of23, of24, by rw [List.length_append]; exact of25, A2.cast (by rw [← wide_length cs, set2, wide_one]), (r7.wr W13).keep K20⟩, Or.inr ⟨rfl, rfl, fun y q => (List.mem_append.mp q).elim (fun q => ⟨(hr y q).1, by have := (hr y q).2; omega⟩) (fun q => by rw [List.mem_singleton.mp q]; exact hc16), c, by simp, c255⟩, Or.inr ⟨rfl, by rw [List.length_append, wide_length, List.length_append]; simp; omega⟩⟩, hb1, Or.inr ⟨by simp, nu⟩, fun x q => (List.mem_cons.mp q).elim (fun e => e ▸ nu) (hN1 x)⟩)
    · refine W.aloadN ok (pc' := 11) d_jdk_68_method_31_10 rfl rfl rfl ?_
      refine W.callV ok (rest := []) (cl' := (false, [])) (pc' := 14) (w223 hw) (w178 hw) (w180 hw) (w179 hw) (w58 hw) (w181 hw) (by decide) p1 pd_15 rfl (k_gLat0 l Z a0 hE a h1 p3) (fun _ q => (nomatch q)) (fun q => ⟨q, fun _ q => (nomatch q)⟩) rfl rfl (Nat.le_of_ble_eq_true rfl) (Nat.le_of_ble_eq_true rfl) (Nat.le_of_ble_eq_true rfl) (Nat.le_of_ble_eq_true rfl) d_jdk_68_method_31_11 rfl rfl (pureK ?_)
      show W B h1 1 72 (N3 ++ M) (false, []) 14 #[.val (.ref a), .val (.int c)] [(.int (1 : Int32))]
      refine W.ifeq ok (pcY := 45) (pcN := 17) d_jdk_68_method_31_14 rfl (by decide) rfl (fun q => absurd q (by decide)) (fun _ => ?_)
      refine W.iloadN ok (pc' := 18) d_jdk_68_method_31_17 rfl rfl ?_
      refine W.callS ok (rest := []) (cl' := (false, [])) (pc' := 21) (w224 hw) (w225 hw) (w78 hw) (w226 hw) (by decide) pd_17 rfl (k_canL l Z a0 hE c h1 (le255 c255)) (fun _ q => (nomatch q)) (fun q => ⟨q, fun _ q => (nomatch q)⟩) rfl rfl (Nat.le_of_ble_eq_true rfl) (Nat.le_of_ble_eq_true rfl) (Nat.le_of_ble_eq_true rfl) (Nat.le_of_ble_eq_true rfl) d_jdk_68_method_31_18 rfl rfl (pureK ?_)
      show W B h1 1 72 (N3 ++ M) (false, []) 21 #[.val (.ref a), .val (.int c)] [(.int (1 : Int32))]
      refine W.ifeq ok (pcY := 45) (pcN := 24) d_jdk_68_method_31_21 rfl (by decide) rfl (fun q => absurd q (by decide)) (fun _ => ?_)
      refine W.aloadN ok (pc' := 25) d_jdk_68_method_31_24 rfl rfl rfl ?_
      refine W.getF ok (pc' := 28) (w62 hw) Via.refl p2 d_jdk_68_method_31_25 rfl ?_
      refine W.aloadN ok (pc' := 29) d_jdk_68_method_31_28 rfl rfl rfl ?_
      refine W.dup ok (pc' := 30) d_jdk_68_method_31_29 rfl rfl ?_
      refine W.getF ok (pc' := 33) (w102 hw) Via.refl p5 d_jdk_68_method_31_30 rfl ?_
      refine W.dupX1 ok (pc' := 34) d_jdk_68_method_31_33 rfl rfl rfl ?_
      refine W.iconst ok (pc' := 35) (1 : Int32) d_jdk_68_method_31_34 rfl rfl ?_
      refine W.iadd ok (pc' := 36) d_jdk_68_method_31_35 rfl ?_
      rw [i32_succ]
      have ox26 := p1
      have of27 := p2
      have of28 := p3
      have of29 := p4
      have of30 := p5
      refine W.putF ok (pc' := 39) (cl' := (false, [])) (w102 hw) Via.refl of30 ox26 (Or.inl (w103 hw)) (w39 hw) (ty := .int) (by decide) rfl rfl (List.mem_append_right _ (hwsM _ (List.mem_of_getElem? (i := 0) rfl))) (Or.inl (List.mem_of_getElem? (i := 0) rfl)) (fun q => by cases q) rfl d_jdk_68_method_31_36 rfl (fun h31 W32 => ?_)
      have ox33 := ox26.wr W32
      have of34 := of27.other W32 (Or.inr (slot_ne (Or.inl (w63 hw)) (Or.inl (w103 hw)) (by decide) (t := (.array .byte)) (by decide) (t' := .int) (by decide)))
      have of35 := of28.other W32 (Or.inr (slot_ne (Or.inl (w65 hw)) (Or.inl (w103 hw)) (by decide) (t := .byte) (by decide) (t' := .int) (by decide)))
      have of36 := of29.other W32 (Or.inr (slot_ne (Or.inl (w295 hw)) (Or.inl (w103 hw)) (by decide) (t := .boolean) (by decide) (t' := .int) (by decide)))
      have of37 := of30.same W32
      refine W.iloadN ok (pc' := 40) d_jdk_68_method_31_39 rfl rfl ?_
      refine W.i2b ok (pc' := 41) d_jdk_68_method_31_40 rfl ?_
      refine W.bastore ok (pc' := 42) (cl' := (false, [])) (p6.other W32 (Ne.symm nat_)) (i32_nn (by omega)) (by rw [nat_i32 (by omega)]; simp) mt1 (ft1.elim (fun e => Or.inl (by rw [e]; simp)) (fun z => Or.inr z.2)) (fun q => by cases q) rfl d_jdk_68_method_31_41 rfl (fun h38 Wr39 A40 => ?_)
      refine W.goto ok (pc' := 75) d_jdk_68_method_31_42 (by decide) rfl ?_
      refine W.aloadN ok (pc' := 76) d_jdk_68_method_31_75 rfl rfl rfl ?_
      have ox41 := (ox33.wr Wr39)
      have of42 := (of34.other Wr39 (Or.inl nat_))
      have of43 := (of35.other Wr39 (Or.inl nat_))
      have of44 := (of36.other Wr39 (Or.inl nat_))
      have of45 := (of37.other Wr39 (Or.inl nat_))
      exact W.retAN ok N3 d_jdk_68_method_31_76 rfl rfl (Nat.le_of_ble_eq_true rfl) (Nat.le_of_ble_eq_true rfl) (fun x q => (List.mem_append.mp q).elim (fun q => (List.mem_append_left _ q)) (fun q => (List.mem_append_right _ q))) (fun kp => ⟨rfl, t1, cap1, ⟨0, (cs ++ [c]).map b8, zs, ⟨ox41, of42, of43, of44, by rw [List.length_append]; exact of45, A40.cast (by rw [nat_i32 (by omega), b8_b8]; have := set1 (cs.map b8) zs z0 (b8 c); rw [List.length_map] at this; rw [this]; simp), (p7.wr W32).wr Wr39⟩, Or.inl ⟨rfl, rfl, fun y q => (List.mem_append.mp q).elim (hr y) (fun q => by rw [List.mem_singleton.mp q]; exact ⟨hc16.1, c255⟩)⟩, Or.inl ⟨rfl, by simp at lcap ⊢; omega⟩⟩, hb1, ft1, hN1⟩)
  · have lcap := hcap1.elim (fun q => absurd q.1 (by decide)) (fun q => q.2)
    obtain ⟨z0, z1, zs, ez⟩ := ex2 (xs := bs ++ ys) (by rw [List.length_append, wide_length] at lcap; omega)
    rw [ez] at p6 lcap
    rw [List.length_append, wide_length] at lcap
    simp only [List.length_cons] at lcap
    refine W.aloadN ok (pc' := 11) d_jdk_68_method_31_10 rfl rfl rfl ?_
    refine W.callV ok (rest := []) (cl' := (false, [])) (pc' := 14) (w223 hw) (w178 hw) (w180 hw) (w179 hw) (w58 hw) (w181 hw) (by decide) p1 pd_15 rfl (k_gLat1 l Z a0 hE a h1 p3) (fun _ q => (nomatch q)) (fun q => ⟨q, fun _ q => (nomatch q)⟩) rfl rfl (Nat.le_of_ble_eq_true rfl) (Nat.le_of_ble_eq_true rfl) (Nat.le_of_ble_eq_true rfl) (Nat.le_of_ble_eq_true rfl) d_jdk_68_method_31_11 rfl rfl (pureK ?_)
    show W B h1 1 72 (N3 ++ M) (false, []) 14 #[.val (.ref a), .val (.int c)] [(.int (0 : Int32))]
    refine W.ifeq ok (pcY := 45) (pcN := 17) d_jdk_68_method_31_14 rfl (by decide) rfl (fun _ => ?_) (fun q => absurd rfl q)
    refine W.aloadN ok (pc' := 46) d_jdk_68_method_31_45 rfl rfl rfl ?_
    refine W.callV ok (rest := []) (cl' := (false, [])) (pc' := 49) (w223 hw) (w178 hw) (w180 hw) (w179 hw) (w58 hw) (w181 hw) (by decide) p1 pd_15 rfl (k_gLat1 l Z a0 hE a h1 p3) (fun _ q => (nomatch q)) (fun q => ⟨q, fun _ q => (nomatch q)⟩) rfl rfl (Nat.le_of_ble_eq_true rfl) (Nat.le_of_ble_eq_true rfl) (Nat.le_of_ble_eq_true rfl) (Nat.le_of_ble_eq_true rfl) d_jdk_68_method_31_46 rfl rfl (pureK ?_)
    show W B h1 1 72 (N3 ++ M) (false, []) 49 #[.val (.ref a), .val (.int c)] [(.int (0 : Int32))]
    refine W.ifeq ok (pcY := 56) (pcN := 52) d_jdk_68_method_31_49 rfl (by decide) rfl (fun _ => ?_) (fun q => absurd rfl q)
    refine W.aloadN ok (pc' := 57) d_jdk_68_method_31_56 rfl rfl rfl ?_
    refine W.getF ok (pc' := 60) (w62 hw) Via.refl p2 d_jdk_68_method_31_57 rfl ?_
    refine W.aloadN ok (pc' := 61) d_jdk_68_method_31_60 rfl rfl rfl ?_
    refine W.dup ok (pc' := 62) d_jdk_68_method_31_61 rfl rfl ?_
    refine W.getF ok (pc' := 65) (w102 hw) Via.refl p5 d_jdk_68_method_31_62 rfl ?_
    refine W.dupX1 ok (pc' := 66) d_jdk_68_method_31_65 rfl rfl rfl ?_
    refine W.iconst ok (pc' := 67) (1 : Int32) d_jdk_68_method_31_66 rfl rfl ?_
    refine W.iadd ok (pc' := 68) d_jdk_68_method_31_67 rfl ?_
    rw [i32_succ]
    have ox46 := p1
    have of47 := p2
    have of48 := p3
    have of49 := p4
    have of50 := p5
    refine W.putF ok (pc' := 71) (cl' := (false, [])) (w102 hw) Via.refl of50 ox46 (Or.inl (w103 hw)) (w39 hw) (ty := .int) (by decide) rfl rfl (List.mem_append_right _ (hwsM _ (List.mem_of_getElem? (i := 0) rfl))) (Or.inl (List.mem_of_getElem? (i := 0) rfl)) (fun q => by cases q) rfl d_jdk_68_method_31_68 rfl (fun h51 W52 => ?_)
    have ox53 := ox46.wr W52
    have of54 := of47.other W52 (Or.inr (slot_ne (Or.inl (w63 hw)) (Or.inl (w103 hw)) (by decide) (t := (.array .byte)) (by decide) (t' := .int) (by decide)))
    have of55 := of48.other W52 (Or.inr (slot_ne (Or.inl (w65 hw)) (Or.inl (w103 hw)) (by decide) (t := .byte) (by decide) (t' := .int) (by decide)))
    have of56 := of49.other W52 (Or.inr (slot_ne (Or.inl (w295 hw)) (Or.inl (w103 hw)) (by decide) (t := .boolean) (by decide) (t' := .int) (by decide)))
    have of57 := of50.same W52
    refine W.iloadN ok (pc' := 72) d_jdk_68_method_31_71 rfl rfl ?_
    refine W.callS ok (rest := []) (cl' := (false, [])) (pc' := 75) (w291 hw) (w292 hw) (w21 hw) (w293 hw) (by decide) pd_13 rfl (k_putSB l Z a0 hE t1 (wide cs ++ z0 :: z1 :: zs) cs.length c h51 (p6.other W52 (Ne.symm nat_)) (by simp [wide_length]) (by rw [List.length_append, wide_length] at *; simp at *; omega)) (fun w q => by simp only [List.mem_cons, List.not_mem_nil, or_false] at q; subst q; exact ⟨mt1, (ft1.elim (fun e => Or.inl (by rw [e]; simp)) (fun z => Or.inr z.2))⟩) (fun q => by cases q) rfl rfl (Nat.le_of_ble_eq_true rfl) (Nat.le_of_ble_eq_true rfl) (Nat.le_of_ble_eq_true rfl) (Nat.le_of_ble_eq_true rfl) d_jdk_68_method_31_72 rfl rfl (oldK fun v h58 hq K59 => ?_)
    obtain ⟨rfl, A2⟩ := hq
    show W B h58 1 72 (N3 ++ M) (false, []) 75 #[.val (.ref a), .val (.int c)] []
    refine W.aloadN ok (pc' := 76) d_jdk_68_method_31_75 rfl rfl rfl ?_
    have nin_ : a ∉ [t1] := by simp; exact nat_
    have ox60 := (ox53.keep K59)
    have of61 := (of54.keep K59 nin_)
    have of62 := (of55.keep K59 nin_)
    have of63 := (of56.keep K59 nin_)
    have of64 := (of57.keep K59 nin_)
    exact W.retAN ok N3 d_jdk_68_method_31_76 rfl rfl (Nat.le_of_ble_eq_true rfl) (Nat.le_of_ble_eq_true rfl) (fun x q => (List.mem_append.mp q).elim (fun q => (List.mem_append_left _ q)) (fun q => (List.mem_append_right _ q))) (fun kp => ⟨rfl, t1, cap1, ⟨1, wide (cs ++ [c]), zs, ⟨ox60, of61, of62, of63, by rw [List.length_append]; exact of64, A2.cast (by rw [← wide_length cs, set2, wide_one]), (p7.wr W52).keep K59⟩, Or.inr ⟨rfl, rfl, fun y q => (List.mem_append.mp q).elim (fun q => hr y q) (fun q => by rw [List.mem_singleton.mp q]; exact hc16), hx.choose, List.mem_append_left _ hx.choose_spec.1, hx.choose_spec.2⟩, Or.inr ⟨rfl, by rw [List.length_append, wide_length, List.length_append]; simp; omega⟩⟩, hb1, ft1, hN1⟩)
set_option maxRecDepth 65536 in
set_option maxHeartbeats 4000000 in
theorem k_gAppC (l : Launch) (Z : State) (a0 : Array Value) (hE : Ev Z a0) (a t : Addr) (cs : List Int32) (cap : Nat) (c : Int32) (h : Heap) (G : SBG Z h a t cs cap) (hc16 : 0 ≤ c.toInt ∧ c.toInt ≤ 65535) (hm : cs.length + 1 ≤ 18) (hcm : cap ≤ 36) : Con2 l Z false (⟨"java/lang/StringBuilder", "append", "(C)Ljava/lang/StringBuilder;"⟩ : MethodName) jdk_67_method_14_code 2 (some (.object "java/lang/StringBuilder")) ({ frames := 7, cells := 2, slots := 144, locals := 102 } : Room) [(.ref a), (.int c)] h [a, t]  (fun M N v h' => v = some (.ref a) ∧ ∃ t' cap', SBG Z h' a t' (cs ++ [c]) cap' ∧ cap' ≤ 36 ∧ (t' = t ∨ (t' ∈ N ∧ h.size ≤ t')) ∧ ∀ x ∈ N, h.size ≤ x) := by
  have hw := hE.1
  refine Con2.intro (L0 := #[.val (.ref a), .val (.int c)]) (by decide +kernel) (fun m => ef_of rfl) ?_
  intro B M hwsM ok
  refine W.aloadN ok (pc' := 1) d_jdk_67_method_14_0 rfl rfl rfl ?_
  refine W.iloadN ok (pc' := 2) d_jdk_67_method_14_1 rfl rfl ?_
  refine W.callU ok (rest := []) (cl' := (false, [])) (pc' := 5) (y := (⟨"java/lang/AbstractStringBuilder", "append", "(C)Ljava/lang/AbstractStringBuilder;"⟩ : MethodName)) (show NoFace Z "java/lang/AbstractStringBuilder" from NoFace.of (w107 hw)) (by decide) (w219 hw) (w220 hw) (w98 hw) (w58 hw) (w222 hw) (by decide) G.exa pd_19 rfl (k_gaAppC l Z a0 hE a t cs cap c h G hc16 hm hcm) (fun w q => by simp only [List.mem_cons, List.not_mem_nil, or_false] at q; rcases q with rfl | rfl; exact ⟨(hwsM _ (List.mem_of_getElem? (i := 0) rfl)), (Or.inl (List.mem_of_getElem? (i := 0) rfl))⟩; exact ⟨(hwsM _ (List.mem_of_getElem? (i := 1) rfl)), (Or.inl (List.mem_of_getElem? (i := 1) rfl))⟩) (fun q => by cases q) rfl rfl (Nat.le_of_ble_eq_true rfl) (Nat.le_of_ble_eq_true rfl) (Nat.le_of_ble_eq_true rfl) (Nat.le_of_ble_eq_true rfl) d_jdk_67_method_14_2 rfl rfl (fun N3 v h1 hq K2 => ?_)
  obtain ⟨rfl, hq⟩ := hq
  show W B h1 2 144 (N3 ++ M) (false, []) 5 #[.val (.ref a), .val (.int c)] [(.ref a)]
  refine W.pop1 ok (pc' := 6) d_jdk_67_method_14_5 rfl rfl ?_
  refine W.aloadN ok (pc' := 7) d_jdk_67_method_14_6 rfl rfl rfl ?_
  exact W.retAN ok N3 d_jdk_67_method_14_7 rfl rfl (Nat.le_of_ble_eq_true rfl) (Nat.le_of_ble_eq_true rfl) (fun x q => (List.mem_append.mp q).elim (fun q => (List.mem_append_left _ q)) (fun q => (List.mem_append_right _ q))) (fun kp => ⟨rfl, hq⟩)
set_option maxRecDepth 65536 in
set_option maxHeartbeats 4000000 in
theorem k_coder (l : Launch) (Z : State) (a0 : Array Value) (hE : Ev Z a0) (a : Addr) (cd : Int32) (h : Heap) (F : Fld Z h a ST "coder" "B" (.int cd)) (hc : b8 cd = cd) : Con l Z false (⟨"java/lang/String", "coder", "()B"⟩ : MethodName) jdk_42_method_152_code 1 (some .byte) ({ frames := 0, cells := 0, slots := 0, locals := 0 } : Room) [(.ref a)] h [] false (fun M v h' => v = some (.int cd) ∧ h' = h) := by
  have hw := hE.1
  refine Con.intro (L0 := #[.val (.ref a)]) (by decide +kernel) (fun m => ef_of rfl) ?_
  intro B M hwsM ok
  obtain ⟨g, hg, Fg⟩ := hE.compact
  refine W.getS ok (pc' := 3) (w18 hw) Via.refl Fg d_jdk_42_method_152_0 rfl ?_
  refine W.ifeq ok (pcY := 13) (pcN := 6) d_jdk_42_method_152_3 rfl (by decide) rfl (fun q => absurd q hg) (fun _ => ?_)
  refine W.aloadN ok (pc' := 7) d_jdk_42_method_152_6 rfl rfl rfl ?_
  refine W.getF ok (pc' := 10) (w30 hw) Via.refl F d_jdk_42_method_152_7 rfl ?_
  refine W.goto ok (pc' := 14) d_jdk_42_method_152_10 (by decide) rfl ?_
  exact W.retB ok d_jdk_42_method_152_14 hc (Nat.le_of_ble_eq_true rfl) (Nat.le_of_ble_eq_true rfl) (fun x (q : x ∈ M) => q) (fun kp => ⟨rfl, rfl⟩)
set_option maxRecDepth 65536 in
set_option maxHeartbeats 4000000 in
theorem k_length (l : Launch) (Z : State) (a0 : Array Value) (hE : Ev Z a0) (a : Addr) (cs : List Int32) (h : Heap) (S : Str Z h a cs) (hl : cs.length < 1000000) : Con l Z false (⟨"java/lang/String", "length", "()I"⟩ : MethodName) jdk_42_method_54_code 1 (some .int) ({ frames := 1, cells := 0, slots := 0, locals := 13 } : Room) [(.ref a)] h [] false (fun M v h' => v = some (.int cs.length.toInt32) ∧ h' = h) := by
  have hw := hE.1
  refine Con.intro (L0 := #[.val (.ref a)]) (by decide +kernel) (fun m => ef_of rfl) ?_
  intro B M hwsM ok
  obtain ⟨t, cd, bs, X, F1, F2, A, hc⟩ := S
  refine W.aloadN ok (pc' := 1) d_jdk_42_method_54_0 rfl rfl rfl ?_
  refine W.getF ok (pc' := 4) (w32 hw) Via.refl F1 d_jdk_42_method_54_1 rfl ?_
  refine W.lenI ok (pc' := 5) A bs.length.toInt32 rfl d_jdk_42_method_54_4 rfl ?_
  refine W.aloadN ok (pc' := 6) d_jdk_42_method_54_5 rfl rfl rfl ?_
  refine W.callV ok (rest := [(.int bs.length.toInt32)]) (cl' := (true, [])) (pc' := 9) (w46 hw) (w47 hw) (w49 hw) (w48 hw) (w7 hw) (w50 hw) (by decide) X pd_20 rfl (k_coder l Z a0 hE a cd h F2 hc.cd01) (fun _ q => (nomatch q)) (fun q => ⟨q, fun _ q => (nomatch q)⟩) rfl rfl (Nat.le_of_ble_eq_true rfl) (Nat.le_of_ble_eq_true rfl) (Nat.le_of_ble_eq_true rfl) (Nat.le_of_ble_eq_true rfl) d_jdk_42_method_54_6 rfl rfl (pureK ?_)
  show W B h 0 0 M (true, []) 9 #[.val (.ref a)] [(.int cd), (.int bs.length.toInt32)]
  refine W.ishr ok (pc' := 10) d_jdk_42_method_54_9 rfl ?_
  exact W.retI ok d_jdk_42_method_54_10 (Nat.le_of_ble_eq_true rfl) (Nat.le_of_ble_eq_true rfl) (fun x (q : x ∈ M) => q) (fun kp => ⟨by rw [hc.len hl], rfl⟩)
set_option maxRecDepth 65536 in
set_option maxHeartbeats 4000000 in
theorem k_gIfn (l : Launch) (Z : State) (a0 : Array Value) (hE : Ev Z a0) (a s : Addr) (cd : Int32) (ds : List Int32) (h : Heap) (X : Exa Z h a SBC) (F : Fld Z h a ASB "coder" "B" (.int cd)) (hcd : cd = 0 ∨ cd = 1) (T : Str Z h s ds) (hlat : ∀ c ∈ ds, c.toInt ≤ 255) : Con l Z false (⟨"java/lang/AbstractStringBuilder", "inflateIfNeededFor", "(Ljava/lang/String;)V"⟩ : MethodName) jdk_68_method_71_code 2 none ({ frames := 2, cells := 0, slots := 0, locals := 25 } : Room) [(.ref a), (.ref s)] h [] false (fun M v h' => v = none ∧ h' = h) := by
  have hw := hE.1
  refine Con.intro (L0 := #[.val (.ref a), .val (.ref s)]) (by decide +kernel) (fun m => ef_of rfl) ?_
  intro B M hwsM ok
  obtain ⟨u, ce, fs, XT, G1, G2, AT, hd⟩ := T
  obtain ⟨rfl, rfl, hrT⟩ : ce = 0 ∧ fs = ds.map b8 ∧ ∀ c ∈ ds, 0 ≤ c.toInt ∧ c.toInt ≤ 255 := by
    rcases hd with hd | ⟨-, -, -, x, hx, h2⟩
    · exact hd
    · have := hlat x hx; omega
  obtain ⟨g, hg, Fg⟩ := hE.compact
  rcases hcd with rfl | rfl
  · refine W.getS ok (pc' := 3) (w61 hw) Via.refl Fg d_jdk_68_method_71_0 rfl ?_
    refine W.ifeq ok (pcY := 21) (pcN := 6) d_jdk_68_method_71_3 rfl (by decide) rfl (fun q => absurd q hg) (fun _ => ?_)
    refine W.aloadN ok (pc' := 7) d_jdk_68_method_71_6 rfl rfl rfl ?_
    refine W.getF ok (pc' := 10) (w64 hw) Via.refl F d_jdk_68_method_71_7 rfl ?_
    refine W.aloadN ok (pc' := 11) d_jdk_68_method_71_10 rfl rfl rfl ?_
    refine W.callV ok (rest := [(.int (0 : Int32))]) (cl' := (true, [])) (pc' := 14) (w145 hw) (w47 hw) (w49 hw) (w48 hw) (w7 hw) (w50 hw) (by decide) XT pd_20 rfl (k_coder l Z a0 hE s 0 h G2 rfl) (fun _ q => (nomatch q)) (fun q => ⟨q, fun _ q => (nomatch q)⟩) rfl rfl (Nat.le_of_ble_eq_true rfl) (Nat.le_of_ble_eq_true rfl) (Nat.le_of_ble_eq_true rfl) (Nat.le_of_ble_eq_true rfl) d_jdk_68_method_71_11 rfl rfl (pureK ?_)
    show W B h 0 0 M (true, []) 14 #[.val (.ref a), .val (.ref s)] [(.int (0 : Int32)), (.int (0 : Int32))]
    refine W.icmpeq ok (pcY := 21) (pcN := 17) d_jdk_68_method_71_14 rfl (by decide) rfl (fun _ => ?_) (fun q => absurd rfl q)
    exact W.retV ok d_jdk_68_method_71_21 (Nat.le_of_ble_eq_true rfl) (Nat.le_of_ble_eq_true rfl) (fun x (q : x ∈ M) => q) (fun kp => ⟨rfl, rfl⟩)
  · refine W.getS ok (pc' := 3) (w61 hw) Via.refl Fg d_jdk_68_method_71_0 rfl ?_
    refine W.ifeq ok (pcY := 21) (pcN := 6) d_jdk_68_method_71_3 rfl (by decide) rfl (fun q => absurd q hg) (fun _ => ?_)
    refine W.aloadN ok (pc' := 7) d_jdk_68_method_71_6 rfl rfl rfl ?_
    refine W.getF ok (pc' := 10) (w64 hw) Via.refl F d_jdk_68_method_71_7 rfl ?_
    refine W.aloadN ok (pc' := 11) d_jdk_68_method_71_10 rfl rfl rfl ?_
    refine W.callV ok (rest := [(.int (1 : Int32))]) (cl' := (true, [])) (pc' := 14) (w145 hw) (w47 hw) (w49 hw) (w48 hw) (w7 hw) (w50 hw) (by decide) XT pd_20 rfl (k_coder l Z a0 hE s 0 h G2 rfl) (fun _ q => (nomatch q)) (fun q => ⟨q, fun _ q => (nomatch q)⟩) rfl rfl (Nat.le_of_ble_eq_true rfl) (Nat.le_of_ble_eq_true rfl) (Nat.le_of_ble_eq_true rfl) (Nat.le_of_ble_eq_true rfl) d_jdk_68_method_71_11 rfl rfl (pureK ?_)
    show W B h 0 0 M (true, []) 14 #[.val (.ref a), .val (.ref s)] [(.int (0 : Int32)), (.int (1 : Int32))]
    refine W.icmpeq ok (pcY := 21) (pcN := 17) d_jdk_68_method_71_14 rfl (by decide) rfl (fun q => absurd q (by decide)) (fun _ => ?_)
    refine W.aloadN ok (pc' := 18) d_jdk_68_method_71_17 rfl rfl rfl ?_
    refine W.callW ok (rest := []) (cl' := (true, [])) (pc' := 21) (yr := (⟨"java/lang/AbstractStringBuilder", "inflate", "()V"⟩ : MethodName)) (w270 hw) (decl_of (w271 hw) (w274 hw)) (show NoFace Z "java/lang/AbstractStringBuilder" from NoFace.of (w107 hw)) (w273 hw) (w271 hw) (w58 hw) (w274 hw) (by decide) X pd_18 rfl (k_gInf1 l Z a0 hE a h X F) (fun _ q => (nomatch q)) (fun q => ⟨q, fun _ q => (nomatch q)⟩) rfl rfl (Nat.le_of_ble_eq_true rfl) (Nat.le_of_ble_eq_true rfl) (Nat.le_of_ble_eq_true rfl) (Nat.le_of_ble_eq_true rfl) d_jdk_68_method_71_18 rfl rfl (pureK0 ?_)
    show W B h 0 0 M (true, []) 21 #[.val (.ref a), .val (.ref s)] []
    exact W.retV ok d_jdk_68_method_71_21 (Nat.le_of_ble_eq_true rfl) (Nat.le_of_ble_eq_true rfl) (fun x (q : x ∈ M) => q) (fun kp => ⟨rfl, rfl⟩)
set_option maxRecDepth 65536 in
set_option maxHeartbeats 4000000 in
theorem k_gGet0 (l : Launch) (Z : State) (a0 : Array Value) (hE : Ev Z a0) (s t : Addr) (ds es : List Int32) (pN : Nat) (h : Heap) (T : Str Z h s ds) (hlat : ∀ c ∈ ds, c.toInt ≤ 255) (D : ArI Z h t .byte es) (hp : pN + ds.length ≤ es.length) (hl : es.length < 1000000) : Con l Z false (⟨"java/lang/String", "getBytes", "([BIB)V"⟩ : MethodName) jdk_42_method_147_code 4 none ({ frames := 1, cells := 0, slots := 0, locals := 18 } : Room) [(.ref s), (.ref t), (.int pN.toInt32), (.int (0 : Int32))] h [t] false (fun M v h' => v = none ∧ ArI Z h' t .byte (es.take pN ++ ds.map b8 ++ es.drop (pN + ds.length))) := by
  have hw := hE.1
  refine Con.intro (L0 := #[.val (.ref s), .val (.ref t), .val (.int pN.toInt32), .val (.int (0 : Int32))]) (by decide +kernel) (fun m => ef_of rfl) ?_
  intro B M hwsM ok
  obtain ⟨u, ce, fs, XT, G1, G2, AT, hd⟩ := T
  obtain ⟨rfl, rfl, hrT⟩ : ce = 0 ∧ fs = ds.map b8 ∧ ∀ c ∈ ds, 0 ≤ c.toInt ∧ c.toInt ≤ 255 := by
    rcases hd with hd | ⟨-, -, -, x, hx, h2⟩
    · exact hd
    · have := hlat x hx; omega
  refine W.aloadN ok (pc' := 1) d_jdk_42_method_147_0 rfl rfl rfl ?_
  refine W.callV ok (rest := []) (cl' := (true, [])) (pc' := 4) (w46 hw) (w47 hw) (w49 hw) (w48 hw) (w7 hw) (w50 hw) (by decide) XT pd_20 rfl (k_coder l Z a0 hE s 0 h G2 rfl) (fun _ q => (nomatch q)) (fun q => ⟨q, fun _ q => (nomatch q)⟩) rfl rfl (Nat.le_of_ble_eq_true rfl) (Nat.le_of_ble_eq_true rfl) (Nat.le_of_ble_eq_true rfl) (Nat.le_of_ble_eq_true rfl) d_jdk_42_method_147_1 rfl rfl (pureK ?_)
  show W B h 0 0 M (true, []) 4 #[.val (.ref s), .val (.ref t), .val (.int pN.toInt32), .val (.int (0 : Int32))] [(.int (0 : Int32))]
  refine W.iloadN ok (pc' := 5) d_jdk_42_method_147_4 rfl rfl ?_
  refine W.icmpne ok (pcY := 28) (pcN := 8) d_jdk_42_method_147_5 rfl (by decide) rfl (fun _ => ?_) (fun q => absurd rfl q)
  refine W.aloadN ok (pc' := 9) d_jdk_42_method_147_8 rfl rfl rfl ?_
  refine W.getF ok (pc' := 12) (w32 hw) Via.refl G1 d_jdk_42_method_147_9 rfl ?_
  refine W.iconst ok (pc' := 13) (0 : Int32) d_jdk_42_method_147_12 rfl rfl ?_
  refine W.aloadN ok (pc' := 14) d_jdk_42_method_147_13 rfl rfl rfl ?_
  refine W.iloadN ok (pc' := 15) d_jdk_42_method_147_14 rfl rfl ?_
  refine W.iloadN ok (pc' := 16) d_jdk_42_method_147_15 rfl rfl ?_
  refine W.ishl ok (pc' := 17) d_jdk_42_method_147_16 rfl ?_
  rw [shl0]
  refine W.aloadN ok (pc' := 18) d_jdk_42_method_147_17 rfl rfl rfl ?_
  refine W.getF ok (pc' := 21) (w32 hw) Via.refl G1 d_jdk_42_method_147_18 rfl ?_
  refine W.lenI ok (pc' := 22) AT ((ds.map b8).length.toInt32) rfl d_jdk_42_method_147_21 rfl ?_
  refine W.acopy ok (pc' := 25) (cl' := (false, [])) (sp := 0) (dp := pN) (nn := (ds.map b8).length) (w151 hw) (w134 hw) (w132 hw) (w133 hw) AT D rfl (by simp) (by simp; omega) (by simp; omega) (by omega) (hwsM _ (List.mem_of_getElem? (i := 0) rfl)) (Or.inl (List.mem_of_getElem? (i := 0) rfl)) (fun q => by cases q) rfl rfl (Nat.le_of_ble_eq_true rfl) (Nat.le_of_ble_eq_true rfl) d_jdk_42_method_147_22 rfl (fun h1 K2 A3 => ?_)
  show W B h1 0 0 M (false, []) 25 #[.val (.ref s), .val (.ref t), .val (.int pN.toInt32), .val (.int (0 : Int32))] []
  refine W.goto ok (pc' := 43) d_jdk_42_method_147_25 (by decide) rfl ?_
  exact W.retV ok d_jdk_42_method_147_43 (Nat.le_of_ble_eq_true rfl) (Nat.le_of_ble_eq_true rfl) (fun x (q : x ∈ M) => q) (fun kp => ⟨rfl, A3.cast (by rw [List.drop_zero, List.take_length, List.length_map])⟩)
set_option maxRecDepth 65536 in
set_option maxHeartbeats 4000000 in
theorem k_gGet1 (l : Launch) (Z : State) (a0 : Array Value) (hE : Ev Z a0) (s t : Addr) (ds pre rest : List Int32) (pN tot : Nat) (h : Heap) (T : Str Z h s ds) (hlat : ∀ c ∈ ds, c.toInt ≤ 255) (hut : ∀ u, Fld Z h s ST "value" "[B" (.ref u) → u ≠ t) (D : ArI Z h t .byte (pre ++ rest)) (hp : pre.length = 2 * pN) (hl : 2 * ds.length ≤ rest.length) (he : (pre ++ rest).length = 2 * tot) (ht : tot < 500000) : Con l Z false (⟨"java/lang/String", "getBytes", "([BIB)V"⟩ : MethodName) jdk_42_method_147_code 4 none ({ frames := 5, cells := 0, slots := 0, locals := 76 } : Room) [(.ref s), (.ref t), (.int pN.toInt32), (.int (1 : Int32))] h [t] false (fun M v h' => v = none ∧ ArI Z h' t .byte (pre ++ wide ds ++ rest.drop (2 * ds.length))) := by
  have hw := hE.1
  refine Con.intro (L0 := #[.val (.ref s), .val (.ref t), .val (.int pN.toInt32), .val (.int (1 : Int32))]) (by decide +kernel) (fun m => ef_of rfl) ?_
  intro B M hwsM ok
  obtain ⟨u, ce, fs, XT, G1, G2, AT, hd⟩ := T
  obtain ⟨rfl, rfl, hrT⟩ : ce = 0 ∧ fs = ds.map b8 ∧ ∀ c ∈ ds, 0 ≤ c.toInt ∧ c.toInt ≤ 255 := by
    rcases hd with hd | ⟨-, -, -, x, hx, h2⟩
    · exact hd
    · have := hlat x hx; omega
  refine W.aloadN ok (pc' := 1) d_jdk_42_method_147_0 rfl rfl rfl ?_
  refine W.callV ok (rest := []) (cl' := (true, [])) (pc' := 4) (w46 hw) (w47 hw) (w49 hw) (w48 hw) (w7 hw) (w50 hw) (by decide) XT pd_20 rfl (k_coder l Z a0 hE s 0 h G2 rfl) (fun _ q => (nomatch q)) (fun q => ⟨q, fun _ q => (nomatch q)⟩) rfl rfl (Nat.le_of_ble_eq_true rfl) (Nat.le_of_ble_eq_true rfl) (Nat.le_of_ble_eq_true rfl) (Nat.le_of_ble_eq_true rfl) d_jdk_42_method_147_1 rfl rfl (pureK ?_)
  show W B h 0 0 M (true, []) 4 #[.val (.ref s), .val (.ref t), .val (.int pN.toInt32), .val (.int (1 : Int32))] [(.int (0 : Int32))]
  refine W.iloadN ok (pc' := 5) d_jdk_42_method_147_4 rfl rfl ?_
  refine W.icmpne ok (pcY := 28) (pcN := 8) d_jdk_42_method_147_5 rfl (by decide) rfl (fun q => absurd q (by decide)) (fun _ => ?_)
  refine W.aloadN ok (pc' := 29) d_jdk_42_method_147_28 rfl rfl rfl ?_
  refine W.getF ok (pc' := 32) (w32 hw) Via.refl G1 d_jdk_42_method_147_29 rfl ?_
  refine W.iconst ok (pc' := 33) (0 : Int32) d_jdk_42_method_147_32 rfl rfl ?_
  refine W.aloadN ok (pc' := 34) d_jdk_42_method_147_33 rfl rfl rfl ?_
  refine W.iloadN ok (pc' := 35) d_jdk_42_method_147_34 rfl rfl ?_
  refine W.aloadN ok (pc' := 36) d_jdk_42_method_147_35 rfl rfl rfl ?_
  refine W.getF ok (pc' := 39) (w32 hw) Via.refl G1 d_jdk_42_method_147_36 rfl ?_
  refine W.lenI ok (pc' := 40) AT ds.length.toInt32 (by rw [List.length_map]) d_jdk_42_method_147_39 rfl ?_
  refine W.callS ok (rest := []) (cl' := (false, [])) (pc' := 43) (w301 hw) (w277 hw) (w78 hw) (w278 hw) (by decide) pd_14 rfl (k_lInf l Z a0 hE u t ds [] pre rest pN tot h (AT.cast (by simp)) hrT D hp hl he ht (hut u G1)) (fun w q => by simp only [List.mem_cons, List.not_mem_nil, or_false] at q; subst q; exact ⟨(hwsM _ (List.mem_of_getElem? (i := 0) rfl)), (Or.inl (List.mem_of_getElem? (i := 0) rfl))⟩) (fun q => by cases q) rfl rfl (Nat.le_of_ble_eq_true rfl) (Nat.le_of_ble_eq_true rfl) (Nat.le_of_ble_eq_true rfl) (Nat.le_of_ble_eq_true rfl) d_jdk_42_method_147_40 rfl rfl (oldK fun v h1 hq K2 => ?_)
  obtain ⟨rfl, A⟩ := hq
  show W B h1 0 0 M (false, []) 43 #[.val (.ref s), .val (.ref t), .val (.int pN.toInt32), .val (.int (1 : Int32))] []
  exact W.retV ok d_jdk_42_method_147_43 (Nat.le_of_ble_eq_true rfl) (Nat.le_of_ble_eq_true rfl) (fun x (q : x ∈ M) => q) (fun kp => ⟨rfl, A⟩)
set_option maxRecDepth 65536 in
set_option maxHeartbeats 4000000 in
theorem k_gPut (l : Launch) (Z : State) (a0 : Array Value) (hE : Ev Z a0) (a t s : Addr) (cd : Int32) (cs es zs ds : List Int32) (cap : Nat) (h : Heap) (S : SBr Z h a t cd cs.length (es ++ zs)) (hc : Cod cd cs es) (hcap : CapOf cd (es ++ zs).length cap) (hm : cs.length + ds.length ≤ cap) (hcm : cap ≤ 36) (T : Str Z h s ds) (hlat : ∀ c ∈ ds, c.toInt ≤ 255) (hut : ∀ u, Fld Z h s ST "value" "[B" (.ref u) → u ≠ t) : Con l Z false (⟨"java/lang/AbstractStringBuilder", "putStringAt", "(ILjava/lang/String;)V"⟩ : MethodName) jdk_68_method_73_code 3 none ({ frames := 6, cells := 0, slots := 0, locals := 91 } : Room) [(.ref a), (.int cs.length.toInt32), (.ref s)] h [t] false (fun M v h' => v = none ∧ ∃ fs zs', ArI Z h' t .byte (fs ++ zs') ∧ Cod cd (cs ++ ds) fs ∧ (fs ++ zs').length = (es ++ zs).length) := by
  have hw := hE.1
  refine Con.intro (L0 := #[.val (.ref a), .val (.int cs.length.toInt32), .val (.ref s)]) (by decide +kernel) (fun m => ef_of rfl) ?_
  intro B M hwsM ok
  obtain ⟨q1, q2, q3, q4, q5, q6, q7⟩ := S
  have hcd : cd = 0 ∨ cd = 1 := hc.elim (fun q => Or.inl q.1) (fun q => Or.inr q.1)
  refine W.aloadN ok (pc' := 1) d_jdk_68_method_73_0 rfl rfl rfl ?_
  refine W.aloadN ok (pc' := 2) d_jdk_68_method_73_1 rfl rfl rfl ?_
  refine W.callW ok (rest := []) (cl' := (true, [])) (pc' := 5) (yr := (⟨"java/lang/AbstractStringBuilder", "inflateIfNeededFor", "(Ljava/lang/String;)V"⟩ : MethodName)) (w140 hw) (decl_of (w141 hw) (w144 hw)) (show NoFace Z "java/lang/AbstractStringBuilder" from NoFace.of (w107 hw)) (w143 hw) (w141 hw) (w58 hw) (w144 hw) (by decide) q1 pd_21 rfl (k_gIfn l Z a0 hE a s cd ds h q1 q3 hcd T hlat) (fun _ q => (nomatch q)) (fun q => ⟨q, fun _ q => (nomatch q)⟩) rfl rfl (Nat.le_of_ble_eq_true rfl) (Nat.le_of_ble_eq_true rfl) (Nat.le_of_ble_eq_true rfl) (Nat.le_of_ble_eq_true rfl) d_jdk_68_method_73_2 rfl rfl (pureK0 ?_)
  show W B h 0 0 M (true, []) 5 #[.val (.ref a), .val (.int cs.length.toInt32), .val (.ref s)] []
  refine W.aloadN ok (pc' := 6) d_jdk_68_method_73_5 rfl rfl rfl ?_
  refine W.aloadN ok (pc' := 7) d_jdk_68_method_73_6 rfl rfl rfl ?_
  refine W.getF ok (pc' := 10) (w62 hw) Via.refl q2 d_jdk_68_method_73_7 rfl ?_
  refine W.iloadN ok (pc' := 11) d_jdk_68_method_73_10 rfl rfl ?_
  refine W.aloadN ok (pc' := 12) d_jdk_68_method_73_11 rfl rfl rfl ?_
  refine W.getF ok (pc' := 15) (w64 hw) Via.refl q3 d_jdk_68_method_73_12 rfl ?_
  have hdr : ∀ c ∈ ds, 0 ≤ c.toInt ∧ c.toInt ≤ 65535 := T.rng
  rcases hc with ⟨rfl, rfl, hr⟩ | ⟨rfl, rfl, hr, hx⟩
  · have lcap := hcap.elim (fun q => q.2) (fun q => absurd q.1 (by decide))
    have lz : ds.length ≤ zs.length := by rw [List.length_append, List.length_map] at lcap; omega
    refine W.callV ok (rest := []) (cl' := (false, [])) (pc' := 18) (w146 hw) (w147 hw) (w149 hw) (w148 hw) (w7 hw) (w150 hw) (by decide) T.exa pd_22 rfl (k_gGet0 l Z a0 hE s t ds (cs.map b8 ++ zs) cs.length h T hlat q6 (by simp; omega) (by omega)) (fun w q => by simp only [List.mem_cons, List.not_mem_nil, or_false] at q; subst q; exact ⟨(hwsM _ (List.mem_of_getElem? (i := 0) rfl)), (Or.inl (List.mem_of_getElem? (i := 0) rfl))⟩) (fun q => by cases q) rfl rfl (Nat.le_of_ble_eq_true rfl) (Nat.le_of_ble_eq_true rfl) (Nat.le_of_ble_eq_true rfl) (Nat.le_of_ble_eq_true rfl) d_jdk_68_method_73_15 rfl rfl (oldK fun v h1 hq K2 => ?_)
    obtain ⟨rfl, A⟩ := hq
    show W B h1 0 0 M (false, []) 18 #[.val (.ref a), .val (.int cs.length.toInt32), .val (.ref s)] []
    exact W.retV ok d_jdk_68_method_73_18 (Nat.le_of_ble_eq_true rfl) (Nat.le_of_ble_eq_true rfl) (fun x (q : x ∈ M) => q) (fun kp => ⟨rfl, (cs ++ ds).map b8, zs.drop ds.length, A.cast (lay_sb cs zs ds lz), Or.inl ⟨rfl, rfl, fun y q => (List.mem_append.mp q).elim (hr y) (fun q => ⟨(hdr y q).1, hlat y q⟩)⟩, by simp; omega⟩)
  · have lcap := hcap.elim (fun q => absurd q.1 (by decide)) (fun q => q.2)
    have lz : 2 * ds.length ≤ zs.length := by rw [List.length_append, wide_length] at lcap; omega
    refine W.callV ok (rest := []) (cl' := (false, [])) (pc' := 18) (w146 hw) (w147 hw) (w149 hw) (w148 hw) (w7 hw) (w150 hw) (by decide) T.exa pd_22 rfl (k_gGet1 l Z a0 hE s t ds (wide cs) zs cs.length cap h T hlat hut q6 (wide_length cs) lz lcap (by omega)) (fun w q => by simp only [List.mem_cons, List.not_mem_nil, or_false] at q; subst q; exact ⟨(hwsM _ (List.mem_of_getElem? (i := 0) rfl)), (Or.inl (List.mem_of_getElem? (i := 0) rfl))⟩) (fun q => by cases q) rfl rfl (Nat.le_of_ble_eq_true rfl) (Nat.le_of_ble_eq_true rfl) (Nat.le_of_ble_eq_true rfl) (Nat.le_of_ble_eq_true rfl) d_jdk_68_method_73_15 rfl rfl (oldK fun v h3 hq K4 => ?_)
    obtain ⟨rfl, A⟩ := hq
    show W B h3 0 0 M (false, []) 18 #[.val (.ref a), .val (.int cs.length.toInt32), .val (.ref s)] []
    exact W.retV ok d_jdk_68_method_73_18 (Nat.le_of_ble_eq_true rfl) (Nat.le_of_ble_eq_true rfl) (fun x (q : x ∈ M) => q) (fun kp => ⟨rfl, wide (cs ++ ds), zs.drop (2 * ds.length), A.cast (by rw [wide_app]), Or.inr ⟨rfl, rfl, fun y q => (List.mem_append.mp q).elim (hr y) (hdr y), hx.choose, List.mem_append_left _ hx.choose_spec.1, hx.choose_spec.2⟩, by simp [wide_length]; omega⟩)
set_option maxRecDepth 65536 in
set_option maxHeartbeats 4000000 in
theorem k_gaAppS (l : Launch) (Z : State) (a0 : Array Value) (hE : Ev Z a0) (a t : Addr) (cs : List Int32) (cap : Nat) (s : Addr) (ds : List Int32) (h : Heap) (G : SBG Z h a t cs cap) (hm : cs.length + ds.length ≤ 18) (hcm : cap ≤ 36) (T : Str Z h s ds) (hlat : ∀ c ∈ ds, c.toInt ≤ 255) (hut : ∀ u, Fld Z h s ST "value" "[B" (.ref u) → u ≠ t) : Con2 l Z false (⟨"java/lang/AbstractStringBuilder", "append", "(Ljava/lang/String;)Ljava/lang/AbstractStringBuilder;"⟩ : MethodName) jdk_68_method_22_code 3 (some (.object "java/lang/AbstractStringBuilder")) ({ frames := 7, cells := 1, slots := 72, locals := 105 } : Room) [(.ref a), (.ref s)] h [a, t]  (fun M N v h' => v = some (.ref a) ∧ ∃ t' cap', SBG Z h' a t' (cs ++ ds) cap' ∧ cap' ≤ 36 ∧ (t' = t ∨ (t' ∈ N ∧ h.size ≤ t')) ∧ ∀ x ∈ N, h.size ≤ x) := by
  have hw := hE.1
  refine Con2.intro (L0 := #[.val (.ref a), .val (.ref s), .unset]) (by decide +kernel) (fun m => ef_of rfl) ?_
  intro B M hwsM ok
  obtain ⟨cd, es, bs, S, hc, hcap⟩ := G
  have S0 := S
  obtain ⟨q1, q2, q3, q4, q5, q6, q7⟩ := S
  refine W.old ok fun _ le0 => ?_
  refine W.aloadN ok (pc' := 1) d_jdk_68_method_22_0 rfl rfl rfl ?_
  refine W.ifnonnull ok (pcY := 9) (pcN := 4) d_jdk_68_method_22_1 rfl rfl (by decide) rfl (fun q => absurd q (fun e => by cases e)) (fun _ => ?_)
  refine W.aloadN ok (pc' := 10) d_jdk_68_method_22_9 rfl rfl rfl ?_
  refine W.callV ok (rest := []) (cl' := (true, [])) (pc' := 13) (w101 hw) (w42 hw) (w44 hw) (w43 hw) (w7 hw) (w45 hw) (by decide) T.exa pd_1 rfl (k_length l Z a0 hE s ds h T (by omega)) (fun _ q => (nomatch q)) (fun q => ⟨q, fun _ q => (nomatch q)⟩) rfl rfl (Nat.le_of_ble_eq_true rfl) (Nat.le_of_ble_eq_true rfl) (Nat.le_of_ble_eq_true rfl) (Nat.le_of_ble_eq_true rfl) d_jdk_68_method_22_10 rfl rfl (pureK ?_)
  show W B h 0 0 M (true, []) 13 #[.val (.ref a), .val (.ref s), .unset] [(.int ds.length.toInt32)]
  refine W.istoreN ok (pc' := 14) (L' := #[.val (.ref a), .val (.ref s), .val (.int ds.length.toInt32)]) d_jdk_68_method_22_13 rfl rfl ?_
  refine W.aloadN ok (pc' := 15) d_jdk_68_method_22_14 rfl rfl rfl ?_
  refine W.aloadN ok (pc' := 16) d_jdk_68_method_22_15 rfl rfl rfl ?_
  refine W.getF ok (pc' := 19) (w102 hw) Via.refl q5 d_jdk_68_method_22_16 rfl ?_
  refine W.iloadN ok (pc' := 20) d_jdk_68_method_22_19 rfl rfl ?_
  refine W.iadd ok (pc' := 21) d_jdk_68_method_22_20 rfl ?_
  rw [i32_add]
  refine W.callW ok (rest := []) (cl' := (false, [])) (pc' := 24) (yr := (⟨"java/lang/AbstractStringBuilder", "ensureCapacityInternal", "(I)V"⟩ : MethodName)) (w104 hw) (decl_of (w105 hw) (w108 hw)) (show NoFace Z "java/lang/AbstractStringBuilder" from NoFace.of (w107 hw)) (w107 hw) (w105 hw) (w58 hw) (w108 hw) (by decide) q1 pd_0 rfl (k_gEns l Z a0 hE a t cd cs.length (es ++ bs) cap (cs.length + ds.length) h S0 hcap (by omega) hcm) (fun w q => by simp only [List.mem_cons, List.not_mem_nil, or_false] at q; subst q; exact ⟨(hwsM _ (List.mem_of_getElem? (i := 0) rfl)), (Or.inl (List.mem_of_getElem? (i := 0) rfl))⟩) (fun q => by cases q) rfl rfl (Nat.le_of_ble_eq_true rfl) (Nat.le_of_ble_eq_true rfl) (Nat.le_of_ble_eq_true rfl) (Nat.le_of_ble_eq_true rfl) d_jdk_68_method_22_21 rfl rfl (fun N3 v h1 hq K2 => ?_)
  obtain ⟨rfl, t1, cap1, ys, S1, hcap1, hm1, hb1, hN⟩ := hq
  show W B h1 1 72 (N3 ++ M) (false, []) 24 #[.val (.ref a), .val (.ref s), .val (.int ds.length.toInt32)] []
  have S1' := S1
  have mt1 : t1 ∈ N3 ++ M := by
    rcases hN with ⟨e, -⟩ | ⟨e, -⟩
    · rw [e]; exact List.mem_append_right _ (hwsM _ (List.mem_of_getElem? (i := 1) rfl))
    · rw [e]; simp
  have ft1 : t1 = t ∨ (t1 ∈ N3 ∧ h.size ≤ t1) := by
    rcases hN with ⟨e, -⟩ | ⟨e, z⟩
    · exact Or.inl e
    · exact Or.inr ⟨by rw [e]; simp, z⟩
  have hN1 : ∀ x ∈ N3, h.size ≤ x := by
    rcases hN with ⟨-, e⟩ | ⟨e, z⟩
    · rw [e]; exact fun _ q => (nomatch q)
    · rw [e]; intro x q; rw [List.mem_singleton.mp q]; exact z
  obtain ⟨p1, p2, p3, p4, p5, p6, p7⟩ := S1
  have nat_ := Exa.neArI p1 (w39 hw) p6
  have T1 := T.keepA q1 (by decide) (w39 hw) K2
  have hut1 := T.neT q1 (by decide) K2 hut (ft1.elim Or.inl (fun z => Or.inr z.2))
  rw [List.append_assoc] at S1' hcap1
  refine W.aloadN ok (pc' := 25) d_jdk_68_method_22_24 rfl rfl rfl ?_
  refine W.aloadN ok (pc' := 26) d_jdk_68_method_22_25 rfl rfl rfl ?_
  refine W.getF ok (pc' := 29) (w102 hw) Via.refl p5 d_jdk_68_method_22_26 rfl ?_
  refine W.aloadN ok (pc' := 30) d_jdk_68_method_22_29 rfl rfl rfl ?_
  refine W.callW ok (rest := []) (cl' := (false, [])) (pc' := 33) (yr := (⟨"java/lang/AbstractStringBuilder", "putStringAt", "(ILjava/lang/String;)V"⟩ : MethodName)) (w135 hw) (decl_of (w136 hw) (w139 hw)) (show NoFace Z "java/lang/AbstractStringBuilder" from NoFace.of (w107 hw)) (w138 hw) (w136 hw) (w58 hw) (w139 hw) (by decide) p1 pd_23 rfl (k_gPut l Z a0 hE a t1 s cd cs es (bs ++ ys) ds cap1 h1 S1' hc hcap1 hm1 hb1 T1 hlat hut1) (fun w q => by simp only [List.mem_cons, List.not_mem_nil, or_false] at q; subst q; exact ⟨mt1, (ft1.elim (fun e => Or.inl (by rw [e]; simp)) (fun z => Or.inr z.2))⟩) (fun q => by cases q) rfl rfl (Nat.le_of_ble_eq_true rfl) (Nat.le_of_ble_eq_true rfl) (Nat.le_of_ble_eq_true rfl) (Nat.le_of_ble_eq_true rfl) d_jdk_68_method_22_30 rfl rfl (oldK fun v h4 hq K5 => ?_)
  obtain ⟨rfl, fs, zs', A, hc2, lf⟩ := hq
  show W B h4 1 72 (N3 ++ M) (false, []) 33 #[.val (.ref a), .val (.ref s), .val (.int ds.length.toInt32)] []
  refine W.aloadN ok (pc' := 34) d_jdk_68_method_22_33 rfl rfl rfl ?_
  refine W.dup ok (pc' := 35) d_jdk_68_method_22_34 rfl rfl ?_
  have nin_ : a ∉ [t1] := by simp; exact nat_
  have ox6 := p1.keep K5
  have of7 := p2.keep K5 nin_
  have of8 := p3.keep K5 nin_
  have of9 := p4.keep K5 nin_
  have of10 := p5.keep K5 nin_
  refine W.getF ok (pc' := 38) (w102 hw) Via.refl of10 d_jdk_68_method_22_35 rfl ?_
  refine W.iloadN ok (pc' := 39) d_jdk_68_method_22_38 rfl rfl ?_
  refine W.iadd ok (pc' := 40) d_jdk_68_method_22_39 rfl ?_
  rw [i32_add]
  refine W.putF ok (pc' := 43) (cl' := (false, [])) (w102 hw) Via.refl of10 ox6 (Or.inl (w103 hw)) (w39 hw) (ty := .int) (by decide) rfl rfl (List.mem_append_right _ (hwsM _ (List.mem_of_getElem? (i := 0) rfl))) (Or.inl (List.mem_of_getElem? (i := 0) rfl)) (fun q => by cases q) rfl d_jdk_68_method_22_40 rfl (fun h11 W12 => ?_)
  have ox13 := ox6.wr W12
  have of14 := of7.other W12 (Or.inr (slot_ne (Or.inl (w63 hw)) (Or.inl (w103 hw)) (by decide) (t := (.array .byte)) (by decide) (t' := .int) (by decide)))
  have of15 := of8.other W12 (Or.inr (slot_ne (Or.inl (w65 hw)) (Or.inl (w103 hw)) (by decide) (t := .byte) (by decide) (t' := .int) (by decide)))
  have of16 := of9.other W12 (Or.inr (slot_ne (Or.inl (w295 hw)) (Or.inl (w103 hw)) (by decide) (t := .boolean) (by decide) (t' := .int) (by decide)))
  have of17 := of10.same W12
  refine W.aloadN ok (pc' := 44) d_jdk_68_method_22_43 rfl rfl rfl ?_
  exact W.retAN ok N3 d_jdk_68_method_22_44 rfl rfl (Nat.le_of_ble_eq_true rfl) (Nat.le_of_ble_eq_true rfl) (fun x q => (List.mem_append.mp q).elim (fun q => (List.mem_append_left _ q)) (fun q => (List.mem_append_right _ q))) (fun kp => ⟨rfl, t1, cap1, ⟨cd, fs, zs', ⟨ox13, of14, of15, of16, by rw [List.length_append]; exact of17, A.other W12 (Ne.symm nat_), (p7.keep K5).wr W12⟩, hc2, by rw [lf]; exact hcap1⟩, hb1, ft1, hN1⟩)
set_option maxRecDepth 65536 in
set_option maxHeartbeats 4000000 in
theorem k_gAppS (l : Launch) (Z : State) (a0 : Array Value) (hE : Ev Z a0) (a t : Addr) (cs : List Int32) (cap : Nat) (s : Addr) (ds : List Int32) (h : Heap) (G : SBG Z h a t cs cap) (hm : cs.length + ds.length ≤ 18) (hcm : cap ≤ 36) (T : Str Z h s ds) (hlat : ∀ c ∈ ds, c.toInt ≤ 255) (hut : ∀ u, Fld Z h s ST "value" "[B" (.ref u) → u ≠ t) : Con2 l Z false (⟨"java/lang/StringBuilder", "append", "(Ljava/lang/String;)Ljava/lang/StringBuilder;"⟩ : MethodName) jdk_67_method_7_code 2 (some (.object "java/lang/StringBuilder")) ({ frames := 8, cells := 1, slots := 72, locals := 119 } : Room) [(.ref a), (.ref s)] h [a, t]  (fun M N v h' => v = some (.ref a) ∧ ∃ t' cap', SBG Z h' a t' (cs ++ ds) cap' ∧ cap' ≤ 36 ∧ (t' = t ∨ (t' ∈ N ∧ h.size ≤ t')) ∧ ∀ x ∈ N, h.size ≤ x) := by
  have hw := hE.1
  refine Con2.intro (L0 := #[.val (.ref a), .val (.ref s)]) (by decide +kernel) (fun m => ef_of rfl) ?_
  intro B M hwsM ok
  refine W.aloadN ok (pc' := 1) d_jdk_67_method_7_0 rfl rfl rfl ?_
  refine W.aloadN ok (pc' := 2) d_jdk_67_method_7_1 rfl rfl rfl ?_
  refine W.callU ok (rest := []) (cl' := (false, [])) (pc' := 5) (y := (⟨"java/lang/AbstractStringBuilder", "append", "(Ljava/lang/String;)Ljava/lang/AbstractStringBuilder;"⟩ : MethodName)) (show NoFace Z "java/lang/AbstractStringBuilder" from NoFace.of (w107 hw)) (by decide) (w96 hw) (w97 hw) (w98 hw) (w58 hw) (w100 hw) (by decide) G.exa pd_24 rfl (k_gaAppS l Z a0 hE a t cs cap s ds h G hm hcm T hlat hut) (fun w q => by simp only [List.mem_cons, List.not_mem_nil, or_false] at q; rcases q with rfl | rfl; exact ⟨(hwsM _ (List.mem_of_getElem? (i := 0) rfl)), (Or.inl (List.mem_of_getElem? (i := 0) rfl))⟩; exact ⟨(hwsM _ (List.mem_of_getElem? (i := 1) rfl)), (Or.inl (List.mem_of_getElem? (i := 1) rfl))⟩) (fun q => by cases q) rfl rfl (Nat.le_of_ble_eq_true rfl) (Nat.le_of_ble_eq_true rfl) (Nat.le_of_ble_eq_true rfl) (Nat.le_of_ble_eq_true rfl) d_jdk_67_method_7_2 rfl rfl (fun N3 v h1 hq K2 => ?_)
  obtain ⟨rfl, hq⟩ := hq
  show W B h1 1 72 (N3 ++ M) (false, []) 5 #[.val (.ref a), .val (.ref s)] [(.ref a)]
  refine W.pop1 ok (pc' := 6) d_jdk_67_method_7_5 rfl rfl ?_
  refine W.aloadN ok (pc' := 7) d_jdk_67_method_7_6 rfl rfl rfl ?_
  exact W.retAN ok N3 d_jdk_67_method_7_7 rfl rfl (Nat.le_of_ble_eq_true rfl) (Nat.le_of_ble_eq_true rfl) (fun x q => (List.mem_append.mp q).elim (fun q => (List.mem_append_left _ q)) (fun q => (List.mem_append_right _ q))) (fun kp => ⟨rfl, hq⟩)
set_option maxRecDepth 65536 in
set_option maxHeartbeats 4000000 in
theorem k_chkLen (l : Launch) (Z : State) (a0 : Array Value) (hE : Ev Z a0) (aN bN : Nat) (h : Heap) (hab : aN ≤ bN) (hb : bN < 1000000) : Con l Z false (⟨"java/util/Arrays", "checkLength", "(II)V"⟩ : MethodName) jdk_65_method_131_code 2 none ({ frames := 0, cells := 0, slots := 0, locals := 0 } : Room) [(.int aN.toInt32), (.int bN.toInt32)] h [] false (fun M v h' => v = none ∧ h' = h) := by
  have hw := hE.1
  refine Con.intro (L0 := #[.val (.int aN.toInt32), .val (.int bN.toInt32)]) (by decide +kernel) (fun m => ef_of rfl) ?_
  intro B M hwsM ok
  refine W.iloadN ok (pc' := 1) d_jdk_65_method_131_0 rfl rfl ?_
  refine W.iloadN ok (pc' := 2) d_jdk_65_method_131_1 rfl rfl ?_
  refine W.icmpge ok (pcY := 37) (pcN := 5) d_jdk_65_method_131_2 rfl (by decide) rfl (fun q => absurd q (by rw [i32_lt (by omega) (by omega)]; omega)) (fun _ => ?_)
  exact W.retV ok d_jdk_65_method_131_37 (Nat.le_of_ble_eq_true rfl) (Nat.le_of_ble_eq_true rfl) (fun x (q : x ∈ M) => q) (fun kp => ⟨rfl, rfl⟩)
set_option maxRecDepth 65536 in
set_option maxHeartbeats 4000000 in
theorem k_min (l : Launch) (Z : State) (a0 : Array Value) (hE : Ev Z a0) (aN bN : Nat) (h : Heap) (hab : bN < aN) (ha : aN < 1000000) : Con l Z false (⟨"java/lang/Math", "min", "(II)I"⟩ : MethodName) jdk_29_method_69_code 2 (some .int) ({ frames := 0, cells := 0, slots := 0, locals := 0 } : Room) [(.int aN.toInt32), (.int bN.toInt32)] h [] false (fun M v h' => v = some (.int bN.toInt32) ∧ h' = h) := by
  have hw := hE.1
  refine Con.intro (L0 := #[.val (.int aN.toInt32), .val (.int bN.toInt32)]) (by decide +kernel) (fun m => ef_of rfl) ?_
  intro B M hwsM ok
  refine W.iloadN ok (pc' := 1) d_jdk_29_method_69_0 rfl rfl ?_
  refine W.iloadN ok (pc' := 2) d_jdk_29_method_69_1 rfl rfl ?_
  refine W.icmpgt ok (pcY := 9) (pcN := 5) d_jdk_29_method_69_2 rfl (by decide) rfl (fun _ => ?_) (fun q => absurd ((i32_lt (by omega) (by omega)).mpr hab) q)
  refine W.iloadN ok (pc' := 10) d_jdk_29_method_69_9 rfl rfl ?_
  exact W.retI ok d_jdk_29_method_69_10 (Nat.le_of_ble_eq_true rfl) (Nat.le_of_ble_eq_true rfl) (fun x (q : x ∈ M) => q) (fun kp => ⟨rfl, rfl⟩)
set_option maxRecDepth 65536 in
set_option maxHeartbeats 4000000 in
theorem k_cpRB (l : Launch) (Z : State) (a0 : Array Value) (hE : Ev Z a0) (t : Addr) (es : List Int32) (nN : Nat) (h : Heap) (A : ArI Z h t .byte es) (hn : nN < es.length) (hcap : nN ≤ 36) (hl : es.length < 1000000) : Con l Z false (⟨"java/util/Arrays", "copyOfRangeByte", "([BII)[B"⟩ : MethodName) jdk_65_method_133_code 5 (some (.array .byte)) ({ frames := 1, cells := 1, slots := 36, locals := 18 } : Room) [(.ref t), (.int (0 : Int32)), (.int nN.toInt32)] h [] false (fun M v h' => ∃ u, v = some (.ref u) ∧ h.size ≤ u ∧ ArI Z h' u .byte (es.take nN)) := by
  have hw := hE.1
  refine Con.intro (L0 := #[.val (.ref t), .val (.int (0 : Int32)), .val (.int nN.toInt32), .unset, .unset]) (by decide +kernel) (fun m => ef_of rfl) ?_
  intro B M hwsM ok
  have z1 : nN.toInt32 - (0 : Int32) = nN.toInt32 := by simp
  have z2 : es.length.toInt32 - (0 : Int32) = es.length.toInt32 := by simp
  have ltt := A.gt
  refine W.old ok fun _ le0 => ?_
  refine W.iloadN ok (pc' := 1) d_jdk_65_method_133_0 rfl rfl ?_
  refine W.iloadN ok (pc' := 2) d_jdk_65_method_133_1 rfl rfl ?_
  refine W.callS ok (rest := []) (cl' := (true, [])) (pc' := 5) (w209 hw) (w210 hw) (w126 hw) (w211 hw) (by decide) pd_8 rfl (k_chkLen l Z a0 hE 0 nN h (by omega) (by omega)) (fun _ q => (nomatch q)) (fun q => ⟨q, fun _ q => (nomatch q)⟩) rfl rfl (Nat.le_of_ble_eq_true rfl) (Nat.le_of_ble_eq_true rfl) (Nat.le_of_ble_eq_true rfl) (Nat.le_of_ble_eq_true rfl) d_jdk_65_method_133_2 rfl rfl (pureK0 ?_)
  show W B h 0 0 M (true, []) 5 #[.val (.ref t), .val (.int (0 : Int32)), .val (.int nN.toInt32), .unset, .unset] []
  refine W.iloadN ok (pc' := 6) d_jdk_65_method_133_5 rfl rfl ?_
  refine W.iloadN ok (pc' := 7) d_jdk_65_method_133_6 rfl rfl ?_
  refine W.isub ok (pc' := 8) d_jdk_65_method_133_7 rfl ?_
  rw [z1]
  refine W.istoreN ok (pc' := 9) (L' := #[.val (.ref t), .val (.int (0 : Int32)), .val (.int nN.toInt32), .val (.int nN.toInt32), .unset]) d_jdk_65_method_133_8 rfl rfl ?_
  refine W.iloadN ok (pc' := 10) d_jdk_65_method_133_9 rfl rfl ?_
  refine W.newB ok (pc' := 12) (cap := 36) (w23 hw) (i32_nn (by omega)) (by rw [nat_i32 (by omega)]; omega) (by decide) d_jdk_65_method_133_10 rfl (Nat.le_of_ble_eq_true rfl) (Nat.le_of_ble_eq_true rfl) (fun a1 h2 z3 ea4 E5 A6 => ?_)
  replace A6 := A6.cast (cs' := List.replicate nN 0) (by rw [nat_i32 (by omega)])
  refine W.astore ok (pc' := 14) (L' := #[.val (.ref t), .val (.int (0 : Int32)), .val (.int nN.toInt32), .val (.int nN.toInt32), .val (.ref a1)]) d_jdk_65_method_133_12 rfl rfl rfl ?_
  refine W.aloadN ok (pc' := 15) d_jdk_65_method_133_14 rfl rfl rfl ?_
  refine W.iloadN ok (pc' := 16) d_jdk_65_method_133_15 rfl rfl ?_
  refine W.aload ok (pc' := 18) d_jdk_65_method_133_16 rfl rfl rfl ?_
  refine W.iconst ok (pc' := 19) (0 : Int32) d_jdk_65_method_133_18 rfl rfl ?_
  refine W.aloadN ok (pc' := 20) d_jdk_65_method_133_19 rfl rfl rfl ?_
  refine W.lenI ok (pc' := 21) (A.ext E5) es.length.toInt32 rfl d_jdk_65_method_133_20 rfl ?_
  refine W.iloadN ok (pc' := 22) d_jdk_65_method_133_21 rfl rfl ?_
  refine W.isub ok (pc' := 23) d_jdk_65_method_133_22 rfl ?_
  rw [z2]
  refine W.iloadN ok (pc' := 24) d_jdk_65_method_133_23 rfl rfl ?_
  refine W.callS ok (rest := [(.int (0 : Int32)), (.ref a1), (.int (0 : Int32)), (.ref t)]) (cl' := (true, [])) (pc' := 27) (w128 hw) (w129 hw) (w120 hw) (w130 hw) (by decide) pd_2 rfl (k_min l Z a0 hE es.length nN h2 hn (by omega)) (fun _ q => (nomatch q)) (fun q => ⟨q, fun _ q => (nomatch q)⟩) rfl rfl (Nat.le_of_ble_eq_true rfl) (Nat.le_of_ble_eq_true rfl) (Nat.le_of_ble_eq_true rfl) (Nat.le_of_ble_eq_true rfl) d_jdk_65_method_133_24 rfl rfl (pureK ?_)
  show W B h2 1 36 (a1 :: M) (true, []) 27 #[.val (.ref t), .val (.int (0 : Int32)), .val (.int nN.toInt32), .val (.int nN.toInt32), .val (.ref a1)] [(.int nN.toInt32), (.int (0 : Int32)), (.ref a1), (.int (0 : Int32)), (.ref t)]
  refine W.acopy ok (pc' := 30) (cl' := (true, [])) (sp := 0) (dp := 0) (nn := nN) (w131 hw) (w134 hw) (w132 hw) (w133 hw) (A.ext E5) A6 rfl (by omega) (by simp) (by omega) (by simp; omega) (List.mem_cons_self ..) (Or.inr z3) (fun q => ⟨q, z3⟩) rfl rfl (Nat.le_of_ble_eq_true rfl) (Nat.le_of_ble_eq_true rfl) d_jdk_65_method_133_27 rfl (fun h7 K8 A9 => ?_)
  show W B h7 1 36 (a1 :: M) (true, []) 30 #[.val (.ref t), .val (.int (0 : Int32)), .val (.int nN.toInt32), .val (.int nN.toInt32), .val (.ref a1)] []
  refine W.aload ok (pc' := 32) d_jdk_65_method_133_30 rfl rfl rfl ?_
  exact W.retA ok d_jdk_65_method_133_32 rfl rfl (Nat.le_of_ble_eq_true rfl) (Nat.le_of_ble_eq_true rfl) (fun x (q : x ∈ M) => (List.mem_cons_of_mem _ q)) (fun kp => ⟨a1, rfl, Nat.le_of_eq ea4, A9.cast (by simp)⟩)
set_option maxRecDepth 65536 in
set_option maxHeartbeats 4000000 in
theorem k_gCpR (l : Launch) (Z : State) (a0 : Array Value) (hE : Ev Z a0) (t : Addr) (es : List Int32) (nN : Nat) (h : Heap) (A : ArI Z h t .byte es) (X : Exa Z h t "[B") (hn : nN ≤ es.length) (hcap : nN ≤ 36) (hl : es.length < 1000000) : Con l Z false (⟨"java/util/Arrays", "copyOfRange", "([BII)[B"⟩ : MethodName) jdk_65_method_132_code 3 (some (.array .byte)) ({ frames := 2, cells := 1, slots := 36, locals := 34 } : Room) [(.ref t), (.int (0 : Int32)), (.int nN.toInt32)] h [] false (fun M v h' => ∃ u, v = some (.ref u) ∧ h.size ≤ u ∧ ArI Z h' u .byte (es.take nN)) := by
  have hw := hE.1
  refine Con.intro (L0 := #[.val (.ref t), .val (.int (0 : Int32)), .val (.int nN.toInt32)]) (by decide +kernel) (fun m => ef_of rfl) ?_
  intro B M hwsM ok
  refine W.iloadN ok (pc' := 1) d_jdk_65_method_132_0 rfl rfl ?_
  refine W.ifne ok (pcY := 10) (pcN := 4) d_jdk_65_method_132_1 rfl (by decide) rfl (fun _ => ?_) (fun q => absurd rfl q)
  refine W.iloadN ok (pc' := 5) d_jdk_65_method_132_4 rfl rfl ?_
  refine W.aloadN ok (pc' := 6) d_jdk_65_method_132_5 rfl rfl rfl ?_
  refine W.lenI ok (pc' := 7) A es.length.toInt32 rfl d_jdk_65_method_132_6 rfl ?_
  rcases Nat.lt_or_ge nN es.length with hlt | hge
  · refine W.icmpeq ok (pcY := 17) (pcN := 10) d_jdk_65_method_132_7 rfl (by decide) rfl (fun q => absurd q (by rw [i32_inj (by omega) (by omega)]; omega)) (fun _ => ?_)
    refine W.aloadN ok (pc' := 11) d_jdk_65_method_132_10 rfl rfl rfl ?_
    refine W.iloadN ok (pc' := 12) d_jdk_65_method_132_11 rfl rfl ?_
    refine W.iloadN ok (pc' := 13) d_jdk_65_method_132_12 rfl rfl ?_
    refine W.callS ok (rest := []) (cl' := (true, [])) (pc' := 16) (w206 hw) (w207 hw) (w126 hw) (w208 hw) (by decide) pd_25 rfl (k_cpRB l Z a0 hE t es nN h A hlt hcap hl) (fun _ q => (nomatch q)) (fun q => ⟨q, fun _ q => (nomatch q)⟩) rfl rfl (Nat.le_of_ble_eq_true rfl) (Nat.le_of_ble_eq_true rfl) (Nat.le_of_ble_eq_true rfl) (Nat.le_of_ble_eq_true rfl) d_jdk_65_method_132_13 rfl rfl (oldK fun v h1 hq K2 => ?_)
    obtain ⟨u, rfl, hu, Au⟩ := hq
    show W B h1 1 36 M (true, []) 16 #[.val (.ref t), .val (.int (0 : Int32)), .val (.int nN.toInt32)] [(.ref u)]
    exact W.retA ok d_jdk_65_method_132_16 rfl rfl (Nat.le_of_ble_eq_true rfl) (Nat.le_of_ble_eq_true rfl) (fun x (q : x ∈ M) => q) (fun kp => ⟨u, rfl, hu, Au⟩)
  · obtain rfl : nN = es.length := by omega
    refine W.icmpeq ok (pcY := 17) (pcN := 10) d_jdk_65_method_132_7 rfl (by decide) rfl (fun _ => ?_) (fun q => absurd rfl q)
    refine W.aloadN ok (pc' := 18) d_jdk_65_method_132_17 rfl rfl rfl ?_
    refine W.cloneI ok (pc' := 21) (cap := 36) (ad := "[B") (w185 hw) (w186 hw) (w190 hw) (w188 hw) (w189 hw) (w191 hw) A X rfl (Nat.le_of_ble_eq_true rfl) (Nat.le_of_ble_eq_true rfl) hcap (Nat.le_of_ble_eq_true rfl) (Nat.le_of_ble_eq_true rfl) d_jdk_65_method_132_18 rfl (fun d3 h4 z5 ed6 E7 A8 X9 => ?_)
    refine W.cast ok (pc' := 24) (w192 hw) (Ins.self X9) d_jdk_65_method_132_21 rfl ?_
    exact W.retA ok d_jdk_65_method_132_24 rfl rfl (Nat.le_of_ble_eq_true rfl) (Nat.le_of_ble_eq_true rfl) (fun x (q : x ∈ M) => (List.mem_cons_of_mem _ q)) (fun kp => ⟨d3, rfl, Nat.le_of_eq ed6, A8.cast (by simp)⟩)
set_option maxRecDepth 65536 in
set_option maxHeartbeats 4000000 in
theorem k_gInitSB2 (l : Launch) (Z : State) (a0 : Array Value) (hE : Ev Z a0) (s a t : Addr) (cs : List Int32) (cap : Nat) (h : Heap) (X : Exa Z h s ST) (F1 : Fld Z h s ST "value" "[B" .null) (F2 : Fld Z h s ST "coder" "B" (.int 0)) (G : SBG Z h a t cs cap) (hm : cs.length ≤ 18) (hcm : cap ≤ 100000) : Con l Z false (⟨"java/lang/String", "<init>", "(Ljava/lang/AbstractStringBuilder;Ljava/lang/Void;)V"⟩ : MethodName) jdk_42_method_150_code 5 none ({ frames := 3, cells := 1, slots := 36, locals := 49 } : Room) [(.ref s), (.ref a), .null] h [s] false (fun M v h' => v = none ∧ ∃ t cd bs, t ∉ M ∧ Fld Z h' s ST "value" "[B" (.ref t) ∧ Fld Z h' s ST "coder" "B" (.int cd) ∧ ArI Z h' t .byte bs ∧ Cod cd cs bs) := by
  have hw := hE.1
  refine Con.intro (L0 := #[.val (.ref s), .val (.ref a), .val .null, .unset, .unset]) (by decide +kernel) (fun m => ef_of rfl) ?_
  intro B M hwsM ok
  refine W.lt fun hM => ?_
  have lts := gtE X
  obtain ⟨cd, es, bs, S, hc, hcap⟩ := G
  obtain ⟨q1, q2, q3, q4, q5, q6, q7⟩ := S
  have nst := Exa.neArI X (w6 hw) q6
  refine W.aloadN ok (pc' := 1) d_jdk_42_method_150_0 rfl rfl rfl ?_
  refine W.initO ok (pc' := 4) (w15 hw) (w16 hw) (w17 hw) rfl (Nat.le_of_ble_eq_true rfl) (Nat.le_of_ble_eq_true rfl) d_jdk_42_method_150_1 rfl ?_
  refine W.aloadN ok (pc' := 5) d_jdk_42_method_150_4 rfl rfl rfl ?_
  refine W.callV ok (rest := []) (cl' := (true, [])) (pc' := 8) (w164 hw) (w165 hw) (w167 hw) (w166 hw) (w58 hw) (w168 hw) (by decide) q1 pd_26 rfl (k_gVal l Z a0 hE a t h q2) (fun _ q => (nomatch q)) (fun q => ⟨q, fun _ q => (nomatch q)⟩) rfl rfl (Nat.le_of_ble_eq_true rfl) (Nat.le_of_ble_eq_true rfl) (Nat.le_of_ble_eq_true rfl) (Nat.le_of_ble_eq_true rfl) d_jdk_42_method_150_5 rfl rfl (pureK ?_)
  show W B h 0 0 M (true, []) 8 #[.val (.ref s), .val (.ref a), .val .null, .unset, .unset] [(.ref t)]
  refine W.astoreN ok (pc' := 9) (L' := #[.val (.ref s), .val (.ref a), .val .null, .val (.ref t), .unset]) d_jdk_42_method_150_8 rfl rfl rfl ?_
  refine W.aloadN ok (pc' := 10) d_jdk_42_method_150_9 rfl rfl rfl ?_
  refine W.callW ok (rest := []) (cl' := (true, [])) (pc' := 13) (yr := (⟨"java/lang/AbstractStringBuilder", "length", "()I"⟩ : MethodName)) (w169 hw) (w170 hw) (show NoFace Z "java/lang/AbstractStringBuilder" from NoFace.of (w107 hw)) (w172 hw) (w173 hw) (w40 hw) (w174 hw) (by decide) q1 pd_1 rfl (k_gLen l Z a0 hE a cs.length.toInt32 h q1 q5) (fun _ q => (nomatch q)) (fun q => ⟨q, fun _ q => (nomatch q)⟩) rfl rfl (Nat.le_of_ble_eq_true rfl) (Nat.le_of_ble_eq_true rfl) (Nat.le_of_ble_eq_true rfl) (Nat.le_of_ble_eq_true rfl) d_jdk_42_method_150_10 rfl rfl (pureK ?_)
  show W B h 0 0 M (true, []) 13 #[.val (.ref s), .val (.ref a), .val .null, .val (.ref t), .unset] [(.int cs.length.toInt32)]
  refine W.istore ok (pc' := 15) (L' := #[.val (.ref s), .val (.ref a), .val .null, .val (.ref t), .val (.int cs.length.toInt32)]) d_jdk_42_method_150_13 rfl rfl ?_
  refine W.aloadN ok (pc' := 16) d_jdk_42_method_150_15 rfl rfl rfl ?_
  have hc0 := hc
  rcases hc with ⟨rfl, rfl, hr⟩ | ⟨rfl, rfl, hr, hx⟩
  · refine W.callV ok (rest := []) (cl' := (true, [])) (pc' := 19) (w177 hw) (w178 hw) (w180 hw) (w179 hw) (w58 hw) (w181 hw) (by decide) q1 pd_15 rfl (k_gLat0 l Z a0 hE a h q3) (fun _ q => (nomatch q)) (fun q => ⟨q, fun _ q => (nomatch q)⟩) rfl rfl (Nat.le_of_ble_eq_true rfl) (Nat.le_of_ble_eq_true rfl) (Nat.le_of_ble_eq_true rfl) (Nat.le_of_ble_eq_true rfl) d_jdk_42_method_150_16 rfl rfl (pureK ?_)
    show W B h 0 0 M (true, []) 19 #[.val (.ref s), .val (.ref a), .val .null, .val (.ref t), .val (.int cs.length.toInt32)] [(.int (1 : Int32))]
    refine W.ifeq ok (pcY := 41) (pcN := 22) d_jdk_42_method_150_19 rfl (by decide) rfl (fun q => absurd q (by decide)) (fun _ => ?_)
    refine W.aloadN ok (pc' := 23) d_jdk_42_method_150_22 rfl rfl rfl ?_
    refine W.iconst ok (pc' := 24) (0 : Int32) d_jdk_42_method_150_23 rfl rfl ?_
    have ox1 := X
    have of2 := F1
    have of3 := F2
    refine W.putF ok (pc' := 27) (cl' := (false, [])) (w30 hw) Via.refl of3 ox1 (Or.inr ⟨(w31 hw), rfl, rfl⟩) (w6 hw) (ty := .byte) (by decide) (by first | rfl | assumption) (by first | rfl | assumption) (hwsM _ (List.mem_of_getElem? (i := 0) rfl)) (Or.inl (List.mem_of_getElem? (i := 0) rfl)) (fun q => by cases q) rfl d_jdk_42_method_150_24 rfl (fun h4 W5 => ?_)
    have ox6 := ox1.wr W5
    have of7 := of2.other W5 (Or.inr (slot_ne (Or.inr (w33 hw)) (Or.inr (w31 hw)) (by decide) (t := (.array .byte)) (by decide) (t' := .byte) (by decide)))
    have of8 := of3.same W5
    have sz1 := W5.size
    refine W.aloadN ok (pc' := 28) d_jdk_42_method_150_27 rfl rfl rfl ?_
    refine W.aloadN ok (pc' := 29) d_jdk_42_method_150_28 rfl rfl rfl ?_
    refine W.iconst ok (pc' := 30) (0 : Int32) d_jdk_42_method_150_29 rfl rfl ?_
    refine W.iload ok (pc' := 32) d_jdk_42_method_150_30 rfl rfl ?_
    have lb : ((cs.map b8) ++ bs).length < 1000000 := by rcases hcap with ⟨-, q⟩ | ⟨-, q⟩ <;> omega
    have le_ : (cs.map b8).length = cs.length := by simp [wide_length]
    refine W.callS ok (rest := [(.ref s)]) (cl' := (false, [])) (pc' := 35) (w182 hw) (w183 hw) (w126 hw) (w184 hw) (by decide) pd_25 rfl (k_gCpR l Z a0 hE t ((cs.map b8) ++ bs) cs.length h4 (q6.other W5 (Ne.symm nst)) (q7.wr W5) (by rw [List.length_append, le_]; omega) (by omega) lb) (fun _ q => (nomatch q)) (fun q => ⟨q, fun _ q => (nomatch q)⟩) rfl rfl (Nat.le_of_ble_eq_true rfl) (Nat.le_of_ble_eq_true rfl) (Nat.le_of_ble_eq_true rfl) (Nat.le_of_ble_eq_true rfl) d_jdk_42_method_150_32 rfl rfl (oldK fun v h9 hq K10 => ?_)
    obtain ⟨u, rfl, hu, Au⟩ := hq
    show W B h9 1 36 M (false, []) 35 #[.val (.ref s), .val (.ref a), .val .null, .val (.ref t), .val (.int cs.length.toInt32)] [(.ref u), (.ref s)]
    have ltu := Au.gt
    have ox11 := (ox6.ext (ext_keep K10))
    have of12 := (of7.ext (ext_keep K10))
    have of13 := (of8.ext (ext_keep K10))
    refine W.putF ok (pc' := 38) (cl' := (false, [])) (w32 hw) Via.refl of12 ox11 (Or.inr ⟨(w33 hw), rfl, rfl⟩) (w6 hw) (ty := (.array .byte)) (by decide) rfl rfl (hwsM _ (List.mem_of_getElem? (i := 0) rfl)) (Or.inl (List.mem_of_getElem? (i := 0) rfl)) (fun q => by cases q) rfl d_jdk_42_method_150_35 rfl (fun h14 W15 => ?_)
    have ox16 := ox11.wr W15
    have of17 := of12.same W15
    have of18 := of13.other W15 (Or.inr (slot_ne (Or.inr (w31 hw)) (Or.inr (w33 hw)) (by decide) (t := .byte) (by decide) (t' := (.array .byte)) (by decide)))
    refine W.goto ok (pc' := 97) d_jdk_42_method_150_38 (by decide) rfl ?_
    exact W.retV ok d_jdk_42_method_150_97 (Nat.le_of_ble_eq_true rfl) (Nat.le_of_ble_eq_true rfl) (fun x (q : x ∈ M) => q) (fun kp => ⟨rfl, u, 0, (cs.map b8), fun q => absurd (hM _ q) (by omega), of17, of18, (Au.other W15 (ane (by omega))).cast (by rw [← le_, List.take_left]), hc0⟩)
  · refine W.callV ok (rest := []) (cl' := (true, [])) (pc' := 19) (w177 hw) (w178 hw) (w180 hw) (w179 hw) (w58 hw) (w181 hw) (by decide) q1 pd_15 rfl (k_gLat1 l Z a0 hE a h q3) (fun _ q => (nomatch q)) (fun q => ⟨q, fun _ q => (nomatch q)⟩) rfl rfl (Nat.le_of_ble_eq_true rfl) (Nat.le_of_ble_eq_true rfl) (Nat.le_of_ble_eq_true rfl) (Nat.le_of_ble_eq_true rfl) d_jdk_42_method_150_16 rfl rfl (pureK ?_)
    show W B h 0 0 M (true, []) 19 #[.val (.ref s), .val (.ref a), .val .null, .val (.ref t), .val (.int cs.length.toInt32)] [(.int (0 : Int32))]
    refine W.ifeq ok (pcY := 41) (pcN := 22) d_jdk_42_method_150_19 rfl (by decide) rfl (fun _ => ?_) (fun q => absurd rfl q)
    obtain ⟨g, hg, Fg⟩ := hE.compact
    refine W.getS ok (pc' := 44) (w18 hw) Via.refl Fg d_jdk_42_method_150_41 rfl ?_
    refine W.ifeq ok (pcY := 79) (pcN := 47) d_jdk_42_method_150_44 rfl (by decide) rfl (fun q => absurd q hg) (fun _ => ?_)
    refine W.aloadN ok (pc' := 48) d_jdk_42_method_150_47 rfl rfl rfl ?_
    refine W.getF ok (pc' := 51) (w294 hw) Via.refl q4 d_jdk_42_method_150_48 rfl ?_
    refine W.ifeq ok (pcY := 79) (pcN := 54) d_jdk_42_method_150_51 rfl (by decide) rfl (fun _ => ?_) (fun q => absurd rfl q)
    refine W.aloadN ok (pc' := 80) d_jdk_42_method_150_79 rfl rfl rfl ?_
    refine W.iconst ok (pc' := 81) (1 : Int32) d_jdk_42_method_150_80 rfl rfl ?_
    have ox19 := X
    have of20 := F1
    have of21 := F2
    refine W.putF ok (pc' := 84) (cl' := (false, [])) (w30 hw) Via.refl of21 ox19 (Or.inr ⟨(w31 hw), rfl, rfl⟩) (w6 hw) (ty := .byte) (by decide) (by first | rfl | assumption) (by first | rfl | assumption) (hwsM _ (List.mem_of_getElem? (i := 0) rfl)) (Or.inl (List.mem_of_getElem? (i := 0) rfl)) (fun q => by cases q) rfl d_jdk_42_method_150_81 rfl (fun h22 W23 => ?_)
    have ox24 := ox19.wr W23
    have of25 := of20.other W23 (Or.inr (slot_ne (Or.inr (w33 hw)) (Or.inr (w31 hw)) (by decide) (t := (.array .byte)) (by decide) (t' := .byte) (by decide)))
    have of26 := of21.same W23
    have sz1 := W23.size
    refine W.aloadN ok (pc' := 85) d_jdk_42_method_150_84 rfl rfl rfl ?_
    refine W.aloadN ok (pc' := 86) d_jdk_42_method_150_85 rfl rfl rfl ?_
    refine W.iconst ok (pc' := 87) (0 : Int32) d_jdk_42_method_150_86 rfl rfl ?_
    refine W.iload ok (pc' := 89) d_jdk_42_method_150_87 rfl rfl ?_
    refine W.iconst ok (pc' := 90) (1 : Int32) d_jdk_42_method_150_89 rfl rfl ?_
    refine W.ishl ok (pc' := 91) d_jdk_42_method_150_90 rfl ?_
    rw [shl1_nat (by omega)]
    have lb : ((wide cs) ++ bs).length < 1000000 := by rcases hcap with ⟨-, q⟩ | ⟨-, q⟩ <;> omega
    have le_ : (wide cs).length = (2 * cs.length) := by simp [wide_length]
    refine W.callS ok (rest := [(.ref s)]) (cl' := (false, [])) (pc' := 94) (w182 hw) (w183 hw) (w126 hw) (w184 hw) (by decide) pd_25 rfl (k_gCpR l Z a0 hE t ((wide cs) ++ bs) (2 * cs.length) h22 (q6.other W23 (Ne.symm nst)) (q7.wr W23) (by rw [List.length_append, le_]; omega) (by omega) lb) (fun _ q => (nomatch q)) (fun q => ⟨q, fun _ q => (nomatch q)⟩) rfl rfl (Nat.le_of_ble_eq_true rfl) (Nat.le_of_ble_eq_true rfl) (Nat.le_of_ble_eq_true rfl) (Nat.le_of_ble_eq_true rfl) d_jdk_42_method_150_91 rfl rfl (oldK fun v h27 hq K28 => ?_)
    obtain ⟨u, rfl, hu, Au⟩ := hq
    show W B h27 1 36 M (false, []) 94 #[.val (.ref s), .val (.ref a), .val .null, .val (.ref t), .val (.int cs.length.toInt32)] [(.ref u), (.ref s)]
    have ltu := Au.gt
    have ox29 := (ox24.ext (ext_keep K28))
    have of30 := (of25.ext (ext_keep K28))
    have of31 := (of26.ext (ext_keep K28))
    refine W.putF ok (pc' := 97) (cl' := (false, [])) (w32 hw) Via.refl of30 ox29 (Or.inr ⟨(w33 hw), rfl, rfl⟩) (w6 hw) (ty := (.array .byte)) (by decide) rfl rfl (hwsM _ (List.mem_of_getElem? (i := 0) rfl)) (Or.inl (List.mem_of_getElem? (i := 0) rfl)) (fun q => by cases q) rfl d_jdk_42_method_150_94 rfl (fun h32 W33 => ?_)
    have ox34 := ox29.wr W33
    have of35 := of30.same W33
    have of36 := of31.other W33 (Or.inr (slot_ne (Or.inr (w31 hw)) (Or.inr (w33 hw)) (by decide) (t := .byte) (by decide) (t' := (.array .byte)) (by decide)))
    exact W.retV ok d_jdk_42_method_150_97 (Nat.le_of_ble_eq_true rfl) (Nat.le_of_ble_eq_true rfl) (fun x (q : x ∈ M) => q) (fun kp => ⟨rfl, u, 1, (wide cs), fun q => absurd (hM _ q) (by omega), of35, of36, (Au.other W33 (ane (by omega))).cast (by rw [← le_, List.take_left]), hc0⟩)
set_option maxRecDepth 65536 in
set_option maxHeartbeats 4000000 in
theorem k_gInitSB (l : Launch) (Z : State) (a0 : Array Value) (hE : Ev Z a0) (s a t : Addr) (cs : List Int32) (cap : Nat) (h : Heap) (X : Exa Z h s ST) (F1 : Fld Z h s ST "value" "[B" .null) (F2 : Fld Z h s ST "coder" "B" (.int 0)) (G : SBG Z h a t cs cap) (hm : cs.length ≤ 18) (hcm : cap ≤ 100000) : Con l Z false (⟨"java/lang/String", "<init>", "(Ljava/lang/StringBuilder;)V"⟩ : MethodName) jdk_42_method_53_code 2 none ({ frames := 4, cells := 1, slots := 36, locals := 65 } : Room) [(.ref s), (.ref a)] h [s] false (fun M v h' => v = none ∧ ∃ t cd bs, t ∉ M ∧ Fld Z h' s ST "value" "[B" (.ref t) ∧ Fld Z h' s ST "coder" "B" (.int cd) ∧ ArI Z h' t .byte bs ∧ Cod cd cs bs) := by
  have hw := hE.1
  refine Con.intro (L0 := #[.val (.ref s), .val (.ref a)]) (by decide +kernel) (fun m => ef_of rfl) ?_
  intro B M hwsM ok
  refine W.aloadN ok (pc' := 1) d_jdk_42_method_53_0 rfl rfl rfl ?_
  refine W.aloadN ok (pc' := 2) d_jdk_42_method_53_1 rfl rfl rfl ?_
  refine W.aconstNull ok (pc' := 3) d_jdk_42_method_53_2 rfl ?_
  refine W.callI ok (rest := []) (cl' := (false, [])) (pc' := 6) rfl (w161 hw) (w162 hw) (w7 hw) (w163 hw) (by decide) pd_27 rfl (k_gInitSB2 l Z a0 hE s a t cs cap h X F1 F2 G hm hcm) (fun w q => by simp only [List.mem_cons, List.not_mem_nil, or_false] at q; subst q; exact ⟨(hwsM _ (List.mem_of_getElem? (i := 0) rfl)), (Or.inl (List.mem_of_getElem? (i := 0) rfl))⟩) (fun q => by cases q) rfl rfl (Nat.le_of_ble_eq_true rfl) (Nat.le_of_ble_eq_true rfl) (Nat.le_of_ble_eq_true rfl) (Nat.le_of_ble_eq_true rfl) d_jdk_42_method_53_3 rfl rfl (oldK fun v h1 hq K2 => ?_)
  obtain ⟨rfl, hq⟩ := hq
  show W B h1 1 36 M (false, []) 6 #[.val (.ref s), .val (.ref a)] []
  exact W.retV ok d_jdk_42_method_53_6 (Nat.le_of_ble_eq_true rfl) (Nat.le_of_ble_eq_true rfl) (fun x (q : x ∈ M) => q) (fun kp => ⟨rfl, hq⟩)
set_option maxRecDepth 65536 in
set_option maxHeartbeats 4000000 in
theorem k_gStr (l : Launch) (Z : State) (a0 : Array Value) (hE : Ev Z a0) (a t : Addr) (cs : List Int32) (cap : Nat) (h : Heap) (G : SBG Z h a t cs cap) (hm : cs.length ≤ 18) (hcm : cap ≤ 100000) : Con l Z false (⟨"java/lang/StringBuilder", "toString", "()Ljava/lang/String;"⟩ : MethodName) jdk_67_method_42_code 1 (some (.object "java/lang/String")) ({ frames := 5, cells := 2, slots := 40, locals := 79 } : Room) [(.ref a)] h [] false (fun M v h' => ∃ r, v = some (.ref r) ∧ h.size ≤ r ∧ StrM Z h' M r cs) := by
  have hw := hE.1
  refine Con.intro (L0 := #[.val (.ref a)]) (by decide +kernel) (fun m => ef_of rfl) ?_
  intro B M hwsM ok
  refine W.lt fun hM => ?_
  refine W.new ok (pc' := 3) (w157 hw) (w6 hw) (w7 hw) d_jdk_67_method_42_0 rfl (Nat.le_of_ble_eq_true rfl) (Nat.le_of_ble_eq_true rfl) (fun a1 h2 z3 ea4 E5 X6 D7 U8 => ?_)
  refine W.dup ok (pc' := 4) d_jdk_67_method_42_3 rfl rfl ?_
  refine W.aloadN ok (pc' := 5) d_jdk_67_method_42_4 rfl rfl rfl ?_
  refine W.callI ok (rest := [(.ref a1)]) (cl' := (true, [])) (pc' := 8) rfl (w158 hw) (w159 hw) (w7 hw) (w160 hw) (by decide) pd_28 rfl (k_gInitSB l Z a0 hE a1 a t cs cap h2 X6 (D7 (Or.inr (w33 hw)) (ty := (.array .byte)) (by decide)) (D7 (Or.inr (w31 hw)) (ty := .byte) (by decide)) (G.ext E5) hm hcm) (fun w q => by simp only [List.mem_cons, List.not_mem_nil, or_false] at q; subst q; exact ⟨(List.mem_cons_self ..), (Or.inr z3)⟩) (fun q => ⟨q, fun w q => by simp only [List.mem_cons, List.not_mem_nil, or_false] at q; subst q; exact z3⟩) rfl rfl (Nat.le_of_ble_eq_true rfl) (Nat.le_of_ble_eq_true rfl) (Nat.le_of_ble_eq_true rfl) (Nat.le_of_ble_eq_true rfl) d_jdk_67_method_42_5 rfl rfl (oldK fun v h9 hq K10 => ?_)
  obtain ⟨rfl, u, cd, bs, g1, g2, g3, g4, g5⟩ := hq
  show W B h9 2 40 (a1 :: M) (true, []) 8 #[.val (.ref a)] [(.ref a1)]
  exact W.retA ok d_jdk_67_method_42_8 rfl rfl (Nat.le_of_ble_eq_true rfl) (Nat.le_of_ble_eq_true rfl) (fun x (q : x ∈ M) => (List.mem_cons_of_mem _ q)) (fun kp => ⟨a1, rfl, Nat.le_of_eq ea4, u, cd, bs, fun q => absurd (hM _ q) (by omega), fun q => g1 (List.mem_cons_of_mem _ q), X6.keep K10, g2, g3, g4, g5⟩)
set_option maxRecDepth 65536 in
set_option maxHeartbeats 4000000 in
theorem k_toBytesL (l : Launch) (Z : State) (a0 : Array Value) (hE : Ev Z a0) (c : Int32) (h : Heap)  : Con l Z false (⟨"java/lang/StringLatin1", "toBytes", "(C)[B"⟩ : MethodName) jdk_43_method_46_code 1 (some (.array .byte)) ({ frames := 0, cells := 1, slots := 1, locals := 0 } : Room) [(.int c)] h [] false (fun M v h' => ∃ t, v = some (.ref t) ∧ h.size ≤ t ∧ ArI Z h' t .byte [b8 c]) := by
  have hw := hE.1
  refine Con.intro (L0 := #[.val (.int c)]) (by decide +kernel) (fun m => ef_of rfl) ?_
  intro B M hwsM ok
  refine W.iconst ok (pc' := 1) (1 : Int32) d_jdk_43_method_46_0 rfl rfl ?_
  refine W.newB ok (pc' := 3) (cap := 1) (w23 hw) (by decide) (by decide) (by decide) d_jdk_43_method_46_1 rfl (Nat.le_of_ble_eq_true rfl) (Nat.le_of_ble_eq_true rfl) (fun a1 h2 z3 ea4 E5 A6 => ?_)
  refine W.dup ok (pc' := 4) d_jdk_43_method_46_3 rfl rfl ?_
  refine W.iconst ok (pc' := 5) (0 : Int32) d_jdk_43_method_46_4 rfl rfl ?_
  refine W.iloadN ok (pc' := 6) d_jdk_43_method_46_5 rfl rfl ?_
  refine W.i2b ok (pc' := 7) d_jdk_43_method_46_6 rfl ?_
  refine W.bastore ok (pc' := 8) (cl' := (true, [])) A6 (by decide) (Nat.le_of_ble_eq_true rfl) (List.mem_cons_self ..) (Or.inr z3) (fun q => ⟨q, z3⟩) rfl d_jdk_43_method_46_7 rfl (fun h7 Wr8 A9 => ?_)
  replace A9 := A9.cast (cs' := [b8 (b8 c)]) rfl
  exact W.retA ok d_jdk_43_method_46_8 rfl rfl (Nat.le_of_ble_eq_true rfl) (Nat.le_of_ble_eq_true rfl) (fun x (q : x ∈ M) => (List.mem_cons_of_mem _ q)) (fun kp => ⟨a1, rfl, Nat.le_of_eq ea4, A9.cast (by rw [b8_b8])⟩)
set_option maxRecDepth 65536 in
set_option maxHeartbeats 4000000 in
theorem k_initBB (l : Launch) (Z : State) (a0 : Array Value) (hE : Ev Z a0) (a t : Addr) (cd : Int32) (h : Heap) (X : Exa Z h a ST) (F1 : Fld Z h a ST "value" "[B" .null) (F2 : Fld Z h a ST "coder" "B" (.int 0)) (hcd : b8 cd = cd) : Con l Z false (⟨"java/lang/String", "<init>", "([BB)V"⟩ : MethodName) jdk_42_method_151_code 3 none ({ frames := 1, cells := 0, slots := 0, locals := 12 } : Room) [(.ref a), (.ref t), (.int cd)] h [a] false (fun M v h' => v = none ∧ Fld Z h' a ST "value" "[B" (.ref t) ∧ Fld Z h' a ST "coder" "B" (.int cd)) := by
  have hw := hE.1
  refine Con.intro (L0 := #[.val (.ref a), .val (.ref t), .val (.int cd)]) (by decide +kernel) (fun m => ef_of rfl) ?_
  intro B M hwsM ok
  have hn : narrow .byte (.int cd) = .int cd := congrArg Value.int hcd
  have hf : fits .byte (.int cd) = true := hcd ▸ fits_nar_byte cd
  refine W.aloadN ok (pc' := 1) d_jdk_42_method_151_0 rfl rfl rfl ?_
  refine W.initO ok (pc' := 4) (w15 hw) (w16 hw) (w17 hw) rfl (Nat.le_of_ble_eq_true rfl) (Nat.le_of_ble_eq_true rfl) d_jdk_42_method_151_1 rfl ?_
  refine W.aloadN ok (pc' := 5) d_jdk_42_method_151_4 rfl rfl rfl ?_
  refine W.aloadN ok (pc' := 6) d_jdk_42_method_151_5 rfl rfl rfl ?_
  refine W.putF ok (pc' := 9) (cl' := (false, [])) (w32 hw) Via.refl F1 X (Or.inr ⟨(w33 hw), rfl, rfl⟩) (w6 hw) (ty := (.array .byte)) (by decide) rfl rfl (hwsM _ (List.mem_of_getElem? (i := 0) rfl)) (Or.inl (List.mem_of_getElem? (i := 0) rfl)) (fun q => by cases q) rfl d_jdk_42_method_151_6 rfl (fun h1 W2 => ?_)
  refine W.aloadN ok (pc' := 10) d_jdk_42_method_151_9 rfl rfl rfl ?_
  refine W.iloadN ok (pc' := 11) d_jdk_42_method_151_10 rfl rfl ?_
  refine W.putF ok (pc' := 14) (cl' := (false, [])) (w30 hw) Via.refl (F2.other W2 (Or.inr (slot_ne (Or.inr (w31 hw)) (Or.inr (w33 hw)) (by decide) (t := .byte) (by decide) (t' := (.array .byte)) (by decide)))) (X.wr W2) (Or.inr ⟨(w31 hw), rfl, rfl⟩) (w6 hw) (ty := .byte) (by decide) (by first | rfl | assumption) (by first | rfl | assumption) (hwsM _ (List.mem_of_getElem? (i := 0) rfl)) (Or.inl (List.mem_of_getElem? (i := 0) rfl)) (fun q => by cases q) rfl d_jdk_42_method_151_11 rfl (fun h3 W4 => ?_)
  exact W.retV ok d_jdk_42_method_151_14 (Nat.le_of_ble_eq_true rfl) (Nat.le_of_ble_eq_true rfl) (fun x (q : x ∈ M) => q) (fun kp => ⟨rfl, (F1.same W2).other W4 (Or.inr (slot_ne (Or.inr (w33 hw)) (Or.inr (w31 hw)) (by decide) (t := (.array .byte)) (by decide) (t' := .byte) (by decide))), (F2.other W2 (Or.inr (slot_ne (Or.inr (w31 hw)) (Or.inr (w33 hw)) (by decide) (t := .byte) (by decide) (t' := (.array .byte)) (by decide)))).same W4⟩)
set_option maxRecDepth 65536 in
set_option maxHeartbeats 4000000 in
theorem k_toBytesW (l : Launch) (Z : State) (a0 : Array Value) (hE : Ev Z a0) (c : Int32) (h : Heap)  : Con l Z false (⟨"java/lang/StringUTF16", "toBytes", "(C)[B"⟩ : MethodName) jdk_52_method_24_code 2 (some (.array .byte)) ({ frames := 1, cells := 1, slots := 2, locals := 14 } : Room) [(.int c)] h [] false (fun M v h' => ∃ t, v = some (.ref t) ∧ h.size ≤ t ∧ ArI Z h' t .byte (wide [c])) := by
  have hw := hE.1
  refine Con.intro (L0 := #[.val (.int c), .unset]) (by decide +kernel) (fun m => ef_of rfl) ?_
  intro B M hwsM ok
  refine W.iconst ok (pc' := 1) (2 : Int32) d_jdk_52_method_24_0 rfl rfl ?_
  refine W.newB ok (pc' := 3) (cap := 2) (w23 hw) (by decide) (by decide) (by decide) d_jdk_52_method_24_1 rfl (Nat.le_of_ble_eq_true rfl) (Nat.le_of_ble_eq_true rfl) (fun a1 h2 z3 ea4 E5 A6 => ?_)
  refine W.astoreN ok (pc' := 4) (L' := #[.val (.int c), .val (.ref a1)]) d_jdk_52_method_24_3 rfl rfl rfl ?_
  refine W.aloadN ok (pc' := 5) d_jdk_52_method_24_4 rfl rfl rfl ?_
  refine W.iconst ok (pc' := 6) (0 : Int32) d_jdk_52_method_24_5 rfl rfl ?_
  refine W.iloadN ok (pc' := 7) d_jdk_52_method_24_6 rfl rfl ?_
  replace A6 := A6.cast (cs' := [0, 0]) rfl
  refine W.callS ok (rest := []) (cl' := (true, [])) (pc' := 10) (w251 hw) (w252 hw) (w21 hw) (w253 hw) (by decide) pd_13 rfl (k_putChar l Z a0 hE a1 [0, 0] 0 c h2 A6 (by decide) (by decide)) (fun w q => by simp only [List.mem_cons, List.not_mem_nil, or_false] at q; subst q; exact ⟨(List.mem_cons_self ..), (Or.inr z3)⟩) (fun q => ⟨q, fun w q => by simp only [List.mem_cons, List.not_mem_nil, or_false] at q; subst q; exact z3⟩) rfl rfl (Nat.le_of_ble_eq_true rfl) (Nat.le_of_ble_eq_true rfl) (Nat.le_of_ble_eq_true rfl) (Nat.le_of_ble_eq_true rfl) d_jdk_52_method_24_7 rfl rfl (oldK fun v h7 hq K8 => ?_)
  obtain ⟨rfl, A2⟩ := hq
  show W B h7 1 2 (a1 :: M) (true, []) 10 #[.val (.int c), .val (.ref a1)] []
  refine W.aloadN ok (pc' := 11) d_jdk_52_method_24_10 rfl rfl rfl ?_
  exact W.retA ok d_jdk_52_method_24_11 rfl rfl (Nat.le_of_ble_eq_true rfl) (Nat.le_of_ble_eq_true rfl) (fun x (q : x ∈ M) => (List.mem_cons_of_mem _ q)) (fun kp => ⟨a1, rfl, Nat.le_of_eq ea4, A2⟩)
set_option maxRecDepth 65536 in
set_option maxHeartbeats 4000000 in
theorem k_valL (l : Launch) (Z : State) (a0 : Array Value) (hE : Ev Z a0) (c : Int32) (h : Heap) (hc : 0 ≤ c.toInt ∧ c.toInt ≤ 255) : Con l Z false (⟨"java/lang/String", "valueOf", "(C)Ljava/lang/String;"⟩ : MethodName) jdk_42_method_139_code 1 (some (.object "java/lang/String")) ({ frames := 2, cells := 2, slots := 5, locals := 27 } : Room) [(.int c)] h [] false (fun M v h' => ∃ a, v = some (.ref a) ∧ h.size ≤ a ∧ StrM Z h' M a [c]) := by
  have hw := hE.1
  refine Con.intro (L0 := #[.val (.int c)]) (by decide +kernel) (fun m => ef_of rfl) ?_
  intro B M hwsM ok
  refine W.lt fun hM => ?_
  obtain ⟨g, hg, Fg⟩ := hE.compact
  refine W.getS ok (pc' := 3) (w18 hw) Via.refl Fg d_jdk_42_method_139_0 rfl ?_
  refine W.ifeq ok (pcY := 26) (pcN := 6) d_jdk_42_method_139_3 rfl (by decide) rfl (fun q => absurd q hg) (fun _ => ?_)
  refine W.iloadN ok (pc' := 7) d_jdk_42_method_139_6 rfl rfl ?_
  refine W.callS ok (rest := []) (cl' := (true, [])) (pc' := 10) (w230 hw) (w225 hw) (w78 hw) (w226 hw) (by decide) pd_17 rfl (k_canL l Z a0 hE c h (by rw [Int32.lt_iff_toInt_lt]; have : (255 : Int32).toInt = 255 := rfl; omega)) (fun _ q => (nomatch q)) (fun q => ⟨q, fun _ q => (nomatch q)⟩) rfl rfl (Nat.le_of_ble_eq_true rfl) (Nat.le_of_ble_eq_true rfl) (Nat.le_of_ble_eq_true rfl) (Nat.le_of_ble_eq_true rfl) d_jdk_42_method_139_7 rfl rfl (pureK ?_)
  show W B h 0 0 M (true, []) 10 #[.val (.int c)] [(.int 1)]
  refine W.ifeq ok (pcY := 26) (pcN := 13) d_jdk_42_method_139_10 rfl (by decide) rfl (fun q => absurd q (by decide)) (fun _ => ?_)
  refine W.new ok (pc' := 16) (w231 hw) (w6 hw) (w7 hw) d_jdk_42_method_139_13 rfl (Nat.le_of_ble_eq_true rfl) (Nat.le_of_ble_eq_true rfl) (fun a1 h2 z3 ea4 E5 X6 D7 U8 => ?_)
  refine W.dup ok (pc' := 17) d_jdk_42_method_139_16 rfl rfl ?_
  refine W.iloadN ok (pc' := 18) d_jdk_42_method_139_17 rfl rfl ?_
  have lt1 := gtE X6
  have le1 := E5.1
  refine W.callS ok (rest := [(.ref a1), (.ref a1)]) (cl' := (true, [])) (pc' := 21) (w232 hw) (w233 hw) (w78 hw) (w234 hw) (by decide) pd_29 rfl (k_toBytesL l Z a0 hE c h2) (fun _ q => (nomatch q)) (fun q => ⟨q, fun _ q => (nomatch q)⟩) rfl rfl (Nat.le_of_ble_eq_true rfl) (Nat.le_of_ble_eq_true rfl) (Nat.le_of_ble_eq_true rfl) (Nat.le_of_ble_eq_true rfl) d_jdk_42_method_139_18 rfl rfl (oldK fun v h9 hq K10 => ?_)
  obtain ⟨t, rfl, ht, At⟩ := hq
  show W B h9 2 5 (a1 :: M) (true, []) 21 #[.val (.int c)] [(.ref t), (.ref a1), (.ref a1)]
  refine W.iconst ok (pc' := 22) (0 : Int32) d_jdk_42_method_139_21 rfl rfl ?_
  have le2 := K10.1
  refine W.callI ok (rest := [(.ref a1)]) (cl' := (true, [])) (pc' := 25) rfl (w235 hw) (w236 hw) (w7 hw) (w237 hw) (by decide) pd_30 rfl (k_initBB l Z a0 hE a1 t (0 : Int32) h9 (X6.ext (ext_keep K10)) ((D7 (Or.inr (w33 hw)) (ty := (.array .byte)) (by decide)).ext (ext_keep K10)) ((D7 (Or.inr (w31 hw)) (ty := .byte) (by decide)).ext (ext_keep K10)) rfl) (fun w q => by simp only [List.mem_cons, List.not_mem_nil, or_false] at q; subst q; exact ⟨(List.mem_cons_self ..), (Or.inr z3)⟩) (fun q => ⟨q, fun w q => by simp only [List.mem_cons, List.not_mem_nil, or_false] at q; subst q; exact z3⟩) rfl rfl (Nat.le_of_ble_eq_true rfl) (Nat.le_of_ble_eq_true rfl) (Nat.le_of_ble_eq_true rfl) (Nat.le_of_ble_eq_true rfl) d_jdk_42_method_139_22 rfl rfl (oldK fun v h11 hq K12 => ?_)
  obtain ⟨rfl, G1, G2⟩ := hq
  show W B h11 2 5 (a1 :: M) (true, []) 25 #[.val (.int c)] [(.ref a1)]
  exact W.retA ok d_jdk_42_method_139_25 rfl rfl (Nat.le_of_ble_eq_true rfl) (Nat.le_of_ble_eq_true rfl) (fun x (q : x ∈ M) => (List.mem_cons_of_mem _ q)) (fun kp => ⟨a1, rfl, Nat.le_of_eq ea4, t, _, _, fun q => absurd (hM _ q) (by omega), fun q => absurd (hM _ q) (by omega), ((X6.ext (ext_keep K10)).keep K12), G1, G2, At.keep K12 (nin1 (by omega)), Or.inl ⟨rfl, rfl, by simpa using hc⟩⟩)
set_option maxRecDepth 65536 in
set_option maxHeartbeats 4000000 in
theorem k_valW (l : Launch) (Z : State) (a0 : Array Value) (hE : Ev Z a0) (c : Int32) (h : Heap) (hc : 255 < c.toInt ∧ c.toInt ≤ 65535) : Con l Z false (⟨"java/lang/String", "valueOf", "(C)Ljava/lang/String;"⟩ : MethodName) jdk_42_method_139_code 1 (some (.object "java/lang/String")) ({ frames := 2, cells := 2, slots := 6, locals := 29 } : Room) [(.int c)] h [] false (fun M v h' => ∃ a, v = some (.ref a) ∧ h.size ≤ a ∧ StrM Z h' M a [c]) := by
  have hw := hE.1
  refine Con.intro (L0 := #[.val (.int c)]) (by decide +kernel) (fun m => ef_of rfl) ?_
  intro B M hwsM ok
  refine W.lt fun hM => ?_
  obtain ⟨g, hg, Fg⟩ := hE.compact
  refine W.getS ok (pc' := 3) (w18 hw) Via.refl Fg d_jdk_42_method_139_0 rfl ?_
  refine W.ifeq ok (pcY := 26) (pcN := 6) d_jdk_42_method_139_3 rfl (by decide) rfl (fun q => absurd q hg) (fun _ => ?_)
  refine W.iloadN ok (pc' := 7) d_jdk_42_method_139_6 rfl rfl ?_
  refine W.callS ok (rest := []) (cl' := (true, [])) (pc' := 10) (w230 hw) (w225 hw) (w78 hw) (w226 hw) (by decide) pd_17 rfl (k_canW l Z a0 hE c h (by rw [Int32.lt_iff_toInt_lt]; have : (255 : Int32).toInt = 255 := rfl; omega)) (fun _ q => (nomatch q)) (fun q => ⟨q, fun _ q => (nomatch q)⟩) rfl rfl (Nat.le_of_ble_eq_true rfl) (Nat.le_of_ble_eq_true rfl) (Nat.le_of_ble_eq_true rfl) (Nat.le_of_ble_eq_true rfl) d_jdk_42_method_139_7 rfl rfl (pureK ?_)
  show W B h 0 0 M (true, []) 10 #[.val (.int c)] [(.int 0)]
  refine W.ifeq ok (pcY := 26) (pcN := 13) d_jdk_42_method_139_10 rfl (by decide) rfl (fun _ => ?_) (fun q => absurd rfl q)
  refine W.new ok (pc' := 29) (w231 hw) (w6 hw) (w7 hw) d_jdk_42_method_139_26 rfl (Nat.le_of_ble_eq_true rfl) (Nat.le_of_ble_eq_true rfl) (fun a1 h2 z3 ea4 E5 X6 D7 U8 => ?_)
  refine W.dup ok (pc' := 30) d_jdk_42_method_139_29 rfl rfl ?_
  refine W.iloadN ok (pc' := 31) d_jdk_42_method_139_30 rfl rfl ?_
  have lt1 := gtE X6
  have le1 := E5.1
  refine W.callS ok (rest := [(.ref a1), (.ref a1)]) (cl' := (true, [])) (pc' := 34) (w296 hw) (w297 hw) (w21 hw) (w298 hw) (by decide) pd_29 rfl (k_toBytesW l Z a0 hE c h2) (fun _ q => (nomatch q)) (fun q => ⟨q, fun _ q => (nomatch q)⟩) rfl rfl (Nat.le_of_ble_eq_true rfl) (Nat.le_of_ble_eq_true rfl) (Nat.le_of_ble_eq_true rfl) (Nat.le_of_ble_eq_true rfl) d_jdk_42_method_139_31 rfl rfl (oldK fun v h9 hq K10 => ?_)
  obtain ⟨t, rfl, ht, At⟩ := hq
  show W B h9 2 6 (a1 :: M) (true, []) 34 #[.val (.int c)] [(.ref t), (.ref a1), (.ref a1)]
  refine W.iconst ok (pc' := 35) (1 : Int32) d_jdk_42_method_139_34 rfl rfl ?_
  have le2 := K10.1
  refine W.callI ok (rest := [(.ref a1)]) (cl' := (true, [])) (pc' := 38) rfl (w235 hw) (w236 hw) (w7 hw) (w237 hw) (by decide) pd_30 rfl (k_initBB l Z a0 hE a1 t (1 : Int32) h9 (X6.ext (ext_keep K10)) ((D7 (Or.inr (w33 hw)) (ty := (.array .byte)) (by decide)).ext (ext_keep K10)) ((D7 (Or.inr (w31 hw)) (ty := .byte) (by decide)).ext (ext_keep K10)) rfl) (fun w q => by simp only [List.mem_cons, List.not_mem_nil, or_false] at q; subst q; exact ⟨(List.mem_cons_self ..), (Or.inr z3)⟩) (fun q => ⟨q, fun w q => by simp only [List.mem_cons, List.not_mem_nil, or_false] at q; subst q; exact z3⟩) rfl rfl (Nat.le_of_ble_eq_true rfl) (Nat.le_of_ble_eq_true rfl) (Nat.le_of_ble_eq_true rfl) (Nat.le_of_ble_eq_true rfl) d_jdk_42_method_139_35 rfl rfl (oldK fun v h11 hq K12 => ?_)
  obtain ⟨rfl, G1, G2⟩ := hq
  show W B h11 2 6 (a1 :: M) (true, []) 38 #[.val (.int c)] [(.ref a1)]
  exact W.retA ok d_jdk_42_method_139_38 rfl rfl (Nat.le_of_ble_eq_true rfl) (Nat.le_of_ble_eq_true rfl) (fun x (q : x ∈ M) => (List.mem_cons_of_mem _ q)) (fun kp => ⟨a1, rfl, Nat.le_of_eq ea4, t, _, _, fun q => absurd (hM _ q) (by omega), fun q => absurd (hM _ q) (by omega), ((X6.ext (ext_keep K10)).keep K12), G1, G2, At.keep K12 (nin1 (by omega)), Or.inr ⟨rfl, rfl, by simp; omega, by simp; omega⟩⟩)
set_option maxRecDepth 65536 in
set_option maxHeartbeats 4000000 in
theorem k_isLatL (l : Launch) (Z : State) (a0 : Array Value) (hE : Ev Z a0) (a : Addr) (h : Heap) (F : Fld Z h a ST "coder" "B" (.int 0)) : Con l Z false (⟨"java/lang/String", "isLatin1", "()Z"⟩ : MethodName) jdk_42_method_154_code 1 (some .boolean) ({ frames := 0, cells := 0, slots := 0, locals := 0 } : Room) [(.ref a)] h [] false (fun M v h' => v = some (.int 1) ∧ h' = h) := by
  have hw := hE.1
  refine Con.intro (L0 := #[.val (.ref a)]) (by decide +kernel) (fun m => ef_of rfl) ?_
  intro B M hwsM ok
  obtain ⟨g, hg, Fg⟩ := hE.compact
  refine W.getS ok (pc' := 3) (w18 hw) Via.refl Fg d_jdk_42_method_154_0 rfl ?_
  refine W.ifeq ok (pcY := 17) (pcN := 6) d_jdk_42_method_154_3 rfl (by decide) rfl (fun q => absurd q hg) (fun _ => ?_)
  refine W.aloadN ok (pc' := 7) d_jdk_42_method_154_6 rfl rfl rfl ?_
  refine W.getF ok (pc' := 10) (w30 hw) Via.refl F d_jdk_42_method_154_7 rfl ?_
  refine W.ifne ok (pcY := 17) (pcN := 13) d_jdk_42_method_154_10 rfl (by decide) rfl (fun _ => ?_) (fun q => absurd rfl q)
  refine W.iconst ok (pc' := 14) (1 : Int32) d_jdk_42_method_154_13 rfl rfl ?_
  refine W.goto ok (pc' := 18) d_jdk_42_method_154_14 (by decide) rfl ?_
  exact W.retZ ok d_jdk_42_method_154_18 rfl (Nat.le_of_ble_eq_true rfl) (Nat.le_of_ble_eq_true rfl) (fun x (q : x ∈ M) => q) (fun kp => ⟨rfl, rfl⟩)
set_option maxRecDepth 65536 in
set_option maxHeartbeats 4000000 in
theorem k_isLatW (l : Launch) (Z : State) (a0 : Array Value) (hE : Ev Z a0) (a : Addr) (h : Heap) (F : Fld Z h a ST "coder" "B" (.int 1)) : Con l Z false (⟨"java/lang/String", "isLatin1", "()Z"⟩ : MethodName) jdk_42_method_154_code 1 (some .boolean) ({ frames := 0, cells := 0, slots := 0, locals := 0 } : Room) [(.ref a)] h [] false (fun M v h' => v = some (.int 0) ∧ h' = h) := by
  have hw := hE.1
  refine Con.intro (L0 := #[.val (.ref a)]) (by decide +kernel) (fun m => ef_of rfl) ?_
  intro B M hwsM ok
  obtain ⟨g, hg, Fg⟩ := hE.compact
  refine W.getS ok (pc' := 3) (w18 hw) Via.refl Fg d_jdk_42_method_154_0 rfl ?_
  refine W.ifeq ok (pcY := 17) (pcN := 6) d_jdk_42_method_154_3 rfl (by decide) rfl (fun q => absurd q hg) (fun _ => ?_)
  refine W.aloadN ok (pc' := 7) d_jdk_42_method_154_6 rfl rfl rfl ?_
  refine W.getF ok (pc' := 10) (w30 hw) Via.refl F d_jdk_42_method_154_7 rfl ?_
  refine W.ifne ok (pcY := 17) (pcN := 13) d_jdk_42_method_154_10 rfl (by decide) rfl (fun q => absurd q (by decide)) (fun _ => ?_)
  refine W.iconst ok (pc' := 18) (0 : Int32) d_jdk_42_method_154_17 rfl rfl ?_
  exact W.retZ ok d_jdk_42_method_154_18 rfl (Nat.le_of_ble_eq_true rfl) (Nat.le_of_ble_eq_true rfl) (fun x (q : x ∈ M) => q) (fun kp => ⟨rfl, rfl⟩)
set_option maxRecDepth 65536 in
set_option maxHeartbeats 4000000 in
theorem k_chL (l : Launch) (Z : State) (a0 : Array Value) (hE : Ev Z a0) (t : Addr) (bs : List Int32) (iN : Nat) (u : Int32) (h : Heap) (A : ArI Z h t .byte bs) (hi : bs[iN]? = some u) (hl : bs.length < 2000000) : Con l Z false (⟨"java/lang/StringLatin1", "charAt", "([BI)C"⟩ : MethodName) jdk_43_method_2_code 2 (some .char) ({ frames := 2, cells := 0, slots := 0, locals := 27 } : Room) [(.ref t), (.int iN.toInt32)] h [] false (fun M v h' => v = some (.int (c16 (u &&& 255))) ∧ h' = h) := by
  have hw := hE.1
  refine Con.intro (L0 := #[.val (.ref t), .val (.int iN.toInt32)]) (by decide +kernel) (fun m => ef_of rfl) ?_
  intro B M hwsM ok
  have li := lt_of_at hi
  have m0 : ¬ iN.toInt32 < 0 := by rw [neg_iff, i32_len (by omega)]; omega
  have ni : (iN.toInt32).toNatClampNeg = iN := nat_i32 (by omega)
  have m1 : iN.toInt32 < bs.length.toInt32 := by rw [Int32.lt_iff_toInt_lt, i32_len (by omega), i32_len (by omega)]; omega
  refine W.iloadN ok (pc' := 1) d_jdk_43_method_2_0 rfl rfl ?_
  refine W.aloadN ok (pc' := 2) d_jdk_43_method_2_1 rfl rfl rfl ?_
  refine W.lenI ok (pc' := 3) A bs.length.toInt32 rfl d_jdk_43_method_2_2 rfl ?_
  refine W.callS ok (rest := []) (cl' := (true, [])) (pc' := 6) (w80 hw) (w81 hw) (w7 hw) (w82 hw) (by decide) pd_8 rfl (k_sCheck l Z a0 hE (iN.toInt32) (bs.length.toInt32) h m0 m1) (fun _ q => (nomatch q)) (fun q => ⟨q, fun _ q => (nomatch q)⟩) rfl rfl (Nat.le_of_ble_eq_true rfl) (Nat.le_of_ble_eq_true rfl) (Nat.le_of_ble_eq_true rfl) (Nat.le_of_ble_eq_true rfl) d_jdk_43_method_2_3 rfl rfl (pureK0 ?_)
  show W B h 0 0 M (true, []) 6 #[.val (.ref t), .val (.int iN.toInt32)] []
  refine W.aloadN ok (pc' := 7) d_jdk_43_method_2_6 rfl rfl rfl ?_
  refine W.iloadN ok (pc' := 8) d_jdk_43_method_2_7 rfl rfl ?_
  refine W.baload ok (pc' := 9) A u m0 (by rw [ni]; exact hi) d_jdk_43_method_2_8 rfl ?_
  refine W.sipush ok (pc' := 12) (255 : Int32) d_jdk_43_method_2_9 rfl rfl ?_
  refine W.iand ok (pc' := 13) d_jdk_43_method_2_12 rfl ?_
  refine W.i2c ok (pc' := 14) d_jdk_43_method_2_13 rfl ?_
  exact W.retC ok d_jdk_43_method_2_14 (c16_c16 _) (Nat.le_of_ble_eq_true rfl) (Nat.le_of_ble_eq_true rfl) (fun x (q : x ∈ M) => q) (fun kp => ⟨rfl, rfl⟩)
set_option maxRecDepth 65536 in
set_option maxHeartbeats 4000000 in
theorem k_charAt (l : Launch) (Z : State) (a0 : Array Value) (hE : Ev Z a0) (a : Addr) (cs : List Int32) (iN : Nat) (c : Int32) (h : Heap) (S : Str Z h a cs) (hi : cs[iN]? = some c) (hl : cs.length < 1000000) : Con l Z false (⟨"java/lang/String", "charAt", "(I)C"⟩ : MethodName) jdk_42_method_56_code 2 (some .char) ({ frames := 4, cells := 0, slots := 0, locals := 53 } : Room) [(.ref a), (.int iN.toInt32)] h [] false (fun M v h' => v = some (.int c) ∧ h' = h) := by
  have hw := hE.1
  refine Con.intro (L0 := #[.val (.ref a), .val (.int iN.toInt32)]) (by decide +kernel) (fun m => ef_of rfl) ?_
  intro B M hwsM ok
  obtain ⟨t, cd, bs, X, F1, F2, A, hc⟩ := S
  have hr := hc.rng c (mem_of_at hi)
  have li := lt_of_at hi
  rcases hc with ⟨rfl, rfl, hc⟩ | ⟨rfl, rfl, hc, hx⟩
  · refine W.aloadN ok (pc' := 1) d_jdk_42_method_56_0 rfl rfl rfl ?_
    refine W.callV ok (rest := []) (cl' := (true, [])) (pc' := 4) (w71 hw) (w72 hw) (w74 hw) (w73 hw) (w7 hw) (w75 hw) (by decide) X pd_15 rfl (k_isLatL l Z a0 hE a h F2) (fun _ q => (nomatch q)) (fun q => ⟨q, fun _ q => (nomatch q)⟩) rfl rfl (Nat.le_of_ble_eq_true rfl) (Nat.le_of_ble_eq_true rfl) (Nat.le_of_ble_eq_true rfl) (Nat.le_of_ble_eq_true rfl) d_jdk_42_method_56_1 rfl rfl (pureK ?_)
    show W B h 0 0 M (true, []) 4 #[.val (.ref a), .val (.int iN.toInt32)] [(.int 1)]
    refine W.ifeq ok (pcY := 16) (pcN := 7) d_jdk_42_method_56_4 rfl (by decide) rfl (fun q => absurd q (by decide)) (fun _ => ?_)
    refine W.aloadN ok (pc' := 8) d_jdk_42_method_56_7 rfl rfl rfl ?_
    refine W.getF ok (pc' := 11) (w32 hw) Via.refl F1 d_jdk_42_method_56_8 rfl ?_
    refine W.iloadN ok (pc' := 12) d_jdk_42_method_56_11 rfl rfl ?_
    have e1 : c16 (b8 c &&& 255) = c := by rw [b8_and (hc c (mem_of_at hi)), c16_of hr]
    refine W.callS ok (rest := []) (cl' := (true, [])) (pc' := 15) (w76 hw) (w77 hw) (w78 hw) (w79 hw) (by decide) pd_10 rfl (k_chL l Z a0 hE t (cs.map b8) iN (b8 c) h A (by simp [hi]) (by rw [List.length_map]; omega)) (fun _ q => (nomatch q)) (fun q => ⟨q, fun _ q => (nomatch q)⟩) rfl rfl (Nat.le_of_ble_eq_true rfl) (Nat.le_of_ble_eq_true rfl) (Nat.le_of_ble_eq_true rfl) (Nat.le_of_ble_eq_true rfl) d_jdk_42_method_56_12 rfl rfl (pureK ?_)
    show W B h 0 0 M (true, []) 15 #[.val (.ref a), .val (.int iN.toInt32)] [(.int (c16 (b8 c &&& 255)))]
    rw [e1]
    exact W.retC ok d_jdk_42_method_56_15 (c16_of hr) (Nat.le_of_ble_eq_true rfl) (Nat.le_of_ble_eq_true rfl) (fun x (q : x ∈ M) => q) (fun kp => ⟨rfl, rfl⟩)
  · refine W.aloadN ok (pc' := 1) d_jdk_42_method_56_0 rfl rfl rfl ?_
    refine W.callV ok (rest := []) (cl' := (true, [])) (pc' := 4) (w71 hw) (w72 hw) (w74 hw) (w73 hw) (w7 hw) (w75 hw) (by decide) X pd_15 rfl (k_isLatW l Z a0 hE a h F2) (fun _ q => (nomatch q)) (fun q => ⟨q, fun _ q => (nomatch q)⟩) rfl rfl (Nat.le_of_ble_eq_true rfl) (Nat.le_of_ble_eq_true rfl) (Nat.le_of_ble_eq_true rfl) (Nat.le_of_ble_eq_true rfl) d_jdk_42_method_56_1 rfl rfl (pureK ?_)
    show W B h 0 0 M (true, []) 4 #[.val (.ref a), .val (.int iN.toInt32)] [(.int 0)]
    refine W.ifeq ok (pcY := 16) (pcN := 7) d_jdk_42_method_56_4 rfl (by decide) rfl (fun _ => ?_) (fun q => absurd rfl q)
    refine W.aloadN ok (pc' := 17) d_jdk_42_method_56_16 rfl rfl rfl ?_
    refine W.getF ok (pc' := 20) (w32 hw) Via.refl F1 d_jdk_42_method_56_17 rfl ?_
    refine W.iloadN ok (pc' := 21) d_jdk_42_method_56_20 rfl rfl ?_
    refine W.callS ok (rest := []) (cl' := (true, [])) (pc' := 24) (w260 hw) (w261 hw) (w21 hw) (w262 hw) (by decide) pd_10 rfl (k_chW l Z a0 hE t (wide cs) iN (b8 c) (b8 (c >>> ((8 : Int32) &&& 31))) h A (wide_at cs iN c hi).1 (wide_at cs iN c hi).2 (by rw [wide_length]; omega)) (fun _ q => (nomatch q)) (fun q => ⟨q, fun _ q => (nomatch q)⟩) rfl rfl (Nat.le_of_ble_eq_true rfl) (Nat.le_of_ble_eq_true rfl) (Nat.le_of_ble_eq_true rfl) (Nat.le_of_ble_eq_true rfl) d_jdk_42_method_56_21 rfl rfl (pureK ?_)
    show W B h 0 0 M (true, []) 24 #[.val (.ref a), .val (.int iN.toInt32)] [(.int (c16 (((b8 c &&& 255) <<< ((0 : Int32) &&& 31)) ||| ((b8 (c >>> ((8 : Int32) &&& 31)) &&& 255) <<< ((8 : Int32) &&& 31)))))]
    rw [pair hr]
    exact W.retC ok d_jdk_42_method_56_24 (c16_of hr) (Nat.le_of_ble_eq_true rfl) (Nat.le_of_ble_eq_true rfl) (fun x (q : x ∈ M) => q) (fun kp => ⟨rfl, rfl⟩)
set_option maxRecDepth 65536 in
set_option maxHeartbeats 4000000 in
theorem k_cmpL (l : Launch) (Z : State) (a0 : Array Value) (hE : Ev Z a0) (b d : Addr) (cs : List Int32) (h : Heap) (Ab : ArI Z h b .char cs) (Ad : ArI Z h d .byte (List.replicate cs.length 0)) (hbd : b ≠ d) (hl : cs.length < 1000000) (hlat : ∀ c ∈ cs, c.toInt ≤ 255) : Con l Z false (⟨"java/lang/StringUTF16", "compress", "([CI[BII)I"⟩ : MethodName) jdk_52_method_21_code 7 (some .int) ({ frames := 0, cells := 0, slots := 0, locals := 0 } : Room) [(.ref b), (.int (0 : Int32)), (.ref d), (.int (0 : Int32)), (.int cs.length.toInt32)] h [d] false (fun M v h' => v = some (.int cs.length.toInt32) ∧ ArI Z h' d .byte (cs.map b8)) := by
  have hw := hE.1
  refine Con.intro (L0 := #[.val (.ref b), .val (.int (0 : Int32)), .val (.ref d), .val (.int (0 : Int32)), .val (.int cs.length.toInt32), .unset, .unset]) (by decide +kernel) (fun m => ef_of rfl) ?_
  intro B M hwsM ok
  refine W.iconst ok (pc' := 1) (0 : Int32) d_jdk_52_method_21_0 rfl rfl ?_
  refine W.istore ok (pc' := 3) (L' := #[.val (.ref b), .val (.int (0 : Int32)), .val (.ref d), .val (.int (0 : Int32)), .val (.int cs.length.toInt32), .val (.int (0 : Int32)), .unset]) d_jdk_52_method_21_1 rfl rfl ?_
  have loop : ∀ (m i : Nat) (hh : Heap) (cl : Cl) (s6 : Slot), i + m = cs.length → One s6 → ArI Z hh b .char cs → ArI Z hh d .byte ((cs.take i).map b8 ++ List.replicate m 0) → W B hh 0 0 M cl 3 #[.val (.ref b), .val (.int i.toInt32), .val (.ref d), .val (.int i.toInt32), .val (.int cs.length.toInt32), .val (.int i.toInt32), s6] [] := by
    intro m
    induction m with
    | zero =>
      intro i hh cl s6 hi h6 Ab Ad
      refine W.iload ok (pc' := 5) d_jdk_52_method_21_3 rfl rfl ?_
      refine W.iload ok (pc' := 7) d_jdk_52_method_21_5 rfl rfl ?_
      refine W.icmpge ok (pcY := 44) (pcN := 10) d_jdk_52_method_21_7 rfl (by decide) rfl (fun q => absurd q (by rw [i32_lt (by omega) (by omega)]; omega)) (fun _ => ?_)
      refine W.iload ok (pc' := 46) d_jdk_52_method_21_44 rfl rfl ?_
      exact W.retI ok d_jdk_52_method_21_46 (Nat.le_of_ble_eq_true rfl) (Nat.le_of_ble_eq_true rfl) (fun x (q : x ∈ M) => q) (fun kp => ⟨rfl, Ad.cast (take_all cs i (by omega))⟩)
    | succ m ih =>
      intro i hh cl s6 hi h6 Ab Ad
      have li : i < cs.length := by omega
      obtain ⟨c, hc⟩ := at_lt li
      have c255 : c.toInt ≤ 255 := hlat c (mem_of_at hc)
      refine W.iload ok (pc' := 5) d_jdk_52_method_21_3 rfl rfl ?_
      refine W.iload ok (pc' := 7) d_jdk_52_method_21_5 rfl rfl ?_
      refine W.icmpge ok (pcY := 44) (pcN := 10) d_jdk_52_method_21_7 rfl (by decide) rfl (fun _ => ?_) (fun q => absurd ((i32_lt (by omega) (by omega)).mpr (by omega)) q)
      refine W.aloadN ok (pc' := 11) d_jdk_52_method_21_10 rfl rfl rfl ?_
      refine W.iloadN ok (pc' := 12) d_jdk_52_method_21_11 rfl rfl ?_
      refine W.caload ok (pc' := 13) Ab c (i32_nn (by omega)) (by rw [nat_i32 (by omega)]; exact hc) d_jdk_52_method_21_12 rfl ?_
      refine W.istoreS ok (pc' := 15) (L' := #[.val (.ref b), .val (.int i.toInt32), .val (.ref d), .val (.int i.toInt32), .val (.int cs.length.toInt32), .val (.int i.toInt32), .val (.int c)]) d_jdk_52_method_21_13 rfl rfl h6 rfl ?_
      refine W.iload ok (pc' := 17) d_jdk_52_method_21_15 rfl rfl ?_
      refine W.sipush ok (pc' := 20) (255 : Int32) d_jdk_52_method_21_17 rfl rfl ?_
      refine W.icmple ok (pcY := 26) (pcN := 23) d_jdk_52_method_21_20 rfl (by decide) rfl (fun q => absurd q (le255 c255)) (fun _ => ?_)
      refine W.aloadN ok (pc' := 27) d_jdk_52_method_21_26 rfl rfl rfl ?_
      refine W.iloadN ok (pc' := 28) d_jdk_52_method_21_27 rfl rfl ?_
      refine W.iload ok (pc' := 30) d_jdk_52_method_21_28 rfl rfl ?_
      refine W.i2b ok (pc' := 31) d_jdk_52_method_21_30 rfl ?_
      refine W.bastore ok (pc' := 32) (cl' := (false, cl.2)) Ad (i32_nn (by omega)) (by rw [nat_i32 (by omega)]; simp; omega) (hwsM _ (List.mem_of_getElem? (i := 0) rfl)) (Or.inl (List.mem_of_getElem? (i := 0) rfl)) (fun q => by cases q) rfl d_jdk_52_method_21_31 rfl (fun h1 Wr2 A3 => ?_)
      refine W.iinc ok (pc' := 35) (L' := #[.val (.ref b), .val (.int (i.toInt32 + (1 : Int32))), .val (.ref d), .val (.int i.toInt32), .val (.int cs.length.toInt32), .val (.int i.toInt32), .val (.int c)]) (1 : Int32) d_jdk_52_method_21_32 rfl rfl rfl rfl ?_
      refine W.iinc ok (pc' := 38) (L' := #[.val (.ref b), .val (.int (i.toInt32 + (1 : Int32))), .val (.ref d), .val (.int (i.toInt32 + (1 : Int32))), .val (.int cs.length.toInt32), .val (.int i.toInt32), .val (.int c)]) (1 : Int32) d_jdk_52_method_21_35 rfl rfl rfl rfl ?_
      refine W.iinc ok (pc' := 41) (L' := #[.val (.ref b), .val (.int (i.toInt32 + (1 : Int32))), .val (.ref d), .val (.int (i.toInt32 + (1 : Int32))), .val (.int cs.length.toInt32), .val (.int (i.toInt32 + (1 : Int32))), .val (.int c)]) (1 : Int32) d_jdk_52_method_21_38 rfl rfl rfl rfl ?_
      refine W.goto ok (pc' := 3) d_jdk_52_method_21_41 (by decide) rfl ?_
      rw [i32_succ]
      exact ih (i + 1) _ _ _ (by omega) (One.val rfl) (Ab.other Wr2 hbd) (A3.cast (by rw [nat_i32 (by omega), b8_b8, fill_step hc]))
  exact loop cs.length 0 h _ .unset (by omega) One.u Ab (Ad.cast (by simp))
set_option maxRecDepth 65536 in
set_option maxHeartbeats 4000000 in
theorem k_cmpW (l : Launch) (Z : State) (a0 : Array Value) (hE : Ev Z a0) (b d : Addr) (cs : List Int32) (q : Nat) (cq : Int32) (h : Heap) (Ab : ArI Z h b .char cs) (Ad : ArI Z h d .byte (List.replicate cs.length 0)) (hbd : b ≠ d) (hl : cs.length < 1000000) (hq : cs[q]? = some cq) (hcq : 255 < cq.toInt) (hpre : ∀ (j : Nat) (c : Int32), j < q → cs[j]? = some c → c.toInt ≤ 255) : Con l Z false (⟨"java/lang/StringUTF16", "compress", "([CI[BII)I"⟩ : MethodName) jdk_52_method_21_code 7 (some .int) ({ frames := 0, cells := 0, slots := 0, locals := 0 } : Room) [(.ref b), (.int (0 : Int32)), (.ref d), (.int (0 : Int32)), (.int cs.length.toInt32)] h [d] false (fun M v h' => v = some (.int q.toInt32)) := by
  have hw := hE.1
  refine Con.intro (L0 := #[.val (.ref b), .val (.int (0 : Int32)), .val (.ref d), .val (.int (0 : Int32)), .val (.int cs.length.toInt32), .unset, .unset]) (by decide +kernel) (fun m => ef_of rfl) ?_
  intro B M hwsM ok
  refine W.iconst ok (pc' := 1) (0 : Int32) d_jdk_52_method_21_0 rfl rfl ?_
  refine W.istore ok (pc' := 3) (L' := #[.val (.ref b), .val (.int (0 : Int32)), .val (.ref d), .val (.int (0 : Int32)), .val (.int cs.length.toInt32), .val (.int (0 : Int32)), .unset]) d_jdk_52_method_21_1 rfl rfl ?_
  have loop : ∀ (m i : Nat) (hh : Heap) (cl : Cl) (s6 : Slot), i + m = q → One s6 → ArI Z hh b .char cs → ArI Z hh d .byte ((cs.take i).map b8 ++ List.replicate (m + (cs.length - q)) 0) → W B hh 0 0 M cl 3 #[.val (.ref b), .val (.int i.toInt32), .val (.ref d), .val (.int i.toInt32), .val (.int cs.length.toInt32), .val (.int i.toInt32), s6] [] := by
    intro m
    induction m with
    | zero =>
      intro i hh cl s6 hi h6 Ab Ad
      have eq : i = q := by omega
      subst eq
      have lq := lt_of_at hq
      refine W.iload ok (pc' := 5) d_jdk_52_method_21_3 rfl rfl ?_
      refine W.iload ok (pc' := 7) d_jdk_52_method_21_5 rfl rfl ?_
      refine W.icmpge ok (pcY := 44) (pcN := 10) d_jdk_52_method_21_7 rfl (by decide) rfl (fun _ => ?_) (fun q => absurd ((i32_lt (by omega) (by omega)).mpr (by omega)) q)
      refine W.aloadN ok (pc' := 11) d_jdk_52_method_21_10 rfl rfl rfl ?_
      refine W.iloadN ok (pc' := 12) d_jdk_52_method_21_11 rfl rfl ?_
      refine W.caload ok (pc' := 13) Ab cq (i32_nn (by omega)) (by rw [nat_i32 (by omega)]; exact hq) d_jdk_52_method_21_12 rfl ?_
      refine W.istoreS ok (pc' := 15) (L' := #[.val (.ref b), .val (.int i.toInt32), .val (.ref d), .val (.int i.toInt32), .val (.int cs.length.toInt32), .val (.int i.toInt32), .val (.int cq)]) d_jdk_52_method_21_13 rfl rfl h6 rfl ?_
      refine W.iload ok (pc' := 17) d_jdk_52_method_21_15 rfl rfl ?_
      refine W.sipush ok (pc' := 20) (255 : Int32) d_jdk_52_method_21_17 rfl rfl ?_
      refine W.icmple ok (pcY := 26) (pcN := 23) d_jdk_52_method_21_20 rfl (by decide) rfl (fun _ => ?_) (fun q => absurd (gt255 hcq) q)
      refine W.iload ok (pc' := 25) d_jdk_52_method_21_23 rfl rfl ?_
      exact W.retI ok d_jdk_52_method_21_25 (Nat.le_of_ble_eq_true rfl) (Nat.le_of_ble_eq_true rfl) (fun x (q : x ∈ M) => q) (fun kp => rfl)
    | succ m ih =>
      intro i hh cl s6 hi h6 Ab Ad
      have lq := lt_of_at hq
      have li : i < cs.length := by omega
      obtain ⟨c, hc⟩ := at_lt li
      have c255 : c.toInt ≤ 255 := hpre i c (by omega) hc
      refine W.iload ok (pc' := 5) d_jdk_52_method_21_3 rfl rfl ?_
      refine W.iload ok (pc' := 7) d_jdk_52_method_21_5 rfl rfl ?_
      refine W.icmpge ok (pcY := 44) (pcN := 10) d_jdk_52_method_21_7 rfl (by decide) rfl (fun _ => ?_) (fun q => absurd ((i32_lt (by omega) (by omega)).mpr (by omega)) q)
      refine W.aloadN ok (pc' := 11) d_jdk_52_method_21_10 rfl rfl rfl ?_
      refine W.iloadN ok (pc' := 12) d_jdk_52_method_21_11 rfl rfl ?_
      refine W.caload ok (pc' := 13) Ab c (i32_nn (by omega)) (by rw [nat_i32 (by omega)]; exact hc) d_jdk_52_method_21_12 rfl ?_
      refine W.istoreS ok (pc' := 15) (L' := #[.val (.ref b), .val (.int i.toInt32), .val (.ref d), .val (.int i.toInt32), .val (.int cs.length.toInt32), .val (.int i.toInt32), .val (.int c)]) d_jdk_52_method_21_13 rfl rfl h6 rfl ?_
      refine W.iload ok (pc' := 17) d_jdk_52_method_21_15 rfl rfl ?_
      refine W.sipush ok (pc' := 20) (255 : Int32) d_jdk_52_method_21_17 rfl rfl ?_
      refine W.icmple ok (pcY := 26) (pcN := 23) d_jdk_52_method_21_20 rfl (by decide) rfl (fun q => absurd q (le255 c255)) (fun _ => ?_)
      refine W.aloadN ok (pc' := 27) d_jdk_52_method_21_26 rfl rfl rfl ?_
      refine W.iloadN ok (pc' := 28) d_jdk_52_method_21_27 rfl rfl ?_
      refine W.iload ok (pc' := 30) d_jdk_52_method_21_28 rfl rfl ?_
      refine W.i2b ok (pc' := 31) d_jdk_52_method_21_30 rfl ?_
      refine W.bastore ok (pc' := 32) (cl' := (false, cl.2)) Ad (i32_nn (by omega)) (by rw [nat_i32 (by omega)]; simp; omega) (hwsM _ (List.mem_of_getElem? (i := 0) rfl)) (Or.inl (List.mem_of_getElem? (i := 0) rfl)) (fun q => by cases q) rfl d_jdk_52_method_21_31 rfl (fun h1 Wr2 A3 => ?_)
      refine W.iinc ok (pc' := 35) (L' := #[.val (.ref b), .val (.int (i.toInt32 + (1 : Int32))), .val (.ref d), .val (.int i.toInt32), .val (.int cs.length.toInt32), .val (.int i.toInt32), .val (.int c)]) (1 : Int32) d_jdk_52_method_21_32 rfl rfl rfl rfl ?_
      refine W.iinc ok (pc' := 38) (L' := #[.val (.ref b), .val (.int (i.toInt32 + (1 : Int32))), .val (.ref d), .val (.int (i.toInt32 + (1 : Int32))), .val (.int cs.length.toInt32), .val (.int i.toInt32), .val (.int c)]) (1 : Int32) d_jdk_52_method_21_35 rfl rfl rfl rfl ?_
      refine W.iinc ok (pc' := 41) (L' := #[.val (.ref b), .val (.int (i.toInt32 + (1 : Int32))), .val (.ref d), .val (.int (i.toInt32 + (1 : Int32))), .val (.int cs.length.toInt32), .val (.int (i.toInt32 + (1 : Int32))), .val (.int c)]) (1 : Int32) d_jdk_52_method_21_38 rfl rfl rfl rfl ?_
      refine W.goto ok (pc' := 3) d_jdk_52_method_21_41 (by decide) rfl ?_
      rw [i32_succ]
      exact ih (i + 1) _ _ _ (by omega) (One.val rfl) (Ab.other Wr2 hbd) (A3.cast (by rw [nat_i32 (by omega), b8_b8, show m + 1 + (cs.length - q) = (m + (cs.length - q)) + 1 by omega, fill_step hc]))
  have lq := lt_of_at hq
  exact loop q 0 h _ .unset (by omega) One.u Ab (Ad.cast (by simp; omega))
set_option maxRecDepth 65536 in
set_option maxHeartbeats 4000000 in
theorem k_toB3 (l : Launch) (Z : State) (a0 : Array Value) (hE : Ev Z a0) (b : Addr) (cs : List Int32) (h : Heap) (Ab : ArI Z h b .char cs) (hcap : cs.length ≤ 3) : Con l Z false (⟨"java/lang/StringUTF16", "toBytes", "([CII)[B"⟩ : MethodName) jdk_52_method_14_code 5 (some (.array .byte)) ({ frames := 2, cells := 1, slots := 72, locals := 24 } : Room) [(.ref b), (.int (0 : Int32)), (.int cs.length.toInt32)] h [] false (fun M v h' => ∃ t, v = some (.ref t) ∧ h.size ≤ t ∧ ArI Z h' t .byte (wide cs)) := by
  have hw := hE.1
  refine Con.intro (L0 := #[.val (.ref b), .val (.int (0 : Int32)), .val (.int cs.length.toInt32), .unset, .unset]) (by decide +kernel) (fun m => ef_of rfl) ?_
  intro B M hwsM ok
  refine W.old ok fun _ le0 => ?_
  refine W.iloadN ok (pc' := 1) d_jdk_52_method_14_0 rfl rfl ?_
  refine W.callS ok (rest := []) (cl' := (true, [])) (pc' := 4) (w244 hw) (w245 hw) (w21 hw) (w246 hw) (by decide) pd_16 rfl (k_nbf l Z a0 hE cs.length h (by omega)) (fun _ q => (nomatch q)) (fun q => ⟨q, fun _ q => (nomatch q)⟩) rfl rfl (Nat.le_of_ble_eq_true rfl) (Nat.le_of_ble_eq_true rfl) (Nat.le_of_ble_eq_true rfl) (Nat.le_of_ble_eq_true rfl) d_jdk_52_method_14_1 rfl rfl (oldK fun v h1 hq K2 => ?_)
  obtain ⟨t, rfl, ht, At, -⟩ := hq
  show W B h1 1 72 (t :: M) (true, []) 4 #[.val (.ref b), .val (.int (0 : Int32)), .val (.int cs.length.toInt32), .unset, .unset] [(.ref t)]
  refine W.astoreN ok (pc' := 5) (L' := #[.val (.ref b), .val (.int (0 : Int32)), .val (.int cs.length.toInt32), .val (.ref t), .unset]) d_jdk_52_method_14_4 rfl rfl rfl ?_
  refine W.iconst ok (pc' := 6) (0 : Int32) d_jdk_52_method_14_5 rfl rfl ?_
  refine W.istore ok (pc' := 8) (L' := #[.val (.ref b), .val (.int (0 : Int32)), .val (.int cs.length.toInt32), .val (.ref t), .val (.int (0 : Int32))]) d_jdk_52_method_14_6 rfl rfl ?_
  have ltb := Ab.gt
  have hbt : b ≠ t := ane (by omega)
  have loop : ∀ (m i : Nat) (hh : Heap) (cl : Cl), i + m = cs.length → ArI Z hh b .char cs → ArI Z hh t .byte (wide (cs.take i) ++ List.replicate (2 * m) 0) → W B hh 1 72 (t :: M) cl 8 #[.val (.ref b), .val (.int i.toInt32), .val (.int cs.length.toInt32), .val (.ref t), .val (.int i.toInt32)] [] := by
    intro m
    induction m with
    | zero =>
      intro i hh cl hi Ab At
      refine W.iload ok (pc' := 10) d_jdk_52_method_14_8 rfl rfl ?_
      refine W.iloadN ok (pc' := 11) d_jdk_52_method_14_10 rfl rfl ?_
      refine W.icmpge ok (pcY := 32) (pcN := 14) d_jdk_52_method_14_11 rfl (by decide) rfl (fun q => absurd q (by rw [i32_lt (by omega) (by omega)]; omega)) (fun _ => ?_)
      refine W.aloadN ok (pc' := 33) d_jdk_52_method_14_32 rfl rfl rfl ?_
      exact W.retA ok d_jdk_52_method_14_33 rfl rfl (Nat.le_of_ble_eq_true rfl) (Nat.le_of_ble_eq_true rfl) (fun x (q : x ∈ M) => (List.mem_cons_of_mem _ q)) (fun kp => ⟨t, rfl, ht, At.cast (by rw [show i = cs.length by omega]; simp)⟩)
    | succ m ih =>
      intro i hh cl hi Ab At
      have li : i < cs.length := by omega
      obtain ⟨c, hc⟩ := at_lt li
      refine W.iload ok (pc' := 10) d_jdk_52_method_14_8 rfl rfl ?_
      refine W.iloadN ok (pc' := 11) d_jdk_52_method_14_10 rfl rfl ?_
      refine W.icmpge ok (pcY := 32) (pcN := 14) d_jdk_52_method_14_11 rfl (by decide) rfl (fun _ => ?_) (fun q => absurd ((i32_lt (by omega) (by omega)).mpr (by omega)) q)
      refine W.aloadN ok (pc' := 15) d_jdk_52_method_14_14 rfl rfl rfl ?_
      refine W.iload ok (pc' := 17) d_jdk_52_method_14_15 rfl rfl ?_
      refine W.aloadN ok (pc' := 18) d_jdk_52_method_14_17 rfl rfl rfl ?_
      refine W.iloadN ok (pc' := 19) d_jdk_52_method_14_18 rfl rfl ?_
      refine W.caload ok (pc' := 20) Ab c (i32_nn (by omega)) (by rw [nat_i32 (by omega)]; exact hc) d_jdk_52_method_14_19 rfl ?_
      refine W.callS ok (rest := []) (cl' := cl) (pc' := 23) (w251 hw) (w252 hw) (w21 hw) (w253 hw) (by decide) pd_13 rfl (k_putChar l Z a0 hE t (wide (cs.take i) ++ List.replicate (2 * (m + 1)) 0) i c hh At (by simp [wide_length]; omega) (by simp [wide_length]; omega)) (fun w q => by simp only [List.mem_cons, List.not_mem_nil, or_false] at q; subst q; exact ⟨(List.mem_cons_self ..), (Or.inr ht)⟩) (fun q => ⟨q, fun w q => by simp only [List.mem_cons, List.not_mem_nil, or_false] at q; subst q; exact ht⟩) rfl rfl (Nat.le_of_ble_eq_true rfl) (Nat.le_of_ble_eq_true rfl) (Nat.le_of_ble_eq_true rfl) (Nat.le_of_ble_eq_true rfl) d_jdk_52_method_14_20 rfl rfl (oldK fun v h3 hq K4 => ?_)
      obtain ⟨rfl, A2⟩ := hq
      show W B h3 1 72 (t :: M) cl 23 #[.val (.ref b), .val (.int i.toInt32), .val (.int cs.length.toInt32), .val (.ref t), .val (.int i.toInt32)] []
      refine W.iinc ok (pc' := 26) (L' := #[.val (.ref b), .val (.int (i.toInt32 + (1 : Int32))), .val (.int cs.length.toInt32), .val (.ref t), .val (.int i.toInt32)]) (1 : Int32) d_jdk_52_method_14_23 rfl rfl rfl rfl ?_
      refine W.iinc ok (pc' := 29) (L' := #[.val (.ref b), .val (.int (i.toInt32 + (1 : Int32))), .val (.int cs.length.toInt32), .val (.ref t), .val (.int (i.toInt32 + (1 : Int32)))]) (1 : Int32) d_jdk_52_method_14_26 rfl rfl rfl rfl ?_
      refine W.goto ok (pc' := 8) d_jdk_52_method_14_29 (by decide) rfl ?_
      rw [i32_succ]
      exact ih (i + 1) _ _ (by omega) (Ab.keep K4 (by simp; exact hbt)) (A2.cast (wfill_step hc))
  exact loop cs.length 0 _ _ (by omega) (Ab.ext (ext_keep K2)) (At.cast (by simp [Wk.wide]))
set_option maxRecDepth 65536 in
set_option maxHeartbeats 4000000 in
theorem k_cmp3L (l : Launch) (Z : State) (a0 : Array Value) (hE : Ev Z a0) (b : Addr) (cs : List Int32) (h : Heap) (Ab : ArI Z h b .char cs) (hcap : cs.length ≤ 3) (hlat : ∀ c ∈ cs, c.toInt ≤ 255) : Con l Z false (⟨"java/lang/StringUTF16", "compress", "([CII)[B"⟩ : MethodName) jdk_52_method_16_code 6 (some (.array .byte)) ({ frames := 1, cells := 1, slots := 3, locals := 18 } : Room) [(.ref b), (.int (0 : Int32)), (.int cs.length.toInt32)] h [] false (fun M v h' => ∃ t, v = some (.ref t) ∧ h.size ≤ t ∧ ArI Z h' t .byte (cs.map b8)) := by
  have hw := hE.1
  refine Con.intro (L0 := #[.val (.ref b), .val (.int (0 : Int32)), .val (.int cs.length.toInt32), .unset, .unset, .unset]) (by decide +kernel) (fun m => ef_of rfl) ?_
  intro B M hwsM ok
  have ltb := Ab.gt
  refine W.iloadN ok (pc' := 1) d_jdk_52_method_16_0 rfl rfl ?_
  refine W.newB ok (pc' := 3) (cap := 3) (w23 hw) (i32_nn (by omega)) (by rw [nat_i32 (by omega)]; omega) (by decide) d_jdk_52_method_16_1 rfl (Nat.le_of_ble_eq_true rfl) (Nat.le_of_ble_eq_true rfl) (fun a1 h2 z3 ea4 E5 A6 => ?_)
  replace A6 := A6.cast (cs' := List.replicate cs.length 0) (by rw [nat_i32 (by omega)])
  refine W.astoreN ok (pc' := 4) (L' := #[.val (.ref b), .val (.int (0 : Int32)), .val (.int cs.length.toInt32), .val (.ref a1), .unset, .unset]) d_jdk_52_method_16_3 rfl rfl rfl ?_
  refine W.aloadN ok (pc' := 5) d_jdk_52_method_16_4 rfl rfl rfl ?_
  refine W.iloadN ok (pc' := 6) d_jdk_52_method_16_5 rfl rfl ?_
  refine W.aloadN ok (pc' := 7) d_jdk_52_method_16_6 rfl rfl rfl ?_
  refine W.iconst ok (pc' := 8) (0 : Int32) d_jdk_52_method_16_7 rfl rfl ?_
  refine W.iloadN ok (pc' := 9) d_jdk_52_method_16_8 rfl rfl ?_
  refine W.callS ok (rest := []) (cl' := (true, [])) (pc' := 12) (w24 hw) (w25 hw) (w21 hw) (w26 hw) (by decide) pd_31 rfl (k_cmpL l Z a0 hE b a1 cs h2 (Ab.ext E5) A6 (ane (by omega)) (by omega) hlat) (fun w q => by simp only [List.mem_cons, List.not_mem_nil, or_false] at q; subst q; exact ⟨(List.mem_cons_self ..), (Or.inr z3)⟩) (fun q => ⟨q, fun w q => by simp only [List.mem_cons, List.not_mem_nil, or_false] at q; subst q; exact z3⟩) rfl rfl (Nat.le_of_ble_eq_true rfl) (Nat.le_of_ble_eq_true rfl) (Nat.le_of_ble_eq_true rfl) (Nat.le_of_ble_eq_true rfl) d_jdk_52_method_16_9 rfl rfl (oldK fun v h7 hq K8 => ?_)
  obtain ⟨rfl, A2⟩ := hq
  show W B h7 1 3 (a1 :: M) (true, []) 12 #[.val (.ref b), .val (.int (0 : Int32)), .val (.int cs.length.toInt32), .val (.ref a1), .unset, .unset] [(.int cs.length.toInt32)]
  refine W.istore ok (pc' := 14) (L' := #[.val (.ref b), .val (.int (0 : Int32)), .val (.int cs.length.toInt32), .val (.ref a1), .val (.int cs.length.toInt32), .unset]) d_jdk_52_method_16_12 rfl rfl ?_
  refine W.iload ok (pc' := 16) d_jdk_52_method_16_14 rfl rfl ?_
  refine W.iloadN ok (pc' := 17) d_jdk_52_method_16_16 rfl rfl ?_
  refine W.icmpeq ok (pcY := 57) (pcN := 20) d_jdk_52_method_16_17 rfl (by decide) rfl (fun _ => ?_) (fun q => absurd rfl q)
  refine W.aloadN ok (pc' := 58) d_jdk_52_method_16_57 rfl rfl rfl ?_
  exact W.retA ok d_jdk_52_method_16_58 rfl rfl (Nat.le_of_ble_eq_true rfl) (Nat.le_of_ble_eq_true rfl) (fun x (q : x ∈ M) => (List.mem_cons_of_mem _ q)) (fun kp => ⟨a1, rfl, Nat.le_of_eq ea4, A2⟩)
set_option maxRecDepth 65536 in
set_option maxHeartbeats 4000000 in
theorem k_cmp3W (l : Launch) (Z : State) (a0 : Array Value) (hE : Ev Z a0) (b : Addr) (cs : List Int32) (q : Nat) (cq : Int32) (h : Heap) (Ab : ArI Z h b .char cs) (hcap : cs.length ≤ 3) (hq : cs[q]? = some cq) (hcq : 255 < cq.toInt) (hpre : ∀ (j : Nat) (c : Int32), j < q → cs[j]? = some c → c.toInt ≤ 255) : Con l Z false (⟨"java/lang/StringUTF16", "compress", "([CII)[B"⟩ : MethodName) jdk_52_method_16_code 6 (some (.array .byte)) ({ frames := 3, cells := 2, slots := 75, locals := 40 } : Room) [(.ref b), (.int (0 : Int32)), (.int cs.length.toInt32)] h [] false (fun M v h' => ∃ t, v = some (.ref t) ∧ h.size ≤ t ∧ ArI Z h' t .byte (wide cs)) := by
  have hw := hE.1
  refine Con.intro (L0 := #[.val (.ref b), .val (.int (0 : Int32)), .val (.int cs.length.toInt32), .unset, .unset, .unset]) (by decide +kernel) (fun m => ef_of rfl) ?_
  intro B M hwsM ok
  have ltb := Ab.gt
  refine W.iloadN ok (pc' := 1) d_jdk_52_method_16_0 rfl rfl ?_
  refine W.newB ok (pc' := 3) (cap := 3) (w23 hw) (i32_nn (by omega)) (by rw [nat_i32 (by omega)]; omega) (by decide) d_jdk_52_method_16_1 rfl (Nat.le_of_ble_eq_true rfl) (Nat.le_of_ble_eq_true rfl) (fun a1 h2 z3 ea4 E5 A6 => ?_)
  replace A6 := A6.cast (cs' := List.replicate cs.length 0) (by rw [nat_i32 (by omega)])
  refine W.astoreN ok (pc' := 4) (L' := #[.val (.ref b), .val (.int (0 : Int32)), .val (.int cs.length.toInt32), .val (.ref a1), .unset, .unset]) d_jdk_52_method_16_3 rfl rfl rfl ?_
  refine W.aloadN ok (pc' := 5) d_jdk_52_method_16_4 rfl rfl rfl ?_
  refine W.iloadN ok (pc' := 6) d_jdk_52_method_16_5 rfl rfl ?_
  refine W.aloadN ok (pc' := 7) d_jdk_52_method_16_6 rfl rfl rfl ?_
  refine W.iconst ok (pc' := 8) (0 : Int32) d_jdk_52_method_16_7 rfl rfl ?_
  refine W.iloadN ok (pc' := 9) d_jdk_52_method_16_8 rfl rfl ?_
  have lq := lt_of_at hq
  refine W.callS ok (rest := []) (cl' := (true, [])) (pc' := 12) (w24 hw) (w25 hw) (w21 hw) (w26 hw) (by decide) pd_31 rfl (k_cmpW l Z a0 hE b a1 cs q cq h2 (Ab.ext E5) A6 (ane (by omega)) (by omega) hq hcq hpre) (fun w q => by simp only [List.mem_cons, List.not_mem_nil, or_false] at q; subst q; exact ⟨(List.mem_cons_self ..), (Or.inr z3)⟩) (fun q => ⟨q, fun w q => by simp only [List.mem_cons, List.not_mem_nil, or_false] at q; subst q; exact z3⟩) rfl rfl (Nat.le_of_ble_eq_true rfl) (Nat.le_of_ble_eq_true rfl) (Nat.le_of_ble_eq_true rfl) (Nat.le_of_ble_eq_true rfl) d_jdk_52_method_16_9 rfl rfl (oldK fun v h7 hq K8 => ?_)
  obtain rfl := hq
  show W B h7 1 3 (a1 :: M) (true, []) 12 #[.val (.ref b), .val (.int (0 : Int32)), .val (.int cs.length.toInt32), .val (.ref a1), .unset, .unset] [(.int q.toInt32)]
  refine W.istore ok (pc' := 14) (L' := #[.val (.ref b), .val (.int (0 : Int32)), .val (.int cs.length.toInt32), .val (.ref a1), .val (.int q.toInt32), .unset]) d_jdk_52_method_16_12 rfl rfl ?_
  refine W.iload ok (pc' := 16) d_jdk_52_method_16_14 rfl rfl ?_
  refine W.iloadN ok (pc' := 17) d_jdk_52_method_16_16 rfl rfl ?_
  refine W.icmpeq ok (pcY := 57) (pcN := 20) d_jdk_52_method_16_17 rfl (by decide) rfl (fun q => absurd q (by rw [i32_inj (by omega) (by omega)]; omega)) (fun _ => ?_)
  refine W.aloadN ok (pc' := 21) d_jdk_52_method_16_20 rfl rfl rfl ?_
  refine W.iloadN ok (pc' := 22) d_jdk_52_method_16_21 rfl rfl ?_
  refine W.iloadN ok (pc' := 23) d_jdk_52_method_16_22 rfl rfl ?_
  have le1 := E5.1
  have le2 := K8.1
  refine W.callS ok (rest := []) (cl' := (true, [])) (pc' := 26) (w241 hw) (w242 hw) (w21 hw) (w243 hw) (by decide) pd_32 rfl (k_toB3 l Z a0 hE b cs h7 ((Ab.ext E5).keep K8 (nin1 (by omega))) hcap) (fun _ q => (nomatch q)) (fun q => ⟨q, fun _ q => (nomatch q)⟩) rfl rfl (Nat.le_of_ble_eq_true rfl) (Nat.le_of_ble_eq_true rfl) (Nat.le_of_ble_eq_true rfl) (Nat.le_of_ble_eq_true rfl) d_jdk_52_method_16_23 rfl rfl (oldK fun v h9 hq K10 => ?_)
  obtain ⟨t, rfl, ht, At⟩ := hq
  show W B h9 2 75 (a1 :: M) (true, []) 26 #[.val (.ref b), .val (.int (0 : Int32)), .val (.int cs.length.toInt32), .val (.ref a1), .val (.int q.toInt32), .unset] [(.ref t)]
  refine W.astore ok (pc' := 28) (L' := #[.val (.ref b), .val (.int (0 : Int32)), .val (.int cs.length.toInt32), .val (.ref a1), .val (.int q.toInt32), .val (.ref t)]) d_jdk_52_method_16_26 rfl rfl rfl ?_
  refine W.aload ok (pc' := 30) d_jdk_52_method_16_28 rfl rfl rfl ?_
  refine W.iload ok (pc' := 32) d_jdk_52_method_16_30 rfl rfl ?_
  refine W.callS ok (rest := []) (cl' := (true, [])) (pc' := 35) (w257 hw) (w258 hw) (w21 hw) (w259 hw) (by decide) pd_10 rfl (k_getChar l Z a0 hE t (wide cs) q (b8 cq) (b8 (cq >>> ((8 : Int32) &&& 31))) h9 At (wide_at cs q cq hq).1 (wide_at cs q cq hq).2 (by rw [wide_length]; omega)) (fun _ q => (nomatch q)) (fun q => ⟨q, fun _ q => (nomatch q)⟩) rfl rfl (Nat.le_of_ble_eq_true rfl) (Nat.le_of_ble_eq_true rfl) (Nat.le_of_ble_eq_true rfl) (Nat.le_of_ble_eq_true rfl) d_jdk_52_method_16_32 rfl rfl (pureK ?_)
  show W B h9 2 75 (a1 :: M) (true, []) 35 #[.val (.ref b), .val (.int (0 : Int32)), .val (.int cs.length.toInt32), .val (.ref a1), .val (.int q.toInt32), .val (.ref t)] [(.int (c16 (((b8 cq &&& 255) <<< ((0 : Int32) &&& 31)) ||| ((b8 (cq >>> ((8 : Int32) &&& 31)) &&& 255) <<< ((8 : Int32) &&& 31)))))]
  rw [pair (fits_char_rng (Ab.fit cq (mem_of_at hq)))]
  refine W.sipush ok (pc' := 38) (255 : Int32) d_jdk_52_method_16_35 rfl rfl ?_
  refine W.icmpgt ok (pcY := 54) (pcN := 41) d_jdk_52_method_16_38 rfl (by decide) rfl (fun _ => ?_) (fun q => absurd (gt255 hcq) q)
  refine W.aload ok (pc' := 56) d_jdk_52_method_16_54 rfl rfl rfl ?_
  exact W.retA ok d_jdk_52_method_16_56 rfl rfl (Nat.le_of_ble_eq_true rfl) (Nat.le_of_ble_eq_true rfl) (fun x (q : x ∈ M) => (List.mem_cons_of_mem _ q)) (fun kp => ⟨t, rfl, by omega, At⟩)
set_option maxRecDepth 65536 in
set_option maxHeartbeats 4000000 in
theorem k_cLen (l : Launch) (Z : State) (a0 : Array Value) (hE : Ev Z a0) (t : Addr) (bs : List Int32) (n : Int32) (h : Heap) (A : ArI Z h t .byte bs) : Con l Z false (⟨"java/lang/StringUTF16", "coderFromArrayLen", "([BI)B"⟩ : MethodName) jdk_52_method_15_code 2 (some .byte) ({ frames := 0, cells := 0, slots := 0, locals := 0 } : Room) [(.ref t), (.int n)] h [] false (fun M v h' => v = some (.int (b8 (XT.ushr (n - bs.length.toInt32) (31 : Int32)))) ∧ h' = h) := by
  have hw := hE.1
  refine Con.intro (L0 := #[.val (.ref t), .val (.int n)]) (by decide +kernel) (fun m => ef_of rfl) ?_
  intro B M hwsM ok
  refine W.iloadN ok (pc' := 1) d_jdk_52_method_15_0 rfl rfl ?_
  refine W.aloadN ok (pc' := 2) d_jdk_52_method_15_1 rfl rfl rfl ?_
  refine W.lenI ok (pc' := 3) A bs.length.toInt32 rfl d_jdk_52_method_15_2 rfl ?_
  refine W.isub ok (pc' := 4) d_jdk_52_method_15_3 rfl ?_
  refine W.bipush ok (pc' := 6) (31 : Int32) d_jdk_52_method_15_4 rfl rfl ?_
  refine W.iushr ok (pc' := 7) d_jdk_52_method_15_6 rfl ?_
  refine W.i2b ok (pc' := 8) d_jdk_52_method_15_7 rfl ?_
  exact W.retB ok d_jdk_52_method_15_8 (b8_b8 _) (Nat.le_of_ble_eq_true rfl) (Nat.le_of_ble_eq_true rfl) (fun x (q : x ∈ M) => q) (fun kp => ⟨rfl, rfl⟩)
set_option maxRecDepth 65536 in
set_option maxHeartbeats 4000000 in
theorem k_init4 (l : Launch) (Z : State) (a0 : Array Value) (hE : Ev Z a0) (a b : Addr) (cs : List Int32) (h : Heap) (X : Exa Z h a ST) (F1 : Fld Z h a ST "value" "[B" .null) (F2 : Fld Z h a ST "coder" "B" (.int 0)) (Ab : ArI Z h b .char cs) (hcap : cs.length ≤ 3) : Con l Z false (⟨"java/lang/String", "<init>", "([CIILjava/lang/Void;)V"⟩ : MethodName) jdk_42_method_149_code 6 none ({ frames := 4, cells := 4, slots := 75, locals := 57 } : Room) [(.ref a), (.ref b), (.int (0 : Int32)), (.int cs.length.toInt32), .null] h [a] false (fun M v h' => v = none ∧ ∃ t cd bs, t ∉ M ∧ Fld Z h' a ST "value" "[B" (.ref t) ∧ Fld Z h' a ST "coder" "B" (.int cd) ∧ ArI Z h' t .byte bs ∧ Cod cd cs bs) := by
  have hw := hE.1
  refine Con.intro (L0 := #[.val (.ref a), .val (.ref b), .val (.int (0 : Int32)), .val (.int cs.length.toInt32), .val .null, .unset]) (by decide +kernel) (fun m => ef_of rfl) ?_
  intro B M hwsM ok
  refine W.lt fun hM => ?_
  have lta := gtE X
  have ltb := Ab.gt
  have haM : a ∈ M := hwsM _ (List.mem_cons_self ..)
  have ne1 := Exa.neArI X (w6 hw) Ab
  have rc : ∀ c ∈ cs, 0 ≤ c.toInt ∧ c.toInt ≤ 65535 := fun c hc => fits_char_rng (Ab.fit c hc)
  refine W.aloadN ok (pc' := 1) d_jdk_42_method_149_0 rfl rfl rfl ?_
  refine W.initO ok (pc' := 4) (w15 hw) (w16 hw) (w17 hw) rfl (Nat.le_of_ble_eq_true rfl) (Nat.le_of_ble_eq_true rfl) d_jdk_42_method_149_1 rfl ?_
  refine W.iloadN ok (pc' := 5) d_jdk_42_method_149_4 rfl rfl ?_
  refine W.ifne ok (pcY := 27) (pcN := 8) d_jdk_42_method_149_5 rfl (by decide) rfl (fun c0 => ?_) (fun c0 => ?_)
  · have e0 : cs = [] := List.length_eq_zero_iff.mp (by have := (i32_inj (a := cs.length) (b := 0) (by omega) (by omega)).mp c0; exact this)
    subst e0
    refine W.aloadN ok (pc' := 9) d_jdk_42_method_149_8 rfl rfl rfl ?_
    refine W.ldcS ok (pc' := 11) rfl (text := "") (sz := 0) (w238 hw) (fun d hd => hw d ((by decide +kernel : ∀ d ∈ Bundle.stringAtoms, d ∈ tables_1) d hd)) (hE.held _ (List.mem_of_getElem? (i := 11) rfl)) hE.cw (by decide) (Or.inl rfl) (by decide) (by decide) d_jdk_42_method_149_9 rfl (Nat.le_of_ble_eq_true rfl) (Nat.le_of_ble_eq_true rfl) (fun a1 h2 E3 S1 => ?_)
    have S1' := S1
    obtain ⟨t1, cd1, bs1, n1, n2, n3, n4, n5, n6, n7⟩ := S1'
    refine W.getF ok (pc' := 14) (w32 hw) Via.refl n4 d_jdk_42_method_149_11 rfl ?_
    have hat : t1 ≠ a := fun e => n2 (e ▸ haM)
    refine W.putF ok (pc' := 17) (cl' := (false, ("java/lang/String", 7) :: [])) (w32 hw) Via.refl (F1.ext E3) (X.ext E3) (Or.inr ⟨(w33 hw), rfl, rfl⟩) (w6 hw) (ty := (.array .byte)) (by decide) rfl rfl (hwsM _ (List.mem_of_getElem? (i := 0) rfl)) (Or.inl (List.mem_of_getElem? (i := 0) rfl)) (fun q => by cases q) rfl d_jdk_42_method_149_14 rfl (fun h4 W5 => ?_)
    refine W.aloadN ok (pc' := 18) d_jdk_42_method_149_17 rfl rfl rfl ?_
    refine W.ldcS ok (pc' := 20) rfl (text := "") (sz := 0) (w238 hw) (fun d hd => hw d ((by decide +kernel : ∀ d ∈ Bundle.stringAtoms, d ∈ tables_1) d hd)) (hE.held _ (List.mem_of_getElem? (i := 11) rfl)) hE.cw (by decide) (Or.inr (by simp)) (by decide) (by decide) d_jdk_42_method_149_18 rfl (Nat.le_of_ble_eq_true rfl) (Nat.le_of_ble_eq_true rfl) (fun a6 h7 E8 S2 => ?_)
    obtain ⟨t2, cd2, bs2, m1, m2, m3, m4, m5, m6, m7⟩ := S2
    have e7 : cd2 = 0 := by rcases m7 with ⟨q, -⟩ | ⟨-, -, -, q⟩; · exact q
                            · simp [chs] at q
    subst e7
    refine W.getF ok (pc' := 23) (w30 hw) Via.refl m5 d_jdk_42_method_149_20 rfl ?_
    refine W.putF ok (pc' := 26) (cl' := (false, ("java/lang/String", 7) :: ("java/lang/String", 7) :: [])) (w30 hw) Via.refl ((F2.ext E3).other W5 (Or.inr (slot_ne (Or.inr (w31 hw)) (Or.inr (w33 hw)) (by decide) (t := .byte) (by decide) (t' := (.array .byte)) (by decide))) |>.ext E8) (((X.ext E3).wr W5).ext E8) (Or.inr ⟨(w31 hw), rfl, rfl⟩) (w6 hw) (ty := .byte) (by decide) (by first | rfl | assumption) (by first | rfl | assumption) (hwsM _ (List.mem_of_getElem? (i := 0) rfl)) (Or.inl (List.mem_of_getElem? (i := 0) rfl)) (fun q => by cases q) rfl d_jdk_42_method_149_23 rfl (fun h9 W10 => ?_)
    have e8 : cd1 = 0 := by rcases n7 with ⟨q, -⟩ | ⟨-, -, -, q⟩; · exact q
                            · simp [chs] at q
    subst e8
    exact W.retV ok d_jdk_42_method_149_26 (Nat.le_of_ble_eq_true rfl) (Nat.le_of_ble_eq_true rfl) (fun x (q : x ∈ M) => q) (fun kp => ⟨rfl, t1, 0, bs1, n2, ((((F1.ext E3).same W5).ext E8).other W10 (Or.inr (slot_ne (Or.inr (w33 hw)) (Or.inr (w31 hw)) (by decide) (t := (.array .byte)) (by decide) (t' := .byte) (by decide)))), (((F2.ext E3).other W5 (Or.inr (slot_ne (Or.inr (w31 hw)) (Or.inr (w33 hw)) (by decide) (t := .byte) (by decide) (t' := (.array .byte)) (by decide)))).ext E8).same W10, (((n6.other W5 hat).ext E8).other W10 hat), n7⟩)
  · have hne : cs ≠ [] := fun e => c0 (by rw [e]; rfl)
    have hpos : 0 < cs.length := List.length_pos_iff.mpr hne
    rcases three cs with hlat | ⟨q, cq, hq, hcq, hpre⟩
    · obtain ⟨g, hg, Fg⟩ := hE.compact
      refine W.getS ok (pc' := 30) (w18 hw) Via.refl Fg d_jdk_42_method_149_27 rfl ?_
      refine W.ifeq ok (pcY := 58) (pcN := 33) d_jdk_42_method_149_30 rfl (by decide) rfl (fun q => absurd q hg) (fun _ => ?_)
      refine W.aloadN ok (pc' := 34) d_jdk_42_method_149_33 rfl rfl rfl ?_
      refine W.iloadN ok (pc' := 35) d_jdk_42_method_149_34 rfl rfl ?_
      refine W.iloadN ok (pc' := 36) d_jdk_42_method_149_35 rfl rfl ?_
      refine W.callS ok (rest := []) (cl' := (true, [])) (pc' := 39) (w19 hw) (w20 hw) (w21 hw) (w22 hw) (by decide) pd_32 rfl (k_cmp3L l Z a0 hE b cs h Ab hcap hlat) (fun _ q => (nomatch q)) (fun q => ⟨q, fun _ q => (nomatch q)⟩) rfl rfl (Nat.le_of_ble_eq_true rfl) (Nat.le_of_ble_eq_true rfl) (Nat.le_of_ble_eq_true rfl) (Nat.le_of_ble_eq_true rfl) d_jdk_42_method_149_36 rfl rfl (oldK fun v h11 hq K12 => ?_)
      obtain ⟨t, rfl, ht, At⟩ := hq
      show W B h11 1 3 M (true, []) 39 #[.val (.ref a), .val (.ref b), .val (.int (0 : Int32)), .val (.int cs.length.toInt32), .val .null, .unset] [(.ref t)]
      refine W.astore ok (pc' := 41) (L' := #[.val (.ref a), .val (.ref b), .val (.int (0 : Int32)), .val (.int cs.length.toInt32), .val .null, .val (.ref t)]) d_jdk_42_method_149_39 rfl rfl rfl ?_
      refine W.aloadN ok (pc' := 42) d_jdk_42_method_149_41 rfl rfl rfl ?_
      refine W.aload ok (pc' := 44) d_jdk_42_method_149_42 rfl rfl rfl ?_
      refine W.iloadN ok (pc' := 45) d_jdk_42_method_149_44 rfl rfl ?_
      refine W.callS ok (rest := [(.ref a)]) (cl' := (true, [])) (pc' := 48) (w27 hw) (w28 hw) (w21 hw) (w29 hw) (by decide) pd_33 rfl (k_cLen l Z a0 hE t (cs.map b8) cs.length.toInt32 h11 At) (fun _ q => (nomatch q)) (fun q => ⟨q, fun _ q => (nomatch q)⟩) rfl rfl (Nat.le_of_ble_eq_true rfl) (Nat.le_of_ble_eq_true rfl) (Nat.le_of_ble_eq_true rfl) (Nat.le_of_ble_eq_true rfl) d_jdk_42_method_149_45 rfl rfl (pureK ?_)
      show W B h11 1 3 M (true, []) 48 #[.val (.ref a), .val (.ref b), .val (.int (0 : Int32)), .val (.int cs.length.toInt32), .val .null, .val (.ref t)] [(.int (b8 (XT.ushr (cs.length.toInt32 - (cs.map b8).length.toInt32) (31 : Int32)))), (.ref a)]
      rw [show b8 (XT.ushr (cs.length.toInt32 - (cs.map b8).length.toInt32) (31 : Int32)) = 0 by rw [List.length_map, Int32.sub_self]; exact ushr31_zero]
      have ltt := At.gt
      refine W.putF ok (pc' := 51) (cl' := (false, [])) (w30 hw) Via.refl (F2.ext (ext_keep K12)) (X.ext (ext_keep K12)) (Or.inr ⟨(w31 hw), rfl, rfl⟩) (w6 hw) (ty := .byte) (by decide) (by first | rfl | assumption) (by first | rfl | assumption) (hwsM _ (List.mem_of_getElem? (i := 0) rfl)) (Or.inl (List.mem_of_getElem? (i := 0) rfl)) (fun q => by cases q) rfl d_jdk_42_method_149_48 rfl (fun h13 W14 => ?_)
      refine W.aloadN ok (pc' := 52) d_jdk_42_method_149_51 rfl rfl rfl ?_
      refine W.aload ok (pc' := 54) d_jdk_42_method_149_52 rfl rfl rfl ?_
      refine W.putF ok (pc' := 57) (cl' := (false, [])) (w32 hw) Via.refl ((F1.ext (ext_keep K12)).other W14 (Or.inr (slot_ne (Or.inr (w33 hw)) (Or.inr (w31 hw)) (by decide) (t := (.array .byte)) (by decide) (t' := .byte) (by decide)))) ((X.ext (ext_keep K12)).wr W14) (Or.inr ⟨(w33 hw), rfl, rfl⟩) (w6 hw) (ty := (.array .byte)) (by decide) rfl rfl (hwsM _ (List.mem_of_getElem? (i := 0) rfl)) (Or.inl (List.mem_of_getElem? (i := 0) rfl)) (fun q => by cases q) rfl d_jdk_42_method_149_54 rfl (fun h15 W16 => ?_)
      exact W.retV ok d_jdk_42_method_149_57 (Nat.le_of_ble_eq_true rfl) (Nat.le_of_ble_eq_true rfl) (fun x (q : x ∈ M) => q) (fun kp => ⟨rfl, t, (0 : Int32), _, fun q => absurd (hM _ q) (by omega), ((F1.ext (ext_keep K12)).other W14 (Or.inr (slot_ne (Or.inr (w33 hw)) (Or.inr (w31 hw)) (by decide) (t := (.array .byte)) (by decide) (t' := .byte) (by decide)))).same W16, ((F2.ext (ext_keep K12)).same W14).other W16 (Or.inr (slot_ne (Or.inr (w31 hw)) (Or.inr (w33 hw)) (by decide) (t := .byte) (by decide) (t' := (.array .byte)) (by decide))), (At.other W14 (ane (by omega))).other W16 (ane (by omega)), Or.inl ⟨rfl, rfl, fun c hc => ⟨(rc c hc).1, hlat c hc⟩⟩⟩)
    · obtain ⟨g, hg, Fg⟩ := hE.compact
      refine W.getS ok (pc' := 30) (w18 hw) Via.refl Fg d_jdk_42_method_149_27 rfl ?_
      refine W.ifeq ok (pcY := 58) (pcN := 33) d_jdk_42_method_149_30 rfl (by decide) rfl (fun q => absurd q hg) (fun _ => ?_)
      refine W.aloadN ok (pc' := 34) d_jdk_42_method_149_33 rfl rfl rfl ?_
      refine W.iloadN ok (pc' := 35) d_jdk_42_method_149_34 rfl rfl ?_
      refine W.iloadN ok (pc' := 36) d_jdk_42_method_149_35 rfl rfl ?_
      refine W.callS ok (rest := []) (cl' := (true, [])) (pc' := 39) (w19 hw) (w20 hw) (w21 hw) (w22 hw) (by decide) pd_32 rfl (k_cmp3W l Z a0 hE b cs q cq h Ab hcap hq hcq hpre) (fun _ q => (nomatch q)) (fun q => ⟨q, fun _ q => (nomatch q)⟩) rfl rfl (Nat.le_of_ble_eq_true rfl) (Nat.le_of_ble_eq_true rfl) (Nat.le_of_ble_eq_true rfl) (Nat.le_of_ble_eq_true rfl) d_jdk_42_method_149_36 rfl rfl (oldK fun v h17 hq K18 => ?_)
      obtain ⟨t, rfl, ht, At⟩ := hq
      show W B h17 2 75 M (true, []) 39 #[.val (.ref a), .val (.ref b), .val (.int (0 : Int32)), .val (.int cs.length.toInt32), .val .null, .unset] [(.ref t)]
      refine W.astore ok (pc' := 41) (L' := #[.val (.ref a), .val (.ref b), .val (.int (0 : Int32)), .val (.int cs.length.toInt32), .val .null, .val (.ref t)]) d_jdk_42_method_149_39 rfl rfl rfl ?_
      refine W.aloadN ok (pc' := 42) d_jdk_42_method_149_41 rfl rfl rfl ?_
      refine W.aload ok (pc' := 44) d_jdk_42_method_149_42 rfl rfl rfl ?_
      refine W.iloadN ok (pc' := 45) d_jdk_42_method_149_44 rfl rfl ?_
      refine W.callS ok (rest := [(.ref a)]) (cl' := (true, [])) (pc' := 48) (w27 hw) (w28 hw) (w21 hw) (w29 hw) (by decide) pd_33 rfl (k_cLen l Z a0 hE t (wide cs) cs.length.toInt32 h17 At) (fun _ q => (nomatch q)) (fun q => ⟨q, fun _ q => (nomatch q)⟩) rfl rfl (Nat.le_of_ble_eq_true rfl) (Nat.le_of_ble_eq_true rfl) (Nat.le_of_ble_eq_true rfl) (Nat.le_of_ble_eq_true rfl) d_jdk_42_method_149_45 rfl rfl (pureK ?_)
      show W B h17 2 75 M (true, []) 48 #[.val (.ref a), .val (.ref b), .val (.int (0 : Int32)), .val (.int cs.length.toInt32), .val .null, .val (.ref t)] [(.int (b8 (XT.ushr (cs.length.toInt32 - (wide cs).length.toInt32) (31 : Int32)))), (.ref a)]
      rw [show b8 (XT.ushr (cs.length.toInt32 - (wide cs).length.toInt32) (31 : Int32)) = 1 by rw [wide_length]; exact ushr_len hpos (by omega)]
      have ltt := At.gt
      refine W.putF ok (pc' := 51) (cl' := (false, [])) (w30 hw) Via.refl (F2.ext (ext_keep K18)) (X.ext (ext_keep K18)) (Or.inr ⟨(w31 hw), rfl, rfl⟩) (w6 hw) (ty := .byte) (by decide) (by first | rfl | assumption) (by first | rfl | assumption) (hwsM _ (List.mem_of_getElem? (i := 0) rfl)) (Or.inl (List.mem_of_getElem? (i := 0) rfl)) (fun q => by cases q) rfl d_jdk_42_method_149_48 rfl (fun h19 W20 => ?_)
      refine W.aloadN ok (pc' := 52) d_jdk_42_method_149_51 rfl rfl rfl ?_
      refine W.aload ok (pc' := 54) d_jdk_42_method_149_52 rfl rfl rfl ?_
      refine W.putF ok (pc' := 57) (cl' := (false, [])) (w32 hw) Via.refl ((F1.ext (ext_keep K18)).other W20 (Or.inr (slot_ne (Or.inr (w33 hw)) (Or.inr (w31 hw)) (by decide) (t := (.array .byte)) (by decide) (t' := .byte) (by decide)))) ((X.ext (ext_keep K18)).wr W20) (Or.inr ⟨(w33 hw), rfl, rfl⟩) (w6 hw) (ty := (.array .byte)) (by decide) rfl rfl (hwsM _ (List.mem_of_getElem? (i := 0) rfl)) (Or.inl (List.mem_of_getElem? (i := 0) rfl)) (fun q => by cases q) rfl d_jdk_42_method_149_54 rfl (fun h21 W22 => ?_)
      exact W.retV ok d_jdk_42_method_149_57 (Nat.le_of_ble_eq_true rfl) (Nat.le_of_ble_eq_true rfl) (fun x (q : x ∈ M) => q) (fun kp => ⟨rfl, t, (1 : Int32), _, fun q => absurd (hM _ q) (by omega), ((F1.ext (ext_keep K18)).other W20 (Or.inr (slot_ne (Or.inr (w33 hw)) (Or.inr (w31 hw)) (by decide) (t := (.array .byte)) (by decide) (t' := .byte) (by decide)))).same W22, ((F2.ext (ext_keep K18)).same W20).other W22 (Or.inr (slot_ne (Or.inr (w31 hw)) (Or.inr (w33 hw)) (by decide) (t := .byte) (by decide) (t' := (.array .byte)) (by decide))), (At.other W20 (ane (by omega))).other W22 (ane (by omega)), Or.inr ⟨rfl, rfl, rc, cq, mem_of_at hq, hcq⟩⟩)
set_option maxRecDepth 65536 in
set_option maxHeartbeats 4000000 in
theorem k_initC (l : Launch) (Z : State) (a0 : Array Value) (hE : Ev Z a0) (a b : Addr) (cs : List Int32) (h : Heap) (X : Exa Z h a ST) (F1 : Fld Z h a ST "value" "[B" .null) (F2 : Fld Z h a ST "coder" "B" (.int 0)) (Ab : ArI Z h b .char cs) (hcap : cs.length ≤ 3) : Con l Z false (⟨"java/lang/String", "<init>", "([C)V"⟩ : MethodName) jdk_42_method_3_code 2 none ({ frames := 5, cells := 4, slots := 75, locals := 74 } : Room) [(.ref a), (.ref b)] h [a] false (fun M v h' => v = none ∧ ∃ t cd bs, t ∉ M ∧ Fld Z h' a ST "value" "[B" (.ref t) ∧ Fld Z h' a ST "coder" "B" (.int cd) ∧ ArI Z h' t .byte bs ∧ Cod cd cs bs) := by
  have hw := hE.1
  refine Con.intro (L0 := #[.val (.ref a), .val (.ref b)]) (by decide +kernel) (fun m => ef_of rfl) ?_
  intro B M hwsM ok
  refine W.aloadN ok (pc' := 1) d_jdk_42_method_3_0 rfl rfl rfl ?_
  refine W.aloadN ok (pc' := 2) d_jdk_42_method_3_1 rfl rfl rfl ?_
  refine W.iconst ok (pc' := 3) (0 : Int32) d_jdk_42_method_3_2 rfl rfl ?_
  refine W.aloadN ok (pc' := 4) d_jdk_42_method_3_3 rfl rfl rfl ?_
  refine W.lenI ok (pc' := 5) Ab cs.length.toInt32 rfl d_jdk_42_method_3_4 rfl ?_
  refine W.aconstNull ok (pc' := 6) d_jdk_42_method_3_5 rfl ?_
  refine W.callI ok (rest := []) (cl' := (false, [])) (pc' := 9) rfl (w11 hw) (w12 hw) (w7 hw) (w14 hw) (by decide) pd_34 rfl (k_init4 l Z a0 hE a b cs h X F1 F2 Ab hcap) (fun w q => by simp only [List.mem_cons, List.not_mem_nil, or_false] at q; subst q; exact ⟨(hwsM _ (List.mem_of_getElem? (i := 0) rfl)), (Or.inl (List.mem_of_getElem? (i := 0) rfl))⟩) (fun q => by cases q) rfl rfl (Nat.le_of_ble_eq_true rfl) (Nat.le_of_ble_eq_true rfl) (Nat.le_of_ble_eq_true rfl) (Nat.le_of_ble_eq_true rfl) d_jdk_42_method_3_6 rfl rfl (oldK fun v h1 hq K2 => ?_)
  obtain ⟨rfl, hq⟩ := hq
  show W B h1 4 75 M (false, []) 9 #[.val (.ref a), .val (.ref b)] []
  exact W.retV ok d_jdk_42_method_3_9 (Nat.le_of_ble_eq_true rfl) (Nat.le_of_ble_eq_true rfl) (fun x (q : x ∈ M) => q) (fun kp => ⟨rfl, hq⟩)
set_option maxRecDepth 65536 in
set_option maxHeartbeats 4000000 in
theorem k_pick (l : Launch) (Z : State) (a0 : Array Value) (hE : Ev Z a0) (p : Int32) (h : Heap)  : Con l Z false (⟨"copperpot/web/HtmlTemplateEscapePinLaw", "pick", "(I)C"⟩ : MethodName) method_3_code 2 (some .char) ({ frames := 0, cells := 0, slots := 0, locals := 0 } : Room) [(.int p)] h [] false (fun M v h' => v = some (.int (pk p)) ∧ h' = h) := by
  have hw := hE.1
  refine Con.intro (L0 := #[.val (.int p), .unset]) (by decide +kernel) (fun m => ef_of rfl) ?_
  intro B M hwsM ok
  refine W.iloadN ok (pc' := 1) d_method_3_0 rfl rfl ?_
  refine W.bipush ok (pc' := 3) (7 : Int32) d_method_3_1 rfl rfl ?_
  refine W.iand ok (pc' := 4) d_method_3_3 rfl ?_
  refine W.istoreN ok (pc' := 5) (L' := #[.val (.int p), .val (.int (p &&& (7 : Int32)))]) d_method_3_4 rfl rfl ?_
  refine W.iloadN ok (pc' := 6) d_method_3_5 rfl rfl ?_
  refine W.ifne ok (pcY := 12) (pcN := 9) d_method_3_6 rfl (by decide) rfl (fun c0 => ?_) (fun c0 => ?_)
  · refine W.bipush ok (pc' := 11) (38 : Int32) d_method_3_9 rfl rfl ?_
    exact W.retC ok d_method_3_11 rfl (Nat.le_of_ble_eq_true rfl) (Nat.le_of_ble_eq_true rfl) (fun x (q : x ∈ M) => q) (fun kp => ⟨by rw [pk, if_pos c0], rfl⟩)
  · refine W.iloadN ok (pc' := 13) d_method_3_12 rfl rfl ?_
    refine W.iconst ok (pc' := 14) (1 : Int32) d_method_3_13 rfl rfl ?_
    refine W.icmpne ok (pcY := 20) (pcN := 17) d_method_3_14 rfl (by decide) rfl (fun c1 => ?_) (fun c1 => ?_)
    · refine W.bipush ok (pc' := 19) (60 : Int32) d_method_3_17 rfl rfl ?_
      exact W.retC ok d_method_3_19 rfl (Nat.le_of_ble_eq_true rfl) (Nat.le_of_ble_eq_true rfl) (fun x (q : x ∈ M) => q) (fun kp => ⟨by rw [pk, if_neg c0, if_pos c1], rfl⟩)
    · refine W.iloadN ok (pc' := 21) d_method_3_20 rfl rfl ?_
      refine W.iconst ok (pc' := 22) (2 : Int32) d_method_3_21 rfl rfl ?_
      refine W.icmpne ok (pcY := 28) (pcN := 25) d_method_3_22 rfl (by decide) rfl (fun c2 => ?_) (fun c2 => ?_)
      · refine W.bipush ok (pc' := 27) (62 : Int32) d_method_3_25 rfl rfl ?_
        exact W.retC ok d_method_3_27 rfl (Nat.le_of_ble_eq_true rfl) (Nat.le_of_ble_eq_true rfl) (fun x (q : x ∈ M) => q) (fun kp => ⟨by rw [pk, if_neg c0, if_neg c1, if_pos c2], rfl⟩)
      · refine W.iloadN ok (pc' := 29) d_method_3_28 rfl rfl ?_
        refine W.iconst ok (pc' := 30) (3 : Int32) d_method_3_29 rfl rfl ?_
        refine W.icmpne ok (pcY := 36) (pcN := 33) d_method_3_30 rfl (by decide) rfl (fun c3 => ?_) (fun c3 => ?_)
        · refine W.bipush ok (pc' := 35) (34 : Int32) d_method_3_33 rfl rfl ?_
          exact W.retC ok d_method_3_35 rfl (Nat.le_of_ble_eq_true rfl) (Nat.le_of_ble_eq_true rfl) (fun x (q : x ∈ M) => q) (fun kp => ⟨by rw [pk, if_neg c0, if_neg c1, if_neg c2, if_pos c3], rfl⟩)
        · refine W.iloadN ok (pc' := 37) d_method_3_36 rfl rfl ?_
          refine W.iconst ok (pc' := 38) (4 : Int32) d_method_3_37 rfl rfl ?_
          refine W.icmpne ok (pcY := 44) (pcN := 41) d_method_3_38 rfl (by decide) rfl (fun c4 => ?_) (fun c4 => ?_)
          · refine W.bipush ok (pc' := 43) (39 : Int32) d_method_3_41 rfl rfl ?_
            exact W.retC ok d_method_3_43 rfl (Nat.le_of_ble_eq_true rfl) (Nat.le_of_ble_eq_true rfl) (fun x (q : x ∈ M) => q) (fun kp => ⟨by rw [pk, if_neg c0, if_neg c1, if_neg c2, if_neg c3, if_pos c4], rfl⟩)
          · refine W.iloadN ok (pc' := 45) d_method_3_44 rfl rfl ?_
            refine W.iconst ok (pc' := 46) (3 : Int32) d_method_3_45 rfl rfl ?_
            refine W.iushr ok (pc' := 47) d_method_3_46 rfl ?_
            refine W.i2c ok (pc' := 48) d_method_3_47 rfl ?_
            exact W.retC ok d_method_3_48 (c16_c16 _) (Nat.le_of_ble_eq_true rfl) (Nat.le_of_ble_eq_true rfl) (fun x (q : x ∈ M) => q) (fun kp => ⟨by rw [pk, if_neg c0, if_neg c1, if_neg c2, if_neg c3, if_neg c4], rfl⟩)
set_option maxRecDepth 65536 in
set_option maxHeartbeats 4000000 in
theorem k_piece (l : Launch) (Z : State) (a0 : Array Value) (hE : Ev Z a0) (c : Int32) (h : Heap) (hc : 0 ≤ c.toInt ∧ c.toInt ≤ 65535) : Con l Z false (⟨"copperpot/web/HtmlTemplateEscapePinLaw", "piece", "(C)Ljava/lang/String;"⟩ : MethodName) method_4_code 1 (some (.object "java/lang/String")) ({ frames := 3, cells := 2, slots := 28, locals := 41 } : Room) [(.int c)] h [] false (fun M v h' => ∃ r, v = some (.ref r) ∧ StrM Z h' M r (pc c)) := by
  have hw := hE.1
  refine Con.intro (L0 := #[.val (.int c)]) (by decide +kernel) (fun m => ef_of rfl) ?_
  intro B M hwsM ok
  refine W.iloadN ok (pc' := 1) d_method_4_0 rfl rfl ?_
  refine W.bipush ok (pc' := 3) (38 : Int32) d_method_4_1 rfl rfl ?_
  refine W.icmpne ok (pcY := 9) (pcN := 6) d_method_4_3 rfl (by decide) rfl (fun c38 => ?_) (fun c38 => ?_)
  · subst c38
    refine W.ldcS ok (pc' := 8) rfl (text := "&amp;") (sz := 20) (w197 hw) (fun d hd => hw d ((by decide +kernel : ∀ d ∈ Bundle.stringAtoms, d ∈ tables_1) d hd)) (hE.held _ (List.mem_of_getElem? (i := 6) rfl)) hE.cw (by decide) (Or.inl rfl) (by decide) (by decide) d_method_4_6 rfl (Nat.le_of_ble_eq_true rfl) (Nat.le_of_ble_eq_true rfl) (fun a1 h2 E3 S1 => ?_)
    exact W.retA ok d_method_4_8 rfl rfl (Nat.le_of_ble_eq_true rfl) (Nat.le_of_ble_eq_true rfl) (fun x (q : x ∈ M) => q) (fun kp => ⟨a1, rfl, S1.cast (by decide)⟩)
  · refine W.iloadN ok (pc' := 10) d_method_4_9 rfl rfl ?_
    refine W.bipush ok (pc' := 12) (60 : Int32) d_method_4_10 rfl rfl ?_
    refine W.icmpne ok (pcY := 18) (pcN := 15) d_method_4_12 rfl (by decide) rfl (fun c60 => ?_) (fun c60 => ?_)
    · subst c60
      refine W.ldcS ok (pc' := 17) rfl (text := "&lt;") (sz := 16) (w240 hw) (fun d hd => hw d ((by decide +kernel : ∀ d ∈ Bundle.stringAtoms, d ∈ tables_1) d hd)) (hE.held _ (List.mem_of_getElem? (i := 7) rfl)) hE.cw (by decide) (Or.inl rfl) (by decide) (by decide) d_method_4_15 rfl (Nat.le_of_ble_eq_true rfl) (Nat.le_of_ble_eq_true rfl) (fun a4 h5 E6 S1 => ?_)
      exact W.retA ok d_method_4_17 rfl rfl (Nat.le_of_ble_eq_true rfl) (Nat.le_of_ble_eq_true rfl) (fun x (q : x ∈ M) => q) (fun kp => ⟨a4, rfl, S1.cast (by decide)⟩)
    · refine W.iloadN ok (pc' := 19) d_method_4_18 rfl rfl ?_
      refine W.bipush ok (pc' := 21) (62 : Int32) d_method_4_19 rfl rfl ?_
      refine W.icmpne ok (pcY := 27) (pcN := 24) d_method_4_21 rfl (by decide) rfl (fun c62 => ?_) (fun c62 => ?_)
      · subst c62
        refine W.ldcS ok (pc' := 26) rfl (text := "&gt;") (sz := 16) (w300 hw) (fun d hd => hw d ((by decide +kernel : ∀ d ∈ Bundle.stringAtoms, d ∈ tables_1) d hd)) (hE.held _ (List.mem_of_getElem? (i := 8) rfl)) hE.cw (by decide) (Or.inl rfl) (by decide) (by decide) d_method_4_24 rfl (Nat.le_of_ble_eq_true rfl) (Nat.le_of_ble_eq_true rfl) (fun a7 h8 E9 S1 => ?_)
        exact W.retA ok d_method_4_26 rfl rfl (Nat.le_of_ble_eq_true rfl) (Nat.le_of_ble_eq_true rfl) (fun x (q : x ∈ M) => q) (fun kp => ⟨a7, rfl, S1.cast (by decide)⟩)
      · refine W.iloadN ok (pc' := 28) d_method_4_27 rfl rfl ?_
        refine W.bipush ok (pc' := 30) (34 : Int32) d_method_4_28 rfl rfl ?_
        refine W.icmpne ok (pcY := 36) (pcN := 33) d_method_4_30 rfl (by decide) rfl (fun c34 => ?_) (fun c34 => ?_)
        · subst c34
          refine W.ldcS ok (pc' := 35) rfl (text := "&quot;") (sz := 24) (w213 hw) (fun d hd => hw d ((by decide +kernel : ∀ d ∈ Bundle.stringAtoms, d ∈ tables_1) d hd)) (hE.held _ (List.mem_of_getElem? (i := 9) rfl)) hE.cw (by decide) (Or.inl rfl) (by decide) (by decide) d_method_4_33 rfl (Nat.le_of_ble_eq_true rfl) (Nat.le_of_ble_eq_true rfl) (fun a10 h11 E12 S1 => ?_)
          exact W.retA ok d_method_4_35 rfl rfl (Nat.le_of_ble_eq_true rfl) (Nat.le_of_ble_eq_true rfl) (fun x (q : x ∈ M) => q) (fun kp => ⟨a10, rfl, S1.cast (by decide)⟩)
        · refine W.iloadN ok (pc' := 37) d_method_4_36 rfl rfl ?_
          refine W.bipush ok (pc' := 39) (39 : Int32) d_method_4_37 rfl rfl ?_
          refine W.icmpne ok (pcY := 45) (pcN := 42) d_method_4_39 rfl (by decide) rfl (fun c39 => ?_) (fun c39 => ?_)
          · subst c39
            refine W.ldcS ok (pc' := 44) rfl (text := "&#39;") (sz := 20) (w212 hw) (fun d hd => hw d ((by decide +kernel : ∀ d ∈ Bundle.stringAtoms, d ∈ tables_1) d hd)) (hE.held _ (List.mem_of_getElem? (i := 10) rfl)) hE.cw (by decide) (Or.inl rfl) (by decide) (by decide) d_method_4_42 rfl (Nat.le_of_ble_eq_true rfl) (Nat.le_of_ble_eq_true rfl) (fun a13 h14 E15 S1 => ?_)
            exact W.retA ok d_method_4_44 rfl rfl (Nat.le_of_ble_eq_true rfl) (Nat.le_of_ble_eq_true rfl) (fun x (q : x ∈ M) => q) (fun kp => ⟨a13, rfl, S1.cast (by decide)⟩)
          · have ep : pc c = [c] := by rw [pc, if_neg c38, if_neg c60, if_neg c62, if_neg c34, if_neg c39]
            rcases Int.lt_or_le 255 c.toInt with q | q
            · refine W.iloadN ok (pc' := 46) d_method_4_45 rfl rfl ?_
              refine W.callS ok (rest := []) (cl' := (true, [])) (pc' := 49) (w227 hw) (w228 hw) (w7 hw) (w229 hw) (by decide) pd_35 rfl (k_valW l Z a0 hE c h ⟨q, hc.2⟩) (fun _ q => (nomatch q)) (fun q => ⟨q, fun _ q => (nomatch q)⟩) rfl rfl (Nat.le_of_ble_eq_true rfl) (Nat.le_of_ble_eq_true rfl) (Nat.le_of_ble_eq_true rfl) (Nat.le_of_ble_eq_true rfl) d_method_4_46 rfl rfl (oldK fun v h16 hq K17 => ?_)
              obtain ⟨r, rfl, -, S1⟩ := hq
              show W B h16 2 6 M (true, []) 49 #[.val (.int c)] [(.ref r)]
              exact W.retA ok d_method_4_49 rfl rfl (Nat.le_of_ble_eq_true rfl) (Nat.le_of_ble_eq_true rfl) (fun x (q : x ∈ M) => q) (fun kp => ⟨r, rfl, S1.cast ep.symm⟩)
            · refine W.iloadN ok (pc' := 46) d_method_4_45 rfl rfl ?_
              refine W.callS ok (rest := []) (cl' := (true, [])) (pc' := 49) (w227 hw) (w228 hw) (w7 hw) (w229 hw) (by decide) pd_35 rfl (k_valL l Z a0 hE c h ⟨hc.1, q⟩) (fun _ q => (nomatch q)) (fun q => ⟨q, fun _ q => (nomatch q)⟩) rfl rfl (Nat.le_of_ble_eq_true rfl) (Nat.le_of_ble_eq_true rfl) (Nat.le_of_ble_eq_true rfl) (Nat.le_of_ble_eq_true rfl) d_method_4_46 rfl rfl (oldK fun v h18 hq K19 => ?_)
              obtain ⟨r, rfl, -, S1⟩ := hq
              show W B h18 2 5 M (true, []) 49 #[.val (.int c)] [(.ref r)]
              exact W.retA ok d_method_4_49 rfl rfl (Nat.le_of_ble_eq_true rfl) (Nat.le_of_ble_eq_true rfl) (fun x (q : x ∈ M) => q) (fun kp => ⟨r, rfl, S1.cast ep.symm⟩)
set_option maxRecDepth 65536 in
set_option maxHeartbeats 4000000 in
theorem k_at (l : Launch) (Z : State) (a0 : Array Value) (hE : Ev Z a0) (m s : Addr) (cs ds : List Int32) (iN : Nat) (h : Heap) (S : Str Z h m cs) (T : Str Z h s ds) (l1 : cs.length < 100) (l2 : ds.length ≤ 6) (hi : ∀ (j : Nat) (c : Int32), ds[j]? = some c → cs[iN + j]? = some c) : Con l Z false (⟨"copperpot/web/HtmlTemplateEscapePinLaw", "at", "(Ljava/lang/String;ILjava/lang/String;)Z"⟩ : MethodName) method_5_code 3 (some .boolean) ({ frames := 5, cells := 0, slots := 0, locals := 67 } : Room) [(.ref m), (.int iN.toInt32), (.ref s)] h [] false (fun M v h' => v = some (.int 1) ∧ h' = h) := by
  have hw := hE.1
  refine Con.intro (L0 := #[.val (.ref m), .val (.int iN.toInt32), .val (.ref s)]) (by decide +kernel) (fun m => ef_of rfl) ?_
  intro B M hwsM ok
  have Xm := S.exa
  have Xs := T.exa
  have seg6 : W B h 0 0 M (true, []) 147 #[.val (.ref m), .val (.int iN.toInt32), .val (.ref s)] [] := by
    refine W.iconst ok (pc' := 148) (1 : Int32) d_method_5_147 rfl rfl ?_
    exact W.retZ ok d_method_5_148 rfl (Nat.le_of_ble_eq_true rfl) (Nat.le_of_ble_eq_true rfl) (fun x (q : x ∈ M) => q) (fun kp => ⟨rfl, rfl⟩)
  have seg5 : W B h 0 0 M (true, []) 122 #[.val (.ref m), .val (.int iN.toInt32), .val (.ref s)] [] := by
    refine W.aloadN ok (pc' := 123) d_method_5_122 rfl rfl rfl ?_
    refine W.callV ok (rest := []) (cl' := (true, [])) (pc' := 126) (w199 hw) (w42 hw) (w44 hw) (w43 hw) (w7 hw) (w45 hw) (by decide) Xs pd_1 rfl (k_length l Z a0 hE s ds h T (by omega)) (fun _ q => (nomatch q)) (fun q => ⟨q, fun _ q => (nomatch q)⟩) rfl rfl (Nat.le_of_ble_eq_true rfl) (Nat.le_of_ble_eq_true rfl) (Nat.le_of_ble_eq_true rfl) (Nat.le_of_ble_eq_true rfl) d_method_5_123 rfl rfl (pureK ?_)
    show W B h 0 0 M (true, []) 126 #[.val (.ref m), .val (.int iN.toInt32), .val (.ref s)] [(.int ds.length.toInt32)]
    refine W.iconst ok (pc' := 127) (5 : Int32) d_method_5_126 rfl rfl ?_
    refine W.icmple ok (pcY := 147) (pcN := 130) d_method_5_127 rfl (by decide) rfl (fun c1 => ?_) (fun c1 => ?_)
    · have l0 : 5 < ds.length := (i32_lt (a := 5) (by omega) (by omega)).mp c1
      obtain ⟨d0, h0⟩ := at_lt l0
      have k0 := hi 5 d0 h0
      refine W.aloadN ok (pc' := 131) d_method_5_130 rfl rfl rfl ?_
      refine W.iloadN ok (pc' := 132) d_method_5_131 rfl rfl ?_
      refine W.iconst ok (pc' := 133) (5 : Int32) d_method_5_132 rfl rfl ?_
      refine W.iadd ok (pc' := 134) d_method_5_133 rfl ?_
      rw [show iN.toInt32 + (5 : Int32) = (iN + 5).toInt32 from i32_add (a := iN) (b := 5)]
      refine W.callV ok (rest := []) (cl' := (true, [])) (pc' := 137) (w203 hw) (w67 hw) (w69 hw) (w68 hw) (w7 hw) (w70 hw) (by decide) Xm pd_36 rfl (k_charAt l Z a0 hE m cs (iN + 5) d0 h S k0 (by omega)) (fun _ q => (nomatch q)) (fun q => ⟨q, fun _ q => (nomatch q)⟩) rfl rfl (Nat.le_of_ble_eq_true rfl) (Nat.le_of_ble_eq_true rfl) (Nat.le_of_ble_eq_true rfl) (Nat.le_of_ble_eq_true rfl) d_method_5_134 rfl rfl (pureK ?_)
      show W B h 0 0 M (true, []) 137 #[.val (.ref m), .val (.int iN.toInt32), .val (.ref s)] [(.int d0)]
      refine W.aloadN ok (pc' := 138) d_method_5_137 rfl rfl rfl ?_
      refine W.iconst ok (pc' := 139) (5 : Int32) d_method_5_138 rfl rfl ?_
      refine W.callV ok (rest := [(.int d0)]) (cl' := (true, [])) (pc' := 142) (w203 hw) (w67 hw) (w69 hw) (w68 hw) (w7 hw) (w70 hw) (by decide) Xs pd_36 rfl (k_charAt l Z a0 hE s ds 5 d0 h T h0 (by omega)) (fun _ q => (nomatch q)) (fun q => ⟨q, fun _ q => (nomatch q)⟩) rfl rfl (Nat.le_of_ble_eq_true rfl) (Nat.le_of_ble_eq_true rfl) (Nat.le_of_ble_eq_true rfl) (Nat.le_of_ble_eq_true rfl) d_method_5_139 rfl rfl (pureK ?_)
      show W B h 0 0 M (true, []) 142 #[.val (.ref m), .val (.int iN.toInt32), .val (.ref s)] [(.int d0), (.int d0)]
      refine W.icmpeq ok (pcY := 147) (pcN := 145) d_method_5_142 rfl (by decide) rfl (fun _ => ?_) (fun q => absurd rfl q)
      exact seg6
    · exact seg6
  have seg4 : W B h 0 0 M (true, []) 97 #[.val (.ref m), .val (.int iN.toInt32), .val (.ref s)] [] := by
    refine W.aloadN ok (pc' := 98) d_method_5_97 rfl rfl rfl ?_
    refine W.callV ok (rest := []) (cl' := (true, [])) (pc' := 101) (w199 hw) (w42 hw) (w44 hw) (w43 hw) (w7 hw) (w45 hw) (by decide) Xs pd_1 rfl (k_length l Z a0 hE s ds h T (by omega)) (fun _ q => (nomatch q)) (fun q => ⟨q, fun _ q => (nomatch q)⟩) rfl rfl (Nat.le_of_ble_eq_true rfl) (Nat.le_of_ble_eq_true rfl) (Nat.le_of_ble_eq_true rfl) (Nat.le_of_ble_eq_true rfl) d_method_5_98 rfl rfl (pureK ?_)
    show W B h 0 0 M (true, []) 101 #[.val (.ref m), .val (.int iN.toInt32), .val (.ref s)] [(.int ds.length.toInt32)]
    refine W.iconst ok (pc' := 102) (4 : Int32) d_method_5_101 rfl rfl ?_
    refine W.icmple ok (pcY := 122) (pcN := 105) d_method_5_102 rfl (by decide) rfl (fun c1 => ?_) (fun c1 => ?_)
    · have l0 : 4 < ds.length := (i32_lt (a := 4) (by omega) (by omega)).mp c1
      obtain ⟨d0, h0⟩ := at_lt l0
      have k0 := hi 4 d0 h0
      refine W.aloadN ok (pc' := 106) d_method_5_105 rfl rfl rfl ?_
      refine W.iloadN ok (pc' := 107) d_method_5_106 rfl rfl ?_
      refine W.iconst ok (pc' := 108) (4 : Int32) d_method_5_107 rfl rfl ?_
      refine W.iadd ok (pc' := 109) d_method_5_108 rfl ?_
      rw [show iN.toInt32 + (4 : Int32) = (iN + 4).toInt32 from i32_add (a := iN) (b := 4)]
      refine W.callV ok (rest := []) (cl' := (true, [])) (pc' := 112) (w203 hw) (w67 hw) (w69 hw) (w68 hw) (w7 hw) (w70 hw) (by decide) Xm pd_36 rfl (k_charAt l Z a0 hE m cs (iN + 4) d0 h S k0 (by omega)) (fun _ q => (nomatch q)) (fun q => ⟨q, fun _ q => (nomatch q)⟩) rfl rfl (Nat.le_of_ble_eq_true rfl) (Nat.le_of_ble_eq_true rfl) (Nat.le_of_ble_eq_true rfl) (Nat.le_of_ble_eq_true rfl) d_method_5_109 rfl rfl (pureK ?_)
      show W B h 0 0 M (true, []) 112 #[.val (.ref m), .val (.int iN.toInt32), .val (.ref s)] [(.int d0)]
      refine W.aloadN ok (pc' := 113) d_method_5_112 rfl rfl rfl ?_
      refine W.iconst ok (pc' := 114) (4 : Int32) d_method_5_113 rfl rfl ?_
      refine W.callV ok (rest := [(.int d0)]) (cl' := (true, [])) (pc' := 117) (w203 hw) (w67 hw) (w69 hw) (w68 hw) (w7 hw) (w70 hw) (by decide) Xs pd_36 rfl (k_charAt l Z a0 hE s ds 4 d0 h T h0 (by omega)) (fun _ q => (nomatch q)) (fun q => ⟨q, fun _ q => (nomatch q)⟩) rfl rfl (Nat.le_of_ble_eq_true rfl) (Nat.le_of_ble_eq_true rfl) (Nat.le_of_ble_eq_true rfl) (Nat.le_of_ble_eq_true rfl) d_method_5_114 rfl rfl (pureK ?_)
      show W B h 0 0 M (true, []) 117 #[.val (.ref m), .val (.int iN.toInt32), .val (.ref s)] [(.int d0), (.int d0)]
      refine W.icmpeq ok (pcY := 122) (pcN := 120) d_method_5_117 rfl (by decide) rfl (fun _ => ?_) (fun q => absurd rfl q)
      exact seg5
    · exact seg5
  have seg3 : W B h 0 0 M (true, []) 72 #[.val (.ref m), .val (.int iN.toInt32), .val (.ref s)] [] := by
    refine W.aloadN ok (pc' := 73) d_method_5_72 rfl rfl rfl ?_
    refine W.callV ok (rest := []) (cl' := (true, [])) (pc' := 76) (w199 hw) (w42 hw) (w44 hw) (w43 hw) (w7 hw) (w45 hw) (by decide) Xs pd_1 rfl (k_length l Z a0 hE s ds h T (by omega)) (fun _ q => (nomatch q)) (fun q => ⟨q, fun _ q => (nomatch q)⟩) rfl rfl (Nat.le_of_ble_eq_true rfl) (Nat.le_of_ble_eq_true rfl) (Nat.le_of_ble_eq_true rfl) (Nat.le_of_ble_eq_true rfl) d_method_5_73 rfl rfl (pureK ?_)
    show W B h 0 0 M (true, []) 76 #[.val (.ref m), .val (.int iN.toInt32), .val (.ref s)] [(.int ds.length.toInt32)]
    refine W.iconst ok (pc' := 77) (3 : Int32) d_method_5_76 rfl rfl ?_
    refine W.icmple ok (pcY := 97) (pcN := 80) d_method_5_77 rfl (by decide) rfl (fun c1 => ?_) (fun c1 => ?_)
    · have l0 : 3 < ds.length := (i32_lt (a := 3) (by omega) (by omega)).mp c1
      obtain ⟨d0, h0⟩ := at_lt l0
      have k0 := hi 3 d0 h0
      refine W.aloadN ok (pc' := 81) d_method_5_80 rfl rfl rfl ?_
      refine W.iloadN ok (pc' := 82) d_method_5_81 rfl rfl ?_
      refine W.iconst ok (pc' := 83) (3 : Int32) d_method_5_82 rfl rfl ?_
      refine W.iadd ok (pc' := 84) d_method_5_83 rfl ?_
      rw [show iN.toInt32 + (3 : Int32) = (iN + 3).toInt32 from i32_add (a := iN) (b := 3)]
      refine W.callV ok (rest := []) (cl' := (true, [])) (pc' := 87) (w203 hw) (w67 hw) (w69 hw) (w68 hw) (w7 hw) (w70 hw) (by decide) Xm pd_36 rfl (k_charAt l Z a0 hE m cs (iN + 3) d0 h S k0 (by omega)) (fun _ q => (nomatch q)) (fun q => ⟨q, fun _ q => (nomatch q)⟩) rfl rfl (Nat.le_of_ble_eq_true rfl) (Nat.le_of_ble_eq_true rfl) (Nat.le_of_ble_eq_true rfl) (Nat.le_of_ble_eq_true rfl) d_method_5_84 rfl rfl (pureK ?_)
      show W B h 0 0 M (true, []) 87 #[.val (.ref m), .val (.int iN.toInt32), .val (.ref s)] [(.int d0)]
      refine W.aloadN ok (pc' := 88) d_method_5_87 rfl rfl rfl ?_
      refine W.iconst ok (pc' := 89) (3 : Int32) d_method_5_88 rfl rfl ?_
      refine W.callV ok (rest := [(.int d0)]) (cl' := (true, [])) (pc' := 92) (w203 hw) (w67 hw) (w69 hw) (w68 hw) (w7 hw) (w70 hw) (by decide) Xs pd_36 rfl (k_charAt l Z a0 hE s ds 3 d0 h T h0 (by omega)) (fun _ q => (nomatch q)) (fun q => ⟨q, fun _ q => (nomatch q)⟩) rfl rfl (Nat.le_of_ble_eq_true rfl) (Nat.le_of_ble_eq_true rfl) (Nat.le_of_ble_eq_true rfl) (Nat.le_of_ble_eq_true rfl) d_method_5_89 rfl rfl (pureK ?_)
      show W B h 0 0 M (true, []) 92 #[.val (.ref m), .val (.int iN.toInt32), .val (.ref s)] [(.int d0), (.int d0)]
      refine W.icmpeq ok (pcY := 97) (pcN := 95) d_method_5_92 rfl (by decide) rfl (fun _ => ?_) (fun q => absurd rfl q)
      exact seg4
    · exact seg4
  have seg2 : W B h 0 0 M (true, []) 47 #[.val (.ref m), .val (.int iN.toInt32), .val (.ref s)] [] := by
    refine W.aloadN ok (pc' := 48) d_method_5_47 rfl rfl rfl ?_
    refine W.callV ok (rest := []) (cl' := (true, [])) (pc' := 51) (w199 hw) (w42 hw) (w44 hw) (w43 hw) (w7 hw) (w45 hw) (by decide) Xs pd_1 rfl (k_length l Z a0 hE s ds h T (by omega)) (fun _ q => (nomatch q)) (fun q => ⟨q, fun _ q => (nomatch q)⟩) rfl rfl (Nat.le_of_ble_eq_true rfl) (Nat.le_of_ble_eq_true rfl) (Nat.le_of_ble_eq_true rfl) (Nat.le_of_ble_eq_true rfl) d_method_5_48 rfl rfl (pureK ?_)
    show W B h 0 0 M (true, []) 51 #[.val (.ref m), .val (.int iN.toInt32), .val (.ref s)] [(.int ds.length.toInt32)]
    refine W.iconst ok (pc' := 52) (2 : Int32) d_method_5_51 rfl rfl ?_
    refine W.icmple ok (pcY := 72) (pcN := 55) d_method_5_52 rfl (by decide) rfl (fun c1 => ?_) (fun c1 => ?_)
    · have l0 : 2 < ds.length := (i32_lt (a := 2) (by omega) (by omega)).mp c1
      obtain ⟨d0, h0⟩ := at_lt l0
      have k0 := hi 2 d0 h0
      refine W.aloadN ok (pc' := 56) d_method_5_55 rfl rfl rfl ?_
      refine W.iloadN ok (pc' := 57) d_method_5_56 rfl rfl ?_
      refine W.iconst ok (pc' := 58) (2 : Int32) d_method_5_57 rfl rfl ?_
      refine W.iadd ok (pc' := 59) d_method_5_58 rfl ?_
      rw [show iN.toInt32 + (2 : Int32) = (iN + 2).toInt32 from i32_add (a := iN) (b := 2)]
      refine W.callV ok (rest := []) (cl' := (true, [])) (pc' := 62) (w203 hw) (w67 hw) (w69 hw) (w68 hw) (w7 hw) (w70 hw) (by decide) Xm pd_36 rfl (k_charAt l Z a0 hE m cs (iN + 2) d0 h S k0 (by omega)) (fun _ q => (nomatch q)) (fun q => ⟨q, fun _ q => (nomatch q)⟩) rfl rfl (Nat.le_of_ble_eq_true rfl) (Nat.le_of_ble_eq_true rfl) (Nat.le_of_ble_eq_true rfl) (Nat.le_of_ble_eq_true rfl) d_method_5_59 rfl rfl (pureK ?_)
      show W B h 0 0 M (true, []) 62 #[.val (.ref m), .val (.int iN.toInt32), .val (.ref s)] [(.int d0)]
      refine W.aloadN ok (pc' := 63) d_method_5_62 rfl rfl rfl ?_
      refine W.iconst ok (pc' := 64) (2 : Int32) d_method_5_63 rfl rfl ?_
      refine W.callV ok (rest := [(.int d0)]) (cl' := (true, [])) (pc' := 67) (w203 hw) (w67 hw) (w69 hw) (w68 hw) (w7 hw) (w70 hw) (by decide) Xs pd_36 rfl (k_charAt l Z a0 hE s ds 2 d0 h T h0 (by omega)) (fun _ q => (nomatch q)) (fun q => ⟨q, fun _ q => (nomatch q)⟩) rfl rfl (Nat.le_of_ble_eq_true rfl) (Nat.le_of_ble_eq_true rfl) (Nat.le_of_ble_eq_true rfl) (Nat.le_of_ble_eq_true rfl) d_method_5_64 rfl rfl (pureK ?_)
      show W B h 0 0 M (true, []) 67 #[.val (.ref m), .val (.int iN.toInt32), .val (.ref s)] [(.int d0), (.int d0)]
      refine W.icmpeq ok (pcY := 72) (pcN := 70) d_method_5_67 rfl (by decide) rfl (fun _ => ?_) (fun q => absurd rfl q)
      exact seg3
    · exact seg3
  have seg1 : W B h 0 0 M (true, []) 22 #[.val (.ref m), .val (.int iN.toInt32), .val (.ref s)] [] := by
    refine W.aloadN ok (pc' := 23) d_method_5_22 rfl rfl rfl ?_
    refine W.callV ok (rest := []) (cl' := (true, [])) (pc' := 26) (w199 hw) (w42 hw) (w44 hw) (w43 hw) (w7 hw) (w45 hw) (by decide) Xs pd_1 rfl (k_length l Z a0 hE s ds h T (by omega)) (fun _ q => (nomatch q)) (fun q => ⟨q, fun _ q => (nomatch q)⟩) rfl rfl (Nat.le_of_ble_eq_true rfl) (Nat.le_of_ble_eq_true rfl) (Nat.le_of_ble_eq_true rfl) (Nat.le_of_ble_eq_true rfl) d_method_5_23 rfl rfl (pureK ?_)
    show W B h 0 0 M (true, []) 26 #[.val (.ref m), .val (.int iN.toInt32), .val (.ref s)] [(.int ds.length.toInt32)]
    refine W.iconst ok (pc' := 27) (1 : Int32) d_method_5_26 rfl rfl ?_
    refine W.icmple ok (pcY := 47) (pcN := 30) d_method_5_27 rfl (by decide) rfl (fun c1 => ?_) (fun c1 => ?_)
    · have l0 : 1 < ds.length := (i32_lt (a := 1) (by omega) (by omega)).mp c1
      obtain ⟨d0, h0⟩ := at_lt l0
      have k0 := hi 1 d0 h0
      refine W.aloadN ok (pc' := 31) d_method_5_30 rfl rfl rfl ?_
      refine W.iloadN ok (pc' := 32) d_method_5_31 rfl rfl ?_
      refine W.iconst ok (pc' := 33) (1 : Int32) d_method_5_32 rfl rfl ?_
      refine W.iadd ok (pc' := 34) d_method_5_33 rfl ?_
      rw [show iN.toInt32 + (1 : Int32) = (iN + 1).toInt32 from i32_add (a := iN) (b := 1)]
      refine W.callV ok (rest := []) (cl' := (true, [])) (pc' := 37) (w203 hw) (w67 hw) (w69 hw) (w68 hw) (w7 hw) (w70 hw) (by decide) Xm pd_36 rfl (k_charAt l Z a0 hE m cs (iN + 1) d0 h S k0 (by omega)) (fun _ q => (nomatch q)) (fun q => ⟨q, fun _ q => (nomatch q)⟩) rfl rfl (Nat.le_of_ble_eq_true rfl) (Nat.le_of_ble_eq_true rfl) (Nat.le_of_ble_eq_true rfl) (Nat.le_of_ble_eq_true rfl) d_method_5_34 rfl rfl (pureK ?_)
      show W B h 0 0 M (true, []) 37 #[.val (.ref m), .val (.int iN.toInt32), .val (.ref s)] [(.int d0)]
      refine W.aloadN ok (pc' := 38) d_method_5_37 rfl rfl rfl ?_
      refine W.iconst ok (pc' := 39) (1 : Int32) d_method_5_38 rfl rfl ?_
      refine W.callV ok (rest := [(.int d0)]) (cl' := (true, [])) (pc' := 42) (w203 hw) (w67 hw) (w69 hw) (w68 hw) (w7 hw) (w70 hw) (by decide) Xs pd_36 rfl (k_charAt l Z a0 hE s ds 1 d0 h T h0 (by omega)) (fun _ q => (nomatch q)) (fun q => ⟨q, fun _ q => (nomatch q)⟩) rfl rfl (Nat.le_of_ble_eq_true rfl) (Nat.le_of_ble_eq_true rfl) (Nat.le_of_ble_eq_true rfl) (Nat.le_of_ble_eq_true rfl) d_method_5_39 rfl rfl (pureK ?_)
      show W B h 0 0 M (true, []) 42 #[.val (.ref m), .val (.int iN.toInt32), .val (.ref s)] [(.int d0), (.int d0)]
      refine W.icmpeq ok (pcY := 47) (pcN := 45) d_method_5_42 rfl (by decide) rfl (fun _ => ?_) (fun q => absurd rfl q)
      exact seg2
    · exact seg2
  have seg0 : W B h 0 0 M (true, []) 0 #[.val (.ref m), .val (.int iN.toInt32), .val (.ref s)] [] := by
    refine W.aloadN ok (pc' := 1) d_method_5_0 rfl rfl rfl ?_
    refine W.callV ok (rest := []) (cl' := (true, [])) (pc' := 4) (w199 hw) (w42 hw) (w44 hw) (w43 hw) (w7 hw) (w45 hw) (by decide) Xs pd_1 rfl (k_length l Z a0 hE s ds h T (by omega)) (fun _ q => (nomatch q)) (fun q => ⟨q, fun _ q => (nomatch q)⟩) rfl rfl (Nat.le_of_ble_eq_true rfl) (Nat.le_of_ble_eq_true rfl) (Nat.le_of_ble_eq_true rfl) (Nat.le_of_ble_eq_true rfl) d_method_5_1 rfl rfl (pureK ?_)
    show W B h 0 0 M (true, []) 4 #[.val (.ref m), .val (.int iN.toInt32), .val (.ref s)] [(.int ds.length.toInt32)]
    refine W.ifle ok (pcY := 22) (pcN := 7) d_method_5_4 rfl (by decide) rfl (fun c1 => ?_) (fun c1 => ?_)
    · have l0 : 0 < ds.length := (i32_lt (a := 0) (by omega) (by omega)).mp c1
      obtain ⟨d0, h0⟩ := at_lt l0
      have k0 := hi 0 d0 h0
      refine W.aloadN ok (pc' := 8) d_method_5_7 rfl rfl rfl ?_
      refine W.iloadN ok (pc' := 9) d_method_5_8 rfl rfl ?_
      refine W.callV ok (rest := []) (cl' := (true, [])) (pc' := 12) (w203 hw) (w67 hw) (w69 hw) (w68 hw) (w7 hw) (w70 hw) (by decide) Xm pd_36 rfl (k_charAt l Z a0 hE m cs iN d0 h S k0 (by omega)) (fun _ q => (nomatch q)) (fun q => ⟨q, fun _ q => (nomatch q)⟩) rfl rfl (Nat.le_of_ble_eq_true rfl) (Nat.le_of_ble_eq_true rfl) (Nat.le_of_ble_eq_true rfl) (Nat.le_of_ble_eq_true rfl) d_method_5_9 rfl rfl (pureK ?_)
      show W B h 0 0 M (true, []) 12 #[.val (.ref m), .val (.int iN.toInt32), .val (.ref s)] [(.int d0)]
      refine W.aloadN ok (pc' := 13) d_method_5_12 rfl rfl rfl ?_
      refine W.iconst ok (pc' := 14) (0 : Int32) d_method_5_13 rfl rfl ?_
      refine W.callV ok (rest := [(.int d0)]) (cl' := (true, [])) (pc' := 17) (w203 hw) (w67 hw) (w69 hw) (w68 hw) (w7 hw) (w70 hw) (by decide) Xs pd_36 rfl (k_charAt l Z a0 hE s ds 0 d0 h T h0 (by omega)) (fun _ q => (nomatch q)) (fun q => ⟨q, fun _ q => (nomatch q)⟩) rfl rfl (Nat.le_of_ble_eq_true rfl) (Nat.le_of_ble_eq_true rfl) (Nat.le_of_ble_eq_true rfl) (Nat.le_of_ble_eq_true rfl) d_method_5_14 rfl rfl (pureK ?_)
      show W B h 0 0 M (true, []) 17 #[.val (.ref m), .val (.int iN.toInt32), .val (.ref s)] [(.int d0), (.int d0)]
      refine W.icmpeq ok (pcY := 22) (pcN := 20) d_method_5_17 rfl (by decide) rfl (fun _ => ?_) (fun q => absurd rfl q)
      exact seg1
    · exact seg1
  exact seg0
set_option maxRecDepth 65536 in
set_option maxHeartbeats 4000000 in
theorem k_esc (l : Launch) (Z : State) (a0 : Array Value) (hE : Ev Z a0) (s : Addr) (cs : List Int32) (h : Heap) (T : Str Z h s cs) (hl : cs.length ≤ 3) : Con l Z false (⟨"copperpot/web/HtmlTemplate", "escape", "(Ljava/lang/String;)Ljava/lang/String;"⟩ : MethodName) prog_26_method_4_code 4 (some (.object "java/lang/String")) ({ frames := 9, cells := 13, slots := 479, locals := 132 } : Room) [(.ref s)] h [] false (fun M v h' => ∃ r, v = some (.ref r) ∧ StrM Z h' M r (esc cs)) := by
  have hw := hE.1
  refine Con.intro (L0 := #[.val (.ref s), .unset, .unset, .unset]) (by decide +kernel) (fun m => ef_of rfl) ?_
  intro B M hwsM ok
  have XT := T.exa
  refine W.old ok fun _ le0 => ?_
  refine W.new ok (pc' := 3) (w38 hw) (w39 hw) (w40 hw) d_prog_26_method_4_0 rfl (Nat.le_of_ble_eq_true rfl) (Nat.le_of_ble_eq_true rfl) (fun a1 h2 z3 ea4 E5 X6 D7 U8 => ?_)
  refine W.dup ok (pc' := 4) d_prog_26_method_4_3 rfl rfl ?_
  refine W.aloadN ok (pc' := 5) d_prog_26_method_4_4 rfl rfl rfl ?_
  refine W.callV ok (rest := [(.ref a1), (.ref a1)]) (cl' := (true, [])) (pc' := 8) (w41 hw) (w42 hw) (w44 hw) (w43 hw) (w7 hw) (w45 hw) (by decide) (XT.ext E5) pd_1 rfl (k_length l Z a0 hE s cs h2 (T.ext E5) (by omega)) (fun _ q => (nomatch q)) (fun q => ⟨q, fun _ q => (nomatch q)⟩) rfl rfl (Nat.le_of_ble_eq_true rfl) (Nat.le_of_ble_eq_true rfl) (Nat.le_of_ble_eq_true rfl) (Nat.le_of_ble_eq_true rfl) d_prog_26_method_4_5 rfl rfl (pureK ?_)
  show W B h2 1 4 (a1 :: M) (true, []) 8 #[.val (.ref s), .unset, .unset, .unset] [(.int cs.length.toInt32), (.ref a1), (.ref a1)]
  refine W.callI ok (rest := [(.ref a1)]) (cl' := (true, [])) (pc' := 11) rfl (w51 hw) (w52 hw) (w40 hw) (w53 hw) (by decide) pd_0 rfl (k_gInit l Z a0 hE a1 cs.length h2 X6 (D7 (Or.inl (w63 hw)) (ty := (.array .byte)) (by decide)) (D7 (Or.inl (w65 hw)) (ty := .byte) (by decide)) (D7 (Or.inl (w295 hw)) (ty := .boolean) (by decide)) (D7 (Or.inl (w103 hw)) (ty := .int) (by decide)) hl) (fun w q => by simp only [List.mem_cons, List.not_mem_nil, or_false] at q; subst q; exact ⟨(List.mem_cons_self ..), (Or.inr z3)⟩) (fun q => ⟨q, fun w q => by simp only [List.mem_cons, List.not_mem_nil, or_false] at q; subst q; exact z3⟩) rfl rfl (Nat.le_of_ble_eq_true rfl) (Nat.le_of_ble_eq_true rfl) (Nat.le_of_ble_eq_true rfl) (Nat.le_of_ble_eq_true rfl) d_prog_26_method_4_8 rfl rfl (fun N11 v h9 hq K10 => ?_)
  obtain ⟨t0, rfl, ht0, rfl, S⟩ := hq
  show W B h9 2 7 (t0 :: (a1 :: M)) (true, []) 11 #[.val (.ref s), .unset, .unset, .unset] [(.ref a1)]
  refine W.astoreN ok (pc' := 12) (L' := #[.val (.ref s), .val (.ref a1), .unset, .unset]) d_prog_26_method_4_11 rfl rfl rfl ?_
  refine W.iconst ok (pc' := 13) (0 : Int32) d_prog_26_method_4_12 rfl rfl ?_
  refine W.istoreN ok (pc' := 14) (L' := #[.val (.ref s), .val (.ref a1), .val (.int (0 : Int32)), .unset]) d_prog_26_method_4_13 rfl rfl ?_
  have nt0 : h.size ≤ t0 := Nat.le_trans E5.1 ht0
  have E0 := ExtK E5 K10 (fun w q => by rw [List.mem_singleton.mp q]; exact z3)
  have G0 : SBG Z h9 a1 t0 (esc (cs.take 0)) cs.length := ⟨0, [], _, S, Or.inl ⟨rfl, rfl, fun _ q => (nomatch q)⟩, Or.inl ⟨rfl, by simp⟩⟩
  have head3 : ∀ (hh : Heap) (M' : List Addr) (t : Addr) (cap : Nat) (s3 : Slot), (∀ x ∈ M, x ∈ M') → a1 ∈ M' → t ∈ M' → h.size ≤ t → Ext h hh → SBG Z hh a1 t (esc (cs.take 3)) cap → cap ≤ 36 → One s3 → 3 ≤ cs.length → W B hh 11 439 M' (true, []) 14 #[.val (.ref s), .val (.ref a1), .val (.int ((3 : Nat).toInt32)), s3] [] := by
    intro hh M' t cap s3 hMM bM tM nt Eh G hcap h3 hi
    have Tt := T.ext Eh
    have le2 := esc_len (cs.take 3)
    rw [List.length_take] at le2
    refine W.iloadN ok (pc' := 15) d_prog_26_method_4_14 rfl rfl ?_
    refine W.aloadN ok (pc' := 16) d_prog_26_method_4_15 rfl rfl rfl ?_
    refine W.callV ok (rest := [(.int ((3 : Nat).toInt32))]) (cl' := (true, [])) (pc' := 19) (w41 hw) (w42 hw) (w44 hw) (w43 hw) (w7 hw) (w45 hw) (by decide) Tt.exa pd_1 rfl (k_length l Z a0 hE s cs hh Tt (by omega)) (fun _ q => (nomatch q)) (fun q => ⟨q, fun _ q => (nomatch q)⟩) rfl rfl (Nat.le_of_ble_eq_true rfl) (Nat.le_of_ble_eq_true rfl) (Nat.le_of_ble_eq_true rfl) (Nat.le_of_ble_eq_true rfl) d_prog_26_method_4_16 rfl rfl (pureK ?_)
    show W B hh 11 439 M' (true, []) 19 #[.val (.ref s), .val (.ref a1), .val (.int ((3 : Nat).toInt32)), s3] [(.int cs.length.toInt32), (.int ((3 : Nat).toInt32))]
    have e3 : cs.length = 3 := by omega
    refine W.icmpge ok (pcY := 142) (pcN := 22) d_prog_26_method_4_19 rfl (by decide) rfl (fun q => absurd q (by rw [i32_lt (by omega) (by omega)]; omega)) (fun _ => ?_)
    refine W.aloadN ok (pc' := 143) d_prog_26_method_4_142 rfl rfl rfl ?_
    refine W.callV ok (rest := []) (cl' := (true, [])) (pc' := 146) (w152 hw) (w153 hw) (w155 hw) (w154 hw) (w40 hw) (w156 hw) (by decide) G.exa pd_37 rfl (k_gStr l Z a0 hE a1 t (esc (cs.take 3)) cap hh G (by omega) (by omega)) (fun _ q => (nomatch q)) (fun q => ⟨q, fun _ q => (nomatch q)⟩) rfl rfl (Nat.le_of_ble_eq_true rfl) (Nat.le_of_ble_eq_true rfl) (Nat.le_of_ble_eq_true rfl) (Nat.le_of_ble_eq_true rfl) d_prog_26_method_4_143 rfl rfl (oldK fun v h12 hq K13 => ?_)
    obtain ⟨r, rfl, -, Sr⟩ := hq
    show W B h12 13 479 M' (true, []) 146 #[.val (.ref s), .val (.ref a1), .val (.int ((3 : Nat).toInt32)), s3] [(.ref r)]
    exact W.retA ok d_prog_26_method_4_146 rfl rfl (Nat.le_of_ble_eq_true rfl) (Nat.le_of_ble_eq_true rfl) hMM (fun kp => ⟨r, rfl, (Sr.mono (fun x q => Or.inl (hMM x q))).cast (by rw [List.take_of_length_le (by omega)])⟩)
  have head2 : ∀ (hh : Heap) (M' : List Addr) (t : Addr) (cap : Nat) (s3 : Slot), (∀ x ∈ M, x ∈ M') → a1 ∈ M' → t ∈ M' → h.size ≤ t → Ext h hh → SBG Z hh a1 t (esc (cs.take 2)) cap → cap ≤ 36 → One s3 → 2 ≤ cs.length → W B hh 8 295 M' (true, []) 14 #[.val (.ref s), .val (.ref a1), .val (.int ((2 : Nat).toInt32)), s3] [] := by
    intro hh M' t cap s3 hMM bM tM nt Eh G hcap h3 hi
    have Tt := T.ext Eh
    have le2 := esc_len (cs.take 2)
    rw [List.length_take] at le2
    refine W.iloadN ok (pc' := 15) d_prog_26_method_4_14 rfl rfl ?_
    refine W.aloadN ok (pc' := 16) d_prog_26_method_4_15 rfl rfl rfl ?_
    refine W.callV ok (rest := [(.int ((2 : Nat).toInt32))]) (cl' := (true, [])) (pc' := 19) (w41 hw) (w42 hw) (w44 hw) (w43 hw) (w7 hw) (w45 hw) (by decide) Tt.exa pd_1 rfl (k_length l Z a0 hE s cs hh Tt (by omega)) (fun _ q => (nomatch q)) (fun q => ⟨q, fun _ q => (nomatch q)⟩) rfl rfl (Nat.le_of_ble_eq_true rfl) (Nat.le_of_ble_eq_true rfl) (Nat.le_of_ble_eq_true rfl) (Nat.le_of_ble_eq_true rfl) d_prog_26_method_4_16 rfl rfl (pureK ?_)
    show W B hh 8 295 M' (true, []) 19 #[.val (.ref s), .val (.ref a1), .val (.int ((2 : Nat).toInt32)), s3] [(.int cs.length.toInt32), (.int ((2 : Nat).toInt32))]
    rcases Nat.lt_or_ge 2 cs.length with hlt | hge
    · refine W.icmpge ok (pcY := 142) (pcN := 22) d_prog_26_method_4_19 rfl (by decide) rfl (fun _ => ?_) (fun q => absurd ((i32_lt (a := 2) (by omega) (by omega)).mpr hlt) q)
      obtain ⟨c, hc⟩ := at_lt hlt
      have rc := Tt.rng c (mem_of_at hc)
      have es := esc_step hc
      refine W.aloadN ok (pc' := 23) d_prog_26_method_4_22 rfl rfl rfl ?_
      refine W.iloadN ok (pc' := 24) d_prog_26_method_4_23 rfl rfl ?_
      refine W.callV ok (rest := []) (cl' := (true, [])) (pc' := 27) (w66 hw) (w67 hw) (w69 hw) (w68 hw) (w7 hw) (w70 hw) (by decide) Tt.exa pd_36 rfl (k_charAt l Z a0 hE s cs 2 c hh Tt hc (by omega)) (fun _ q => (nomatch q)) (fun q => ⟨q, fun _ q => (nomatch q)⟩) rfl rfl (Nat.le_of_ble_eq_true rfl) (Nat.le_of_ble_eq_true rfl) (Nat.le_of_ble_eq_true rfl) (Nat.le_of_ble_eq_true rfl) d_prog_26_method_4_24 rfl rfl (pureK ?_)
      show W B hh 8 295 M' (true, []) 27 #[.val (.ref s), .val (.ref a1), .val (.int ((2 : Nat).toInt32)), s3] [(.int c)]
      refine W.istoreNS ok (pc' := 28) (L' := #[.val (.ref s), .val (.ref a1), .val (.int ((2 : Nat).toInt32)), .val (.int c)]) d_prog_26_method_4_27 rfl rfl h3 rfl ?_
      refine W.iloadN ok (pc' := 29) d_prog_26_method_4_28 rfl rfl ?_
      by_cases e38 : c = 38
      · subst e38
        refine W.lsHit ok (pc' := 80) (a := 38) (off := 51) d_prog_26_method_4_29 (by decide) (by decide) (by decide) rfl ?_
        refine W.aloadN ok (pc' := 81) d_prog_26_method_4_80 rfl rfl rfl ?_
        refine W.ldcS ok (pc' := 83) rfl (text := "&amp;") (sz := 20) (w88 hw) (fun d hd => hw d ((by decide +kernel : ∀ d ∈ Bundle.stringAtoms, d ∈ tables_1) d hd)) (hE.held _ (List.mem_of_getElem? (i := 0) rfl)) hE.cw (by decide) (Or.inl rfl) (by decide) (by decide) d_prog_26_method_4_81 rfl (Nat.le_of_ble_eq_true rfl) (Nat.le_of_ble_eq_true rfl) (fun a14 h15 E16 Sl => ?_)
        have Ef := ExtT Eh E16
        refine W.callV ok (rest := []) (cl' := (true, ("copperpot/web/HtmlTemplate", 69) :: [])) (pc' := 86) (w91 hw) (w92 hw) (w94 hw) (w93 hw) (w40 hw) (w95 hw) (by decide) (G.ext E16).exa pd_38 rfl (k_gAppS l Z a0 hE a1 t (esc (cs.take 2)) cap a14 [38, 97, 109, 112, 59] h15 (G.ext E16) (by simp only [List.length_cons, List.length_nil]; omega) hcap (Sl.str.cast (by decide)) (by decide) (Sl.ne tM)) (fun w q => by simp only [List.mem_cons, List.not_mem_nil, or_false] at q; rcases q with rfl | rfl; exact ⟨bM, (Or.inr z3)⟩; exact ⟨tM, (Or.inr nt)⟩) (fun q => ⟨q, fun w q => by simp only [List.mem_cons, List.not_mem_nil, or_false] at q; rcases q with rfl | rfl; exact z3; exact nt⟩) rfl rfl (Nat.le_of_ble_eq_true rfl) (Nat.le_of_ble_eq_true rfl) (Nat.le_of_ble_eq_true rfl) (Nat.le_of_ble_eq_true rfl) d_prog_26_method_4_83 rfl rfl (fun N19 v h17 hq K18 => ?_)
        obtain ⟨rfl, t2, cap2, G2, hc2, hf2, -⟩ := hq
        show W B h17 11 391 (N19 ++ M') (true, ("copperpot/web/HtmlTemplate", 69) :: []) 86 #[.val (.ref s), .val (.ref a1), .val (.int ((2 : Nat).toInt32)), .val (.int (38 : Int32))] [(.ref a1)]
        refine W.pop1 ok (pc' := 87) d_prog_26_method_4_86 rfl rfl ?_
        refine W.goto ok (pc' := 136) d_prog_26_method_4_87 (by decide) rfl ?_
        refine W.iinc ok (pc' := 139) (L' := #[.val (.ref s), .val (.ref a1), .val (.int (((2 : Nat).toInt32) + (1 : Int32))), .val (.int (38 : Int32))]) (1 : Int32) d_prog_26_method_4_136 rfl rfl rfl rfl ?_
        refine W.goto ok (pc' := 14) d_prog_26_method_4_139 (by decide) rfl ?_
        have EE := ExtK Ef K18 (fun w q => by simp only [List.mem_cons, List.not_mem_nil, or_false] at q; rcases q with q | q <;> rw [q]; exact z3; exact nt)
        refine W.weaken (k' := 11) (n' := 439) (cl' := (true, [])) (by decide) (by decide) (fun q => q) (fun e q => by first | exact q | (nomatch q)) ?_
        rw [i32_succ]
        exact head3 _ _ t2 cap2 (.val (.int (38 : Int32))) (fun x q => List.mem_append_right _ (hMM x q)) (List.mem_append_right _ bM) (hf2.elim (fun e => by rw [e]; exact List.mem_append_right _ tM) (fun z => List.mem_append_left _ z.1)) (hf2.elim (fun e => by rw [e]; exact nt) (fun z => Nat.le_trans Ef.1 z.2)) EE (by rw [es]; exact G2) hc2 (One.val rfl) (by omega)
      · by_cases e60 : c = 60
        · subst e60
          refine W.lsHit ok (pc' := 90) (a := 60) (off := 61) d_prog_26_method_4_29 (by decide) (by decide) (by decide) rfl ?_
          refine W.aloadN ok (pc' := 91) d_prog_26_method_4_90 rfl rfl rfl ?_
          refine W.ldcS ok (pc' := 93) rfl (text := "&lt;") (sz := 16) (w239 hw) (fun d hd => hw d ((by decide +kernel : ∀ d ∈ Bundle.stringAtoms, d ∈ tables_1) d hd)) (hE.held _ (List.mem_of_getElem? (i := 1) rfl)) hE.cw (by decide) (Or.inl rfl) (by decide) (by decide) d_prog_26_method_4_91 rfl (Nat.le_of_ble_eq_true rfl) (Nat.le_of_ble_eq_true rfl) (fun a20 h21 E22 Sl => ?_)
          have Ef := ExtT Eh E22
          refine W.callV ok (rest := []) (cl' := (true, ("copperpot/web/HtmlTemplate", 75) :: [])) (pc' := 96) (w91 hw) (w92 hw) (w94 hw) (w93 hw) (w40 hw) (w95 hw) (by decide) (G.ext E22).exa pd_38 rfl (k_gAppS l Z a0 hE a1 t (esc (cs.take 2)) cap a20 [38, 108, 116, 59] h21 (G.ext E22) (by simp only [List.length_cons, List.length_nil]; omega) hcap (Sl.str.cast (by decide)) (by decide) (Sl.ne tM)) (fun w q => by simp only [List.mem_cons, List.not_mem_nil, or_false] at q; rcases q with rfl | rfl; exact ⟨bM, (Or.inr z3)⟩; exact ⟨tM, (Or.inr nt)⟩) (fun q => ⟨q, fun w q => by simp only [List.mem_cons, List.not_mem_nil, or_false] at q; rcases q with rfl | rfl; exact z3; exact nt⟩) rfl rfl (Nat.le_of_ble_eq_true rfl) (Nat.le_of_ble_eq_true rfl) (Nat.le_of_ble_eq_true rfl) (Nat.le_of_ble_eq_true rfl) d_prog_26_method_4_93 rfl rfl (fun N25 v h23 hq K24 => ?_)
          obtain ⟨rfl, t2, cap2, G2, hc2, hf2, -⟩ := hq
          show W B h23 11 387 (N25 ++ M') (true, ("copperpot/web/HtmlTemplate", 75) :: []) 96 #[.val (.ref s), .val (.ref a1), .val (.int ((2 : Nat).toInt32)), .val (.int (60 : Int32))] [(.ref a1)]
          refine W.pop1 ok (pc' := 97) d_prog_26_method_4_96 rfl rfl ?_
          refine W.goto ok (pc' := 136) d_prog_26_method_4_97 (by decide) rfl ?_
          refine W.iinc ok (pc' := 139) (L' := #[.val (.ref s), .val (.ref a1), .val (.int (((2 : Nat).toInt32) + (1 : Int32))), .val (.int (60 : Int32))]) (1 : Int32) d_prog_26_method_4_136 rfl rfl rfl rfl ?_
          refine W.goto ok (pc' := 14) d_prog_26_method_4_139 (by decide) rfl ?_
          have EE := ExtK Ef K24 (fun w q => by simp only [List.mem_cons, List.not_mem_nil, or_false] at q; rcases q with q | q <;> rw [q]; exact z3; exact nt)
          refine W.weaken (k' := 11) (n' := 439) (cl' := (true, [])) (by decide) (by decide) (fun q => q) (fun e q => by first | exact q | (nomatch q)) ?_
          rw [i32_succ]
          exact head3 _ _ t2 cap2 (.val (.int (60 : Int32))) (fun x q => List.mem_append_right _ (hMM x q)) (List.mem_append_right _ bM) (hf2.elim (fun e => by rw [e]; exact List.mem_append_right _ tM) (fun z => List.mem_append_left _ z.1)) (hf2.elim (fun e => by rw [e]; exact nt) (fun z => Nat.le_trans Ef.1 z.2)) EE (by rw [es]; exact G2) hc2 (One.val rfl) (by omega)
        · by_cases e62 : c = 62
          · subst e62
            refine W.lsHit ok (pc' := 100) (a := 62) (off := 71) d_prog_26_method_4_29 (by decide) (by decide) (by decide) rfl ?_
            refine W.aloadN ok (pc' := 101) d_prog_26_method_4_100 rfl rfl rfl ?_
            refine W.ldcS ok (pc' := 103) rfl (text := "&gt;") (sz := 16) (w299 hw) (fun d hd => hw d ((by decide +kernel : ∀ d ∈ Bundle.stringAtoms, d ∈ tables_1) d hd)) (hE.held _ (List.mem_of_getElem? (i := 2) rfl)) hE.cw (by decide) (Or.inl rfl) (by decide) (by decide) d_prog_26_method_4_101 rfl (Nat.le_of_ble_eq_true rfl) (Nat.le_of_ble_eq_true rfl) (fun a26 h27 E28 Sl => ?_)
            have Ef := ExtT Eh E28
            refine W.callV ok (rest := []) (cl' := (true, ("copperpot/web/HtmlTemplate", 77) :: [])) (pc' := 106) (w91 hw) (w92 hw) (w94 hw) (w93 hw) (w40 hw) (w95 hw) (by decide) (G.ext E28).exa pd_38 rfl (k_gAppS l Z a0 hE a1 t (esc (cs.take 2)) cap a26 [38, 103, 116, 59] h27 (G.ext E28) (by simp only [List.length_cons, List.length_nil]; omega) hcap (Sl.str.cast (by decide)) (by decide) (Sl.ne tM)) (fun w q => by simp only [List.mem_cons, List.not_mem_nil, or_false] at q; rcases q with rfl | rfl; exact ⟨bM, (Or.inr z3)⟩; exact ⟨tM, (Or.inr nt)⟩) (fun q => ⟨q, fun w q => by simp only [List.mem_cons, List.not_mem_nil, or_false] at q; rcases q with rfl | rfl; exact z3; exact nt⟩) rfl rfl (Nat.le_of_ble_eq_true rfl) (Nat.le_of_ble_eq_true rfl) (Nat.le_of_ble_eq_true rfl) (Nat.le_of_ble_eq_true rfl) d_prog_26_method_4_103 rfl rfl (fun N31 v h29 hq K30 => ?_)
            obtain ⟨rfl, t2, cap2, G2, hc2, hf2, -⟩ := hq
            show W B h29 11 387 (N31 ++ M') (true, ("copperpot/web/HtmlTemplate", 77) :: []) 106 #[.val (.ref s), .val (.ref a1), .val (.int ((2 : Nat).toInt32)), .val (.int (62 : Int32))] [(.ref a1)]
            refine W.pop1 ok (pc' := 107) d_prog_26_method_4_106 rfl rfl ?_
            refine W.goto ok (pc' := 136) d_prog_26_method_4_107 (by decide) rfl ?_
            refine W.iinc ok (pc' := 139) (L' := #[.val (.ref s), .val (.ref a1), .val (.int (((2 : Nat).toInt32) + (1 : Int32))), .val (.int (62 : Int32))]) (1 : Int32) d_prog_26_method_4_136 rfl rfl rfl rfl ?_
            refine W.goto ok (pc' := 14) d_prog_26_method_4_139 (by decide) rfl ?_
            have EE := ExtK Ef K30 (fun w q => by simp only [List.mem_cons, List.not_mem_nil, or_false] at q; rcases q with q | q <;> rw [q]; exact z3; exact nt)
            refine W.weaken (k' := 11) (n' := 439) (cl' := (true, [])) (by decide) (by decide) (fun q => q) (fun e q => by first | exact q | (nomatch q)) ?_
            rw [i32_succ]
            exact head3 _ _ t2 cap2 (.val (.int (62 : Int32))) (fun x q => List.mem_append_right _ (hMM x q)) (List.mem_append_right _ bM) (hf2.elim (fun e => by rw [e]; exact List.mem_append_right _ tM) (fun z => List.mem_append_left _ z.1)) (hf2.elim (fun e => by rw [e]; exact nt) (fun z => Nat.le_trans Ef.1 z.2)) EE (by rw [es]; exact G2) hc2 (One.val rfl) (by omega)
          · by_cases e34 : c = 34
            · subst e34
              refine W.lsHit ok (pc' := 110) (a := 34) (off := 81) d_prog_26_method_4_29 (by decide) (by decide) (by decide) rfl ?_
              refine W.aloadN ok (pc' := 111) d_prog_26_method_4_110 rfl rfl rfl ?_
              refine W.ldcS ok (pc' := 113) rfl (text := "&quot;") (sz := 24) (w205 hw) (fun d hd => hw d ((by decide +kernel : ∀ d ∈ Bundle.stringAtoms, d ∈ tables_1) d hd)) (hE.held _ (List.mem_of_getElem? (i := 3) rfl)) hE.cw (by decide) (Or.inl rfl) (by decide) (by decide) d_prog_26_method_4_111 rfl (Nat.le_of_ble_eq_true rfl) (Nat.le_of_ble_eq_true rfl) (fun a32 h33 E34 Sl => ?_)
              have Ef := ExtT Eh E34
              refine W.callV ok (rest := []) (cl' := (true, ("copperpot/web/HtmlTemplate", 79) :: [])) (pc' := 116) (w91 hw) (w92 hw) (w94 hw) (w93 hw) (w40 hw) (w95 hw) (by decide) (G.ext E34).exa pd_38 rfl (k_gAppS l Z a0 hE a1 t (esc (cs.take 2)) cap a32 [38, 113, 117, 111, 116, 59] h33 (G.ext E34) (by simp only [List.length_cons, List.length_nil]; omega) hcap (Sl.str.cast (by decide)) (by decide) (Sl.ne tM)) (fun w q => by simp only [List.mem_cons, List.not_mem_nil, or_false] at q; rcases q with rfl | rfl; exact ⟨bM, (Or.inr z3)⟩; exact ⟨tM, (Or.inr nt)⟩) (fun q => ⟨q, fun w q => by simp only [List.mem_cons, List.not_mem_nil, or_false] at q; rcases q with rfl | rfl; exact z3; exact nt⟩) rfl rfl (Nat.le_of_ble_eq_true rfl) (Nat.le_of_ble_eq_true rfl) (Nat.le_of_ble_eq_true rfl) (Nat.le_of_ble_eq_true rfl) d_prog_26_method_4_113 rfl rfl (fun N37 v h35 hq K36 => ?_)
              obtain ⟨rfl, t2, cap2, G2, hc2, hf2, -⟩ := hq
              show W B h35 11 395 (N37 ++ M') (true, ("copperpot/web/HtmlTemplate", 79) :: []) 116 #[.val (.ref s), .val (.ref a1), .val (.int ((2 : Nat).toInt32)), .val (.int (34 : Int32))] [(.ref a1)]
              refine W.pop1 ok (pc' := 117) d_prog_26_method_4_116 rfl rfl ?_
              refine W.goto ok (pc' := 136) d_prog_26_method_4_117 (by decide) rfl ?_
              refine W.iinc ok (pc' := 139) (L' := #[.val (.ref s), .val (.ref a1), .val (.int (((2 : Nat).toInt32) + (1 : Int32))), .val (.int (34 : Int32))]) (1 : Int32) d_prog_26_method_4_136 rfl rfl rfl rfl ?_
              refine W.goto ok (pc' := 14) d_prog_26_method_4_139 (by decide) rfl ?_
              have EE := ExtK Ef K36 (fun w q => by simp only [List.mem_cons, List.not_mem_nil, or_false] at q; rcases q with q | q <;> rw [q]; exact z3; exact nt)
              refine W.weaken (k' := 11) (n' := 439) (cl' := (true, [])) (by decide) (by decide) (fun q => q) (fun e q => by first | exact q | (nomatch q)) ?_
              rw [i32_succ]
              exact head3 _ _ t2 cap2 (.val (.int (34 : Int32))) (fun x q => List.mem_append_right _ (hMM x q)) (List.mem_append_right _ bM) (hf2.elim (fun e => by rw [e]; exact List.mem_append_right _ tM) (fun z => List.mem_append_left _ z.1)) (hf2.elim (fun e => by rw [e]; exact nt) (fun z => Nat.le_trans Ef.1 z.2)) EE (by rw [es]; exact G2) hc2 (One.val rfl) (by omega)
            · by_cases e39 : c = 39
              · subst e39
                refine W.lsHit ok (pc' := 120) (a := 39) (off := 91) d_prog_26_method_4_29 (by decide) (by decide) (by decide) rfl ?_
                refine W.aloadN ok (pc' := 121) d_prog_26_method_4_120 rfl rfl rfl ?_
                refine W.ldcS ok (pc' := 123) rfl (text := "&#39;") (sz := 20) (w204 hw) (fun d hd => hw d ((by decide +kernel : ∀ d ∈ Bundle.stringAtoms, d ∈ tables_1) d hd)) (hE.held _ (List.mem_of_getElem? (i := 4) rfl)) hE.cw (by decide) (Or.inl rfl) (by decide) (by decide) d_prog_26_method_4_121 rfl (Nat.le_of_ble_eq_true rfl) (Nat.le_of_ble_eq_true rfl) (fun a38 h39 E40 Sl => ?_)
                have Ef := ExtT Eh E40
                refine W.callV ok (rest := []) (cl' := (true, ("copperpot/web/HtmlTemplate", 81) :: [])) (pc' := 126) (w91 hw) (w92 hw) (w94 hw) (w93 hw) (w40 hw) (w95 hw) (by decide) (G.ext E40).exa pd_38 rfl (k_gAppS l Z a0 hE a1 t (esc (cs.take 2)) cap a38 [38, 35, 51, 57, 59] h39 (G.ext E40) (by simp only [List.length_cons, List.length_nil]; omega) hcap (Sl.str.cast (by decide)) (by decide) (Sl.ne tM)) (fun w q => by simp only [List.mem_cons, List.not_mem_nil, or_false] at q; rcases q with rfl | rfl; exact ⟨bM, (Or.inr z3)⟩; exact ⟨tM, (Or.inr nt)⟩) (fun q => ⟨q, fun w q => by simp only [List.mem_cons, List.not_mem_nil, or_false] at q; rcases q with rfl | rfl; exact z3; exact nt⟩) rfl rfl (Nat.le_of_ble_eq_true rfl) (Nat.le_of_ble_eq_true rfl) (Nat.le_of_ble_eq_true rfl) (Nat.le_of_ble_eq_true rfl) d_prog_26_method_4_123 rfl rfl (fun N43 v h41 hq K42 => ?_)
                obtain ⟨rfl, t2, cap2, G2, hc2, hf2, -⟩ := hq
                show W B h41 11 391 (N43 ++ M') (true, ("copperpot/web/HtmlTemplate", 81) :: []) 126 #[.val (.ref s), .val (.ref a1), .val (.int ((2 : Nat).toInt32)), .val (.int (39 : Int32))] [(.ref a1)]
                refine W.pop1 ok (pc' := 127) d_prog_26_method_4_126 rfl rfl ?_
                refine W.goto ok (pc' := 136) d_prog_26_method_4_127 (by decide) rfl ?_
                refine W.iinc ok (pc' := 139) (L' := #[.val (.ref s), .val (.ref a1), .val (.int (((2 : Nat).toInt32) + (1 : Int32))), .val (.int (39 : Int32))]) (1 : Int32) d_prog_26_method_4_136 rfl rfl rfl rfl ?_
                refine W.goto ok (pc' := 14) d_prog_26_method_4_139 (by decide) rfl ?_
                have EE := ExtK Ef K42 (fun w q => by simp only [List.mem_cons, List.not_mem_nil, or_false] at q; rcases q with q | q <;> rw [q]; exact z3; exact nt)
                refine W.weaken (k' := 11) (n' := 439) (cl' := (true, [])) (by decide) (by decide) (fun q => q) (fun e q => by first | exact q | (nomatch q)) ?_
                rw [i32_succ]
                exact head3 _ _ t2 cap2 (.val (.int (39 : Int32))) (fun x q => List.mem_append_right _ (hMM x q)) (List.mem_append_right _ bM) (hf2.elim (fun e => by rw [e]; exact List.mem_append_right _ tM) (fun z => List.mem_append_left _ z.1)) (hf2.elim (fun e => by rw [e]; exact nt) (fun z => Nat.le_trans Ef.1 z.2)) EE (by rw [es]; exact G2) hc2 (One.val rfl) (by omega)
              · refine W.lsMiss ok (pc' := 130) d_prog_26_method_4_29 (by decide) (miss5 e34 e38 e39 e60 e62) (by decide) rfl ?_
                refine W.aloadN ok (pc' := 131) d_prog_26_method_4_130 rfl rfl rfl ?_
                refine W.iloadN ok (pc' := 132) d_prog_26_method_4_131 rfl rfl ?_
                have ep : pc c = [c] := by rw [pc, if_neg e38, if_neg e60, if_neg e62, if_neg e34, if_neg e39]
                rw [ep] at es
                refine W.callV ok (rest := []) (cl' := (true, [])) (pc' := 135) (w214 hw) (w215 hw) (w217 hw) (w216 hw) (w40 hw) (w218 hw) (by decide) G.exa pd_39 rfl (k_gAppC l Z a0 hE a1 t (esc (cs.take 2)) cap c hh G rc (by omega) hcap) (fun w q => by simp only [List.mem_cons, List.not_mem_nil, or_false] at q; rcases q with rfl | rfl; exact ⟨bM, (Or.inr z3)⟩; exact ⟨tM, (Or.inr nt)⟩) (fun q => ⟨q, fun w q => by simp only [List.mem_cons, List.not_mem_nil, or_false] at q; rcases q with rfl | rfl; exact z3; exact nt⟩) rfl rfl (Nat.le_of_ble_eq_true rfl) (Nat.le_of_ble_eq_true rfl) (Nat.le_of_ble_eq_true rfl) (Nat.le_of_ble_eq_true rfl) d_prog_26_method_4_132 rfl rfl (fun N46 v h44 hq K45 => ?_)
                obtain ⟨rfl, t2, cap2, G2, hc2, hf2, -⟩ := hq
                show W B h44 10 439 (N46 ++ M') (true, []) 135 #[.val (.ref s), .val (.ref a1), .val (.int ((2 : Nat).toInt32)), .val (.int c)] [(.ref a1)]
                refine W.pop1 ok (pc' := 136) d_prog_26_method_4_135 rfl rfl ?_
                refine W.iinc ok (pc' := 139) (L' := #[.val (.ref s), .val (.ref a1), .val (.int (((2 : Nat).toInt32) + (1 : Int32))), .val (.int c)]) (1 : Int32) d_prog_26_method_4_136 rfl rfl rfl rfl ?_
                refine W.goto ok (pc' := 14) d_prog_26_method_4_139 (by decide) rfl ?_
                have EE := ExtK Eh K45 (fun w q => by simp only [List.mem_cons, List.not_mem_nil, or_false] at q; rcases q with q | q <;> rw [q]; exact z3; exact nt)
                refine W.weaken (k' := 11) (n' := 439) (cl' := (true, [])) (by decide) (by decide) (fun q => q) (fun e q => by first | exact q | (nomatch q)) ?_
                rw [i32_succ]
                exact head3 _ _ t2 cap2 (.val (.int c)) (fun x q => List.mem_append_right _ (hMM x q)) (List.mem_append_right _ bM) (hf2.elim (fun e => by rw [e]; exact List.mem_append_right _ tM) (fun z => List.mem_append_left _ z.1)) (hf2.elim (fun e => by rw [e]; exact nt) (fun z => Nat.le_trans Eh.1 z.2)) EE (by rw [es]; exact G2) hc2 (One.val rfl) (by omega)
    · refine W.icmpge ok (pcY := 142) (pcN := 22) d_prog_26_method_4_19 rfl (by decide) rfl (fun q => absurd q (by rw [i32_lt (by omega) (by omega)]; omega)) (fun _ => ?_)
      refine W.aloadN ok (pc' := 143) d_prog_26_method_4_142 rfl rfl rfl ?_
      refine W.callV ok (rest := []) (cl' := (true, [])) (pc' := 146) (w152 hw) (w153 hw) (w155 hw) (w154 hw) (w40 hw) (w156 hw) (by decide) G.exa pd_37 rfl (k_gStr l Z a0 hE a1 t (esc (cs.take 2)) cap hh G (by omega) (by omega)) (fun _ q => (nomatch q)) (fun q => ⟨q, fun _ q => (nomatch q)⟩) rfl rfl (Nat.le_of_ble_eq_true rfl) (Nat.le_of_ble_eq_true rfl) (Nat.le_of_ble_eq_true rfl) (Nat.le_of_ble_eq_true rfl) d_prog_26_method_4_143 rfl rfl (oldK fun v h47 hq K48 => ?_)
      obtain ⟨r, rfl, -, Sr⟩ := hq
      show W B h47 10 335 M' (true, []) 146 #[.val (.ref s), .val (.ref a1), .val (.int ((2 : Nat).toInt32)), s3] [(.ref r)]
      exact W.retA ok d_prog_26_method_4_146 rfl rfl (Nat.le_of_ble_eq_true rfl) (Nat.le_of_ble_eq_true rfl) hMM (fun kp => ⟨r, rfl, (Sr.mono (fun x q => Or.inl (hMM x q))).cast (by rw [List.take_of_length_le (by omega)])⟩)
  have head1 : ∀ (hh : Heap) (M' : List Addr) (t : Addr) (cap : Nat) (s3 : Slot), (∀ x ∈ M, x ∈ M') → a1 ∈ M' → t ∈ M' → h.size ≤ t → Ext h hh → SBG Z hh a1 t (esc (cs.take 1)) cap → cap ≤ 36 → One s3 → 1 ≤ cs.length → W B hh 5 151 M' (true, []) 14 #[.val (.ref s), .val (.ref a1), .val (.int ((1 : Nat).toInt32)), s3] [] := by
    intro hh M' t cap s3 hMM bM tM nt Eh G hcap h3 hi
    have Tt := T.ext Eh
    have le2 := esc_len (cs.take 1)
    rw [List.length_take] at le2
    refine W.iloadN ok (pc' := 15) d_prog_26_method_4_14 rfl rfl ?_
    refine W.aloadN ok (pc' := 16) d_prog_26_method_4_15 rfl rfl rfl ?_
    refine W.callV ok (rest := [(.int ((1 : Nat).toInt32))]) (cl' := (true, [])) (pc' := 19) (w41 hw) (w42 hw) (w44 hw) (w43 hw) (w7 hw) (w45 hw) (by decide) Tt.exa pd_1 rfl (k_length l Z a0 hE s cs hh Tt (by omega)) (fun _ q => (nomatch q)) (fun q => ⟨q, fun _ q => (nomatch q)⟩) rfl rfl (Nat.le_of_ble_eq_true rfl) (Nat.le_of_ble_eq_true rfl) (Nat.le_of_ble_eq_true rfl) (Nat.le_of_ble_eq_true rfl) d_prog_26_method_4_16 rfl rfl (pureK ?_)
    show W B hh 5 151 M' (true, []) 19 #[.val (.ref s), .val (.ref a1), .val (.int ((1 : Nat).toInt32)), s3] [(.int cs.length.toInt32), (.int ((1 : Nat).toInt32))]
    rcases Nat.lt_or_ge 1 cs.length with hlt | hge
    · refine W.icmpge ok (pcY := 142) (pcN := 22) d_prog_26_method_4_19 rfl (by decide) rfl (fun _ => ?_) (fun q => absurd ((i32_lt (a := 1) (by omega) (by omega)).mpr hlt) q)
      obtain ⟨c, hc⟩ := at_lt hlt
      have rc := Tt.rng c (mem_of_at hc)
      have es := esc_step hc
      refine W.aloadN ok (pc' := 23) d_prog_26_method_4_22 rfl rfl rfl ?_
      refine W.iloadN ok (pc' := 24) d_prog_26_method_4_23 rfl rfl ?_
      refine W.callV ok (rest := []) (cl' := (true, [])) (pc' := 27) (w66 hw) (w67 hw) (w69 hw) (w68 hw) (w7 hw) (w70 hw) (by decide) Tt.exa pd_36 rfl (k_charAt l Z a0 hE s cs 1 c hh Tt hc (by omega)) (fun _ q => (nomatch q)) (fun q => ⟨q, fun _ q => (nomatch q)⟩) rfl rfl (Nat.le_of_ble_eq_true rfl) (Nat.le_of_ble_eq_true rfl) (Nat.le_of_ble_eq_true rfl) (Nat.le_of_ble_eq_true rfl) d_prog_26_method_4_24 rfl rfl (pureK ?_)
      show W B hh 5 151 M' (true, []) 27 #[.val (.ref s), .val (.ref a1), .val (.int ((1 : Nat).toInt32)), s3] [(.int c)]
      refine W.istoreNS ok (pc' := 28) (L' := #[.val (.ref s), .val (.ref a1), .val (.int ((1 : Nat).toInt32)), .val (.int c)]) d_prog_26_method_4_27 rfl rfl h3 rfl ?_
      refine W.iloadN ok (pc' := 29) d_prog_26_method_4_28 rfl rfl ?_
      by_cases e38 : c = 38
      · subst e38
        refine W.lsHit ok (pc' := 80) (a := 38) (off := 51) d_prog_26_method_4_29 (by decide) (by decide) (by decide) rfl ?_
        refine W.aloadN ok (pc' := 81) d_prog_26_method_4_80 rfl rfl rfl ?_
        refine W.ldcS ok (pc' := 83) rfl (text := "&amp;") (sz := 20) (w88 hw) (fun d hd => hw d ((by decide +kernel : ∀ d ∈ Bundle.stringAtoms, d ∈ tables_1) d hd)) (hE.held _ (List.mem_of_getElem? (i := 0) rfl)) hE.cw (by decide) (Or.inl rfl) (by decide) (by decide) d_prog_26_method_4_81 rfl (Nat.le_of_ble_eq_true rfl) (Nat.le_of_ble_eq_true rfl) (fun a49 h50 E51 Sl => ?_)
        have Ef := ExtT Eh E51
        refine W.callV ok (rest := []) (cl' := (true, ("copperpot/web/HtmlTemplate", 69) :: [])) (pc' := 86) (w91 hw) (w92 hw) (w94 hw) (w93 hw) (w40 hw) (w95 hw) (by decide) (G.ext E51).exa pd_38 rfl (k_gAppS l Z a0 hE a1 t (esc (cs.take 1)) cap a49 [38, 97, 109, 112, 59] h50 (G.ext E51) (by simp only [List.length_cons, List.length_nil]; omega) hcap (Sl.str.cast (by decide)) (by decide) (Sl.ne tM)) (fun w q => by simp only [List.mem_cons, List.not_mem_nil, or_false] at q; rcases q with rfl | rfl; exact ⟨bM, (Or.inr z3)⟩; exact ⟨tM, (Or.inr nt)⟩) (fun q => ⟨q, fun w q => by simp only [List.mem_cons, List.not_mem_nil, or_false] at q; rcases q with rfl | rfl; exact z3; exact nt⟩) rfl rfl (Nat.le_of_ble_eq_true rfl) (Nat.le_of_ble_eq_true rfl) (Nat.le_of_ble_eq_true rfl) (Nat.le_of_ble_eq_true rfl) d_prog_26_method_4_83 rfl rfl (fun N54 v h52 hq K53 => ?_)
        obtain ⟨rfl, t2, cap2, G2, hc2, hf2, -⟩ := hq
        show W B h52 8 247 (N54 ++ M') (true, ("copperpot/web/HtmlTemplate", 69) :: []) 86 #[.val (.ref s), .val (.ref a1), .val (.int ((1 : Nat).toInt32)), .val (.int (38 : Int32))] [(.ref a1)]
        refine W.pop1 ok (pc' := 87) d_prog_26_method_4_86 rfl rfl ?_
        refine W.goto ok (pc' := 136) d_prog_26_method_4_87 (by decide) rfl ?_
        refine W.iinc ok (pc' := 139) (L' := #[.val (.ref s), .val (.ref a1), .val (.int (((1 : Nat).toInt32) + (1 : Int32))), .val (.int (38 : Int32))]) (1 : Int32) d_prog_26_method_4_136 rfl rfl rfl rfl ?_
        refine W.goto ok (pc' := 14) d_prog_26_method_4_139 (by decide) rfl ?_
        have EE := ExtK Ef K53 (fun w q => by simp only [List.mem_cons, List.not_mem_nil, or_false] at q; rcases q with q | q <;> rw [q]; exact z3; exact nt)
        refine W.weaken (k' := 8) (n' := 295) (cl' := (true, [])) (by decide) (by decide) (fun q => q) (fun e q => by first | exact q | (nomatch q)) ?_
        rw [i32_succ]
        exact head2 _ _ t2 cap2 (.val (.int (38 : Int32))) (fun x q => List.mem_append_right _ (hMM x q)) (List.mem_append_right _ bM) (hf2.elim (fun e => by rw [e]; exact List.mem_append_right _ tM) (fun z => List.mem_append_left _ z.1)) (hf2.elim (fun e => by rw [e]; exact nt) (fun z => Nat.le_trans Ef.1 z.2)) EE (by rw [es]; exact G2) hc2 (One.val rfl) (by omega)
      · by_cases e60 : c = 60
        · subst e60
          refine W.lsHit ok (pc' := 90) (a := 60) (off := 61) d_prog_26_method_4_29 (by decide) (by decide) (by decide) rfl ?_
          refine W.aloadN ok (pc' := 91) d_prog_26_method_4_90 rfl rfl rfl ?_
          refine W.ldcS ok (pc' := 93) rfl (text := "&lt;") (sz := 16) (w239 hw) (fun d hd => hw d ((by decide +kernel : ∀ d ∈ Bundle.stringAtoms, d ∈ tables_1) d hd)) (hE.held _ (List.mem_of_getElem? (i := 1) rfl)) hE.cw (by decide) (Or.inl rfl) (by decide) (by decide) d_prog_26_method_4_91 rfl (Nat.le_of_ble_eq_true rfl) (Nat.le_of_ble_eq_true rfl) (fun a55 h56 E57 Sl => ?_)
          have Ef := ExtT Eh E57
          refine W.callV ok (rest := []) (cl' := (true, ("copperpot/web/HtmlTemplate", 75) :: [])) (pc' := 96) (w91 hw) (w92 hw) (w94 hw) (w93 hw) (w40 hw) (w95 hw) (by decide) (G.ext E57).exa pd_38 rfl (k_gAppS l Z a0 hE a1 t (esc (cs.take 1)) cap a55 [38, 108, 116, 59] h56 (G.ext E57) (by simp only [List.length_cons, List.length_nil]; omega) hcap (Sl.str.cast (by decide)) (by decide) (Sl.ne tM)) (fun w q => by simp only [List.mem_cons, List.not_mem_nil, or_false] at q; rcases q with rfl | rfl; exact ⟨bM, (Or.inr z3)⟩; exact ⟨tM, (Or.inr nt)⟩) (fun q => ⟨q, fun w q => by simp only [List.mem_cons, List.not_mem_nil, or_false] at q; rcases q with rfl | rfl; exact z3; exact nt⟩) rfl rfl (Nat.le_of_ble_eq_true rfl) (Nat.le_of_ble_eq_true rfl) (Nat.le_of_ble_eq_true rfl) (Nat.le_of_ble_eq_true rfl) d_prog_26_method_4_93 rfl rfl (fun N60 v h58 hq K59 => ?_)
          obtain ⟨rfl, t2, cap2, G2, hc2, hf2, -⟩ := hq
          show W B h58 8 243 (N60 ++ M') (true, ("copperpot/web/HtmlTemplate", 75) :: []) 96 #[.val (.ref s), .val (.ref a1), .val (.int ((1 : Nat).toInt32)), .val (.int (60 : Int32))] [(.ref a1)]
          refine W.pop1 ok (pc' := 97) d_prog_26_method_4_96 rfl rfl ?_
          refine W.goto ok (pc' := 136) d_prog_26_method_4_97 (by decide) rfl ?_
          refine W.iinc ok (pc' := 139) (L' := #[.val (.ref s), .val (.ref a1), .val (.int (((1 : Nat).toInt32) + (1 : Int32))), .val (.int (60 : Int32))]) (1 : Int32) d_prog_26_method_4_136 rfl rfl rfl rfl ?_
          refine W.goto ok (pc' := 14) d_prog_26_method_4_139 (by decide) rfl ?_
          have EE := ExtK Ef K59 (fun w q => by simp only [List.mem_cons, List.not_mem_nil, or_false] at q; rcases q with q | q <;> rw [q]; exact z3; exact nt)
          refine W.weaken (k' := 8) (n' := 295) (cl' := (true, [])) (by decide) (by decide) (fun q => q) (fun e q => by first | exact q | (nomatch q)) ?_
          rw [i32_succ]
          exact head2 _ _ t2 cap2 (.val (.int (60 : Int32))) (fun x q => List.mem_append_right _ (hMM x q)) (List.mem_append_right _ bM) (hf2.elim (fun e => by rw [e]; exact List.mem_append_right _ tM) (fun z => List.mem_append_left _ z.1)) (hf2.elim (fun e => by rw [e]; exact nt) (fun z => Nat.le_trans Ef.1 z.2)) EE (by rw [es]; exact G2) hc2 (One.val rfl) (by omega)
        · by_cases e62 : c = 62
          · subst e62
            refine W.lsHit ok (pc' := 100) (a := 62) (off := 71) d_prog_26_method_4_29 (by decide) (by decide) (by decide) rfl ?_
            refine W.aloadN ok (pc' := 101) d_prog_26_method_4_100 rfl rfl rfl ?_
            refine W.ldcS ok (pc' := 103) rfl (text := "&gt;") (sz := 16) (w299 hw) (fun d hd => hw d ((by decide +kernel : ∀ d ∈ Bundle.stringAtoms, d ∈ tables_1) d hd)) (hE.held _ (List.mem_of_getElem? (i := 2) rfl)) hE.cw (by decide) (Or.inl rfl) (by decide) (by decide) d_prog_26_method_4_101 rfl (Nat.le_of_ble_eq_true rfl) (Nat.le_of_ble_eq_true rfl) (fun a61 h62 E63 Sl => ?_)
            have Ef := ExtT Eh E63
            refine W.callV ok (rest := []) (cl' := (true, ("copperpot/web/HtmlTemplate", 77) :: [])) (pc' := 106) (w91 hw) (w92 hw) (w94 hw) (w93 hw) (w40 hw) (w95 hw) (by decide) (G.ext E63).exa pd_38 rfl (k_gAppS l Z a0 hE a1 t (esc (cs.take 1)) cap a61 [38, 103, 116, 59] h62 (G.ext E63) (by simp only [List.length_cons, List.length_nil]; omega) hcap (Sl.str.cast (by decide)) (by decide) (Sl.ne tM)) (fun w q => by simp only [List.mem_cons, List.not_mem_nil, or_false] at q; rcases q with rfl | rfl; exact ⟨bM, (Or.inr z3)⟩; exact ⟨tM, (Or.inr nt)⟩) (fun q => ⟨q, fun w q => by simp only [List.mem_cons, List.not_mem_nil, or_false] at q; rcases q with rfl | rfl; exact z3; exact nt⟩) rfl rfl (Nat.le_of_ble_eq_true rfl) (Nat.le_of_ble_eq_true rfl) (Nat.le_of_ble_eq_true rfl) (Nat.le_of_ble_eq_true rfl) d_prog_26_method_4_103 rfl rfl (fun N66 v h64 hq K65 => ?_)
            obtain ⟨rfl, t2, cap2, G2, hc2, hf2, -⟩ := hq
            show W B h64 8 243 (N66 ++ M') (true, ("copperpot/web/HtmlTemplate", 77) :: []) 106 #[.val (.ref s), .val (.ref a1), .val (.int ((1 : Nat).toInt32)), .val (.int (62 : Int32))] [(.ref a1)]
            refine W.pop1 ok (pc' := 107) d_prog_26_method_4_106 rfl rfl ?_
            refine W.goto ok (pc' := 136) d_prog_26_method_4_107 (by decide) rfl ?_
            refine W.iinc ok (pc' := 139) (L' := #[.val (.ref s), .val (.ref a1), .val (.int (((1 : Nat).toInt32) + (1 : Int32))), .val (.int (62 : Int32))]) (1 : Int32) d_prog_26_method_4_136 rfl rfl rfl rfl ?_
            refine W.goto ok (pc' := 14) d_prog_26_method_4_139 (by decide) rfl ?_
            have EE := ExtK Ef K65 (fun w q => by simp only [List.mem_cons, List.not_mem_nil, or_false] at q; rcases q with q | q <;> rw [q]; exact z3; exact nt)
            refine W.weaken (k' := 8) (n' := 295) (cl' := (true, [])) (by decide) (by decide) (fun q => q) (fun e q => by first | exact q | (nomatch q)) ?_
            rw [i32_succ]
            exact head2 _ _ t2 cap2 (.val (.int (62 : Int32))) (fun x q => List.mem_append_right _ (hMM x q)) (List.mem_append_right _ bM) (hf2.elim (fun e => by rw [e]; exact List.mem_append_right _ tM) (fun z => List.mem_append_left _ z.1)) (hf2.elim (fun e => by rw [e]; exact nt) (fun z => Nat.le_trans Ef.1 z.2)) EE (by rw [es]; exact G2) hc2 (One.val rfl) (by omega)
          · by_cases e34 : c = 34
            · subst e34
              refine W.lsHit ok (pc' := 110) (a := 34) (off := 81) d_prog_26_method_4_29 (by decide) (by decide) (by decide) rfl ?_
              refine W.aloadN ok (pc' := 111) d_prog_26_method_4_110 rfl rfl rfl ?_
              refine W.ldcS ok (pc' := 113) rfl (text := "&quot;") (sz := 24) (w205 hw) (fun d hd => hw d ((by decide +kernel : ∀ d ∈ Bundle.stringAtoms, d ∈ tables_1) d hd)) (hE.held _ (List.mem_of_getElem? (i := 3) rfl)) hE.cw (by decide) (Or.inl rfl) (by decide) (by decide) d_prog_26_method_4_111 rfl (Nat.le_of_ble_eq_true rfl) (Nat.le_of_ble_eq_true rfl) (fun a67 h68 E69 Sl => ?_)
              have Ef := ExtT Eh E69
              refine W.callV ok (rest := []) (cl' := (true, ("copperpot/web/HtmlTemplate", 79) :: [])) (pc' := 116) (w91 hw) (w92 hw) (w94 hw) (w93 hw) (w40 hw) (w95 hw) (by decide) (G.ext E69).exa pd_38 rfl (k_gAppS l Z a0 hE a1 t (esc (cs.take 1)) cap a67 [38, 113, 117, 111, 116, 59] h68 (G.ext E69) (by simp only [List.length_cons, List.length_nil]; omega) hcap (Sl.str.cast (by decide)) (by decide) (Sl.ne tM)) (fun w q => by simp only [List.mem_cons, List.not_mem_nil, or_false] at q; rcases q with rfl | rfl; exact ⟨bM, (Or.inr z3)⟩; exact ⟨tM, (Or.inr nt)⟩) (fun q => ⟨q, fun w q => by simp only [List.mem_cons, List.not_mem_nil, or_false] at q; rcases q with rfl | rfl; exact z3; exact nt⟩) rfl rfl (Nat.le_of_ble_eq_true rfl) (Nat.le_of_ble_eq_true rfl) (Nat.le_of_ble_eq_true rfl) (Nat.le_of_ble_eq_true rfl) d_prog_26_method_4_113 rfl rfl (fun N72 v h70 hq K71 => ?_)
              obtain ⟨rfl, t2, cap2, G2, hc2, hf2, -⟩ := hq
              show W B h70 8 251 (N72 ++ M') (true, ("copperpot/web/HtmlTemplate", 79) :: []) 116 #[.val (.ref s), .val (.ref a1), .val (.int ((1 : Nat).toInt32)), .val (.int (34 : Int32))] [(.ref a1)]
              refine W.pop1 ok (pc' := 117) d_prog_26_method_4_116 rfl rfl ?_
              refine W.goto ok (pc' := 136) d_prog_26_method_4_117 (by decide) rfl ?_
              refine W.iinc ok (pc' := 139) (L' := #[.val (.ref s), .val (.ref a1), .val (.int (((1 : Nat).toInt32) + (1 : Int32))), .val (.int (34 : Int32))]) (1 : Int32) d_prog_26_method_4_136 rfl rfl rfl rfl ?_
              refine W.goto ok (pc' := 14) d_prog_26_method_4_139 (by decide) rfl ?_
              have EE := ExtK Ef K71 (fun w q => by simp only [List.mem_cons, List.not_mem_nil, or_false] at q; rcases q with q | q <;> rw [q]; exact z3; exact nt)
              refine W.weaken (k' := 8) (n' := 295) (cl' := (true, [])) (by decide) (by decide) (fun q => q) (fun e q => by first | exact q | (nomatch q)) ?_
              rw [i32_succ]
              exact head2 _ _ t2 cap2 (.val (.int (34 : Int32))) (fun x q => List.mem_append_right _ (hMM x q)) (List.mem_append_right _ bM) (hf2.elim (fun e => by rw [e]; exact List.mem_append_right _ tM) (fun z => List.mem_append_left _ z.1)) (hf2.elim (fun e => by rw [e]; exact nt) (fun z => Nat.le_trans Ef.1 z.2)) EE (by rw [es]; exact G2) hc2 (One.val rfl) (by omega)
            · by_cases e39 : c = 39
              · subst e39
                refine W.lsHit ok (pc' := 120) (a := 39) (off := 91) d_prog_26_method_4_29 (by decide) (by decide) (by decide) rfl ?_
                refine W.aloadN ok (pc' := 121) d_prog_26_method_4_120 rfl rfl rfl ?_
                refine W.ldcS ok (pc' := 123) rfl (text := "&#39;") (sz := 20) (w204 hw) (fun d hd => hw d ((by decide +kernel : ∀ d ∈ Bundle.stringAtoms, d ∈ tables_1) d hd)) (hE.held _ (List.mem_of_getElem? (i := 4) rfl)) hE.cw (by decide) (Or.inl rfl) (by decide) (by decide) d_prog_26_method_4_121 rfl (Nat.le_of_ble_eq_true rfl) (Nat.le_of_ble_eq_true rfl) (fun a73 h74 E75 Sl => ?_)
                have Ef := ExtT Eh E75
                refine W.callV ok (rest := []) (cl' := (true, ("copperpot/web/HtmlTemplate", 81) :: [])) (pc' := 126) (w91 hw) (w92 hw) (w94 hw) (w93 hw) (w40 hw) (w95 hw) (by decide) (G.ext E75).exa pd_38 rfl (k_gAppS l Z a0 hE a1 t (esc (cs.take 1)) cap a73 [38, 35, 51, 57, 59] h74 (G.ext E75) (by simp only [List.length_cons, List.length_nil]; omega) hcap (Sl.str.cast (by decide)) (by decide) (Sl.ne tM)) (fun w q => by simp only [List.mem_cons, List.not_mem_nil, or_false] at q; rcases q with rfl | rfl; exact ⟨bM, (Or.inr z3)⟩; exact ⟨tM, (Or.inr nt)⟩) (fun q => ⟨q, fun w q => by simp only [List.mem_cons, List.not_mem_nil, or_false] at q; rcases q with rfl | rfl; exact z3; exact nt⟩) rfl rfl (Nat.le_of_ble_eq_true rfl) (Nat.le_of_ble_eq_true rfl) (Nat.le_of_ble_eq_true rfl) (Nat.le_of_ble_eq_true rfl) d_prog_26_method_4_123 rfl rfl (fun N78 v h76 hq K77 => ?_)
                obtain ⟨rfl, t2, cap2, G2, hc2, hf2, -⟩ := hq
                show W B h76 8 247 (N78 ++ M') (true, ("copperpot/web/HtmlTemplate", 81) :: []) 126 #[.val (.ref s), .val (.ref a1), .val (.int ((1 : Nat).toInt32)), .val (.int (39 : Int32))] [(.ref a1)]
                refine W.pop1 ok (pc' := 127) d_prog_26_method_4_126 rfl rfl ?_
                refine W.goto ok (pc' := 136) d_prog_26_method_4_127 (by decide) rfl ?_
                refine W.iinc ok (pc' := 139) (L' := #[.val (.ref s), .val (.ref a1), .val (.int (((1 : Nat).toInt32) + (1 : Int32))), .val (.int (39 : Int32))]) (1 : Int32) d_prog_26_method_4_136 rfl rfl rfl rfl ?_
                refine W.goto ok (pc' := 14) d_prog_26_method_4_139 (by decide) rfl ?_
                have EE := ExtK Ef K77 (fun w q => by simp only [List.mem_cons, List.not_mem_nil, or_false] at q; rcases q with q | q <;> rw [q]; exact z3; exact nt)
                refine W.weaken (k' := 8) (n' := 295) (cl' := (true, [])) (by decide) (by decide) (fun q => q) (fun e q => by first | exact q | (nomatch q)) ?_
                rw [i32_succ]
                exact head2 _ _ t2 cap2 (.val (.int (39 : Int32))) (fun x q => List.mem_append_right _ (hMM x q)) (List.mem_append_right _ bM) (hf2.elim (fun e => by rw [e]; exact List.mem_append_right _ tM) (fun z => List.mem_append_left _ z.1)) (hf2.elim (fun e => by rw [e]; exact nt) (fun z => Nat.le_trans Ef.1 z.2)) EE (by rw [es]; exact G2) hc2 (One.val rfl) (by omega)
              · refine W.lsMiss ok (pc' := 130) d_prog_26_method_4_29 (by decide) (miss5 e34 e38 e39 e60 e62) (by decide) rfl ?_
                refine W.aloadN ok (pc' := 131) d_prog_26_method_4_130 rfl rfl rfl ?_
                refine W.iloadN ok (pc' := 132) d_prog_26_method_4_131 rfl rfl ?_
                have ep : pc c = [c] := by rw [pc, if_neg e38, if_neg e60, if_neg e62, if_neg e34, if_neg e39]
                rw [ep] at es
                refine W.callV ok (rest := []) (cl' := (true, [])) (pc' := 135) (w214 hw) (w215 hw) (w217 hw) (w216 hw) (w40 hw) (w218 hw) (by decide) G.exa pd_39 rfl (k_gAppC l Z a0 hE a1 t (esc (cs.take 1)) cap c hh G rc (by omega) hcap) (fun w q => by simp only [List.mem_cons, List.not_mem_nil, or_false] at q; rcases q with rfl | rfl; exact ⟨bM, (Or.inr z3)⟩; exact ⟨tM, (Or.inr nt)⟩) (fun q => ⟨q, fun w q => by simp only [List.mem_cons, List.not_mem_nil, or_false] at q; rcases q with rfl | rfl; exact z3; exact nt⟩) rfl rfl (Nat.le_of_ble_eq_true rfl) (Nat.le_of_ble_eq_true rfl) (Nat.le_of_ble_eq_true rfl) (Nat.le_of_ble_eq_true rfl) d_prog_26_method_4_132 rfl rfl (fun N81 v h79 hq K80 => ?_)
                obtain ⟨rfl, t2, cap2, G2, hc2, hf2, -⟩ := hq
                show W B h79 7 295 (N81 ++ M') (true, []) 135 #[.val (.ref s), .val (.ref a1), .val (.int ((1 : Nat).toInt32)), .val (.int c)] [(.ref a1)]
                refine W.pop1 ok (pc' := 136) d_prog_26_method_4_135 rfl rfl ?_
                refine W.iinc ok (pc' := 139) (L' := #[.val (.ref s), .val (.ref a1), .val (.int (((1 : Nat).toInt32) + (1 : Int32))), .val (.int c)]) (1 : Int32) d_prog_26_method_4_136 rfl rfl rfl rfl ?_
                refine W.goto ok (pc' := 14) d_prog_26_method_4_139 (by decide) rfl ?_
                have EE := ExtK Eh K80 (fun w q => by simp only [List.mem_cons, List.not_mem_nil, or_false] at q; rcases q with q | q <;> rw [q]; exact z3; exact nt)
                refine W.weaken (k' := 8) (n' := 295) (cl' := (true, [])) (by decide) (by decide) (fun q => q) (fun e q => by first | exact q | (nomatch q)) ?_
                rw [i32_succ]
                exact head2 _ _ t2 cap2 (.val (.int c)) (fun x q => List.mem_append_right _ (hMM x q)) (List.mem_append_right _ bM) (hf2.elim (fun e => by rw [e]; exact List.mem_append_right _ tM) (fun z => List.mem_append_left _ z.1)) (hf2.elim (fun e => by rw [e]; exact nt) (fun z => Nat.le_trans Eh.1 z.2)) EE (by rw [es]; exact G2) hc2 (One.val rfl) (by omega)
    · refine W.icmpge ok (pcY := 142) (pcN := 22) d_prog_26_method_4_19 rfl (by decide) rfl (fun q => absurd q (by rw [i32_lt (by omega) (by omega)]; omega)) (fun _ => ?_)
      refine W.aloadN ok (pc' := 143) d_prog_26_method_4_142 rfl rfl rfl ?_
      refine W.callV ok (rest := []) (cl' := (true, [])) (pc' := 146) (w152 hw) (w153 hw) (w155 hw) (w154 hw) (w40 hw) (w156 hw) (by decide) G.exa pd_37 rfl (k_gStr l Z a0 hE a1 t (esc (cs.take 1)) cap hh G (by omega) (by omega)) (fun _ q => (nomatch q)) (fun q => ⟨q, fun _ q => (nomatch q)⟩) rfl rfl (Nat.le_of_ble_eq_true rfl) (Nat.le_of_ble_eq_true rfl) (Nat.le_of_ble_eq_true rfl) (Nat.le_of_ble_eq_true rfl) d_prog_26_method_4_143 rfl rfl (oldK fun v h82 hq K83 => ?_)
      obtain ⟨r, rfl, -, Sr⟩ := hq
      show W B h82 7 191 M' (true, []) 146 #[.val (.ref s), .val (.ref a1), .val (.int ((1 : Nat).toInt32)), s3] [(.ref r)]
      exact W.retA ok d_prog_26_method_4_146 rfl rfl (Nat.le_of_ble_eq_true rfl) (Nat.le_of_ble_eq_true rfl) hMM (fun kp => ⟨r, rfl, (Sr.mono (fun x q => Or.inl (hMM x q))).cast (by rw [List.take_of_length_le (by omega)])⟩)
  have head0 : ∀ (hh : Heap) (M' : List Addr) (t : Addr) (cap : Nat) (s3 : Slot), (∀ x ∈ M, x ∈ M') → a1 ∈ M' → t ∈ M' → h.size ≤ t → Ext h hh → SBG Z hh a1 t (esc (cs.take 0)) cap → cap ≤ 36 → One s3 → 0 ≤ cs.length → W B hh 2 7 M' (true, []) 14 #[.val (.ref s), .val (.ref a1), .val (.int ((0 : Nat).toInt32)), s3] [] := by
    intro hh M' t cap s3 hMM bM tM nt Eh G hcap h3 hi
    have Tt := T.ext Eh
    have le2 := esc_len (cs.take 0)
    rw [List.length_take] at le2
    refine W.iloadN ok (pc' := 15) d_prog_26_method_4_14 rfl rfl ?_
    refine W.aloadN ok (pc' := 16) d_prog_26_method_4_15 rfl rfl rfl ?_
    refine W.callV ok (rest := [(.int ((0 : Nat).toInt32))]) (cl' := (true, [])) (pc' := 19) (w41 hw) (w42 hw) (w44 hw) (w43 hw) (w7 hw) (w45 hw) (by decide) Tt.exa pd_1 rfl (k_length l Z a0 hE s cs hh Tt (by omega)) (fun _ q => (nomatch q)) (fun q => ⟨q, fun _ q => (nomatch q)⟩) rfl rfl (Nat.le_of_ble_eq_true rfl) (Nat.le_of_ble_eq_true rfl) (Nat.le_of_ble_eq_true rfl) (Nat.le_of_ble_eq_true rfl) d_prog_26_method_4_16 rfl rfl (pureK ?_)
    show W B hh 2 7 M' (true, []) 19 #[.val (.ref s), .val (.ref a1), .val (.int ((0 : Nat).toInt32)), s3] [(.int cs.length.toInt32), (.int ((0 : Nat).toInt32))]
    rcases Nat.lt_or_ge 0 cs.length with hlt | hge
    · refine W.icmpge ok (pcY := 142) (pcN := 22) d_prog_26_method_4_19 rfl (by decide) rfl (fun _ => ?_) (fun q => absurd ((i32_lt (a := 0) (by omega) (by omega)).mpr hlt) q)
      obtain ⟨c, hc⟩ := at_lt hlt
      have rc := Tt.rng c (mem_of_at hc)
      have es := esc_step hc
      refine W.aloadN ok (pc' := 23) d_prog_26_method_4_22 rfl rfl rfl ?_
      refine W.iloadN ok (pc' := 24) d_prog_26_method_4_23 rfl rfl ?_
      refine W.callV ok (rest := []) (cl' := (true, [])) (pc' := 27) (w66 hw) (w67 hw) (w69 hw) (w68 hw) (w7 hw) (w70 hw) (by decide) Tt.exa pd_36 rfl (k_charAt l Z a0 hE s cs 0 c hh Tt hc (by omega)) (fun _ q => (nomatch q)) (fun q => ⟨q, fun _ q => (nomatch q)⟩) rfl rfl (Nat.le_of_ble_eq_true rfl) (Nat.le_of_ble_eq_true rfl) (Nat.le_of_ble_eq_true rfl) (Nat.le_of_ble_eq_true rfl) d_prog_26_method_4_24 rfl rfl (pureK ?_)
      show W B hh 2 7 M' (true, []) 27 #[.val (.ref s), .val (.ref a1), .val (.int ((0 : Nat).toInt32)), s3] [(.int c)]
      refine W.istoreNS ok (pc' := 28) (L' := #[.val (.ref s), .val (.ref a1), .val (.int ((0 : Nat).toInt32)), .val (.int c)]) d_prog_26_method_4_27 rfl rfl h3 rfl ?_
      refine W.iloadN ok (pc' := 29) d_prog_26_method_4_28 rfl rfl ?_
      by_cases e38 : c = 38
      · subst e38
        refine W.lsHit ok (pc' := 80) (a := 38) (off := 51) d_prog_26_method_4_29 (by decide) (by decide) (by decide) rfl ?_
        refine W.aloadN ok (pc' := 81) d_prog_26_method_4_80 rfl rfl rfl ?_
        refine W.ldcS ok (pc' := 83) rfl (text := "&amp;") (sz := 20) (w88 hw) (fun d hd => hw d ((by decide +kernel : ∀ d ∈ Bundle.stringAtoms, d ∈ tables_1) d hd)) (hE.held _ (List.mem_of_getElem? (i := 0) rfl)) hE.cw (by decide) (Or.inl rfl) (by decide) (by decide) d_prog_26_method_4_81 rfl (Nat.le_of_ble_eq_true rfl) (Nat.le_of_ble_eq_true rfl) (fun a84 h85 E86 Sl => ?_)
        have Ef := ExtT Eh E86
        refine W.callV ok (rest := []) (cl' := (true, ("copperpot/web/HtmlTemplate", 69) :: [])) (pc' := 86) (w91 hw) (w92 hw) (w94 hw) (w93 hw) (w40 hw) (w95 hw) (by decide) (G.ext E86).exa pd_38 rfl (k_gAppS l Z a0 hE a1 t (esc (cs.take 0)) cap a84 [38, 97, 109, 112, 59] h85 (G.ext E86) (by simp only [List.length_cons, List.length_nil]; omega) hcap (Sl.str.cast (by decide)) (by decide) (Sl.ne tM)) (fun w q => by simp only [List.mem_cons, List.not_mem_nil, or_false] at q; rcases q with rfl | rfl; exact ⟨bM, (Or.inr z3)⟩; exact ⟨tM, (Or.inr nt)⟩) (fun q => ⟨q, fun w q => by simp only [List.mem_cons, List.not_mem_nil, or_false] at q; rcases q with rfl | rfl; exact z3; exact nt⟩) rfl rfl (Nat.le_of_ble_eq_true rfl) (Nat.le_of_ble_eq_true rfl) (Nat.le_of_ble_eq_true rfl) (Nat.le_of_ble_eq_true rfl) d_prog_26_method_4_83 rfl rfl (fun N89 v h87 hq K88 => ?_)
        obtain ⟨rfl, t2, cap2, G2, hc2, hf2, -⟩ := hq
        show W B h87 5 103 (N89 ++ M') (true, ("copperpot/web/HtmlTemplate", 69) :: []) 86 #[.val (.ref s), .val (.ref a1), .val (.int ((0 : Nat).toInt32)), .val (.int (38 : Int32))] [(.ref a1)]
        refine W.pop1 ok (pc' := 87) d_prog_26_method_4_86 rfl rfl ?_
        refine W.goto ok (pc' := 136) d_prog_26_method_4_87 (by decide) rfl ?_
        refine W.iinc ok (pc' := 139) (L' := #[.val (.ref s), .val (.ref a1), .val (.int (((0 : Nat).toInt32) + (1 : Int32))), .val (.int (38 : Int32))]) (1 : Int32) d_prog_26_method_4_136 rfl rfl rfl rfl ?_
        refine W.goto ok (pc' := 14) d_prog_26_method_4_139 (by decide) rfl ?_
        have EE := ExtK Ef K88 (fun w q => by simp only [List.mem_cons, List.not_mem_nil, or_false] at q; rcases q with q | q <;> rw [q]; exact z3; exact nt)
        refine W.weaken (k' := 5) (n' := 151) (cl' := (true, [])) (by decide) (by decide) (fun q => q) (fun e q => by first | exact q | (nomatch q)) ?_
        rw [i32_succ]
        exact head1 _ _ t2 cap2 (.val (.int (38 : Int32))) (fun x q => List.mem_append_right _ (hMM x q)) (List.mem_append_right _ bM) (hf2.elim (fun e => by rw [e]; exact List.mem_append_right _ tM) (fun z => List.mem_append_left _ z.1)) (hf2.elim (fun e => by rw [e]; exact nt) (fun z => Nat.le_trans Ef.1 z.2)) EE (by rw [es]; exact G2) hc2 (One.val rfl) (by omega)
      · by_cases e60 : c = 60
        · subst e60
          refine W.lsHit ok (pc' := 90) (a := 60) (off := 61) d_prog_26_method_4_29 (by decide) (by decide) (by decide) rfl ?_
          refine W.aloadN ok (pc' := 91) d_prog_26_method_4_90 rfl rfl rfl ?_
          refine W.ldcS ok (pc' := 93) rfl (text := "&lt;") (sz := 16) (w239 hw) (fun d hd => hw d ((by decide +kernel : ∀ d ∈ Bundle.stringAtoms, d ∈ tables_1) d hd)) (hE.held _ (List.mem_of_getElem? (i := 1) rfl)) hE.cw (by decide) (Or.inl rfl) (by decide) (by decide) d_prog_26_method_4_91 rfl (Nat.le_of_ble_eq_true rfl) (Nat.le_of_ble_eq_true rfl) (fun a90 h91 E92 Sl => ?_)
          have Ef := ExtT Eh E92
          refine W.callV ok (rest := []) (cl' := (true, ("copperpot/web/HtmlTemplate", 75) :: [])) (pc' := 96) (w91 hw) (w92 hw) (w94 hw) (w93 hw) (w40 hw) (w95 hw) (by decide) (G.ext E92).exa pd_38 rfl (k_gAppS l Z a0 hE a1 t (esc (cs.take 0)) cap a90 [38, 108, 116, 59] h91 (G.ext E92) (by simp only [List.length_cons, List.length_nil]; omega) hcap (Sl.str.cast (by decide)) (by decide) (Sl.ne tM)) (fun w q => by simp only [List.mem_cons, List.not_mem_nil, or_false] at q; rcases q with rfl | rfl; exact ⟨bM, (Or.inr z3)⟩; exact ⟨tM, (Or.inr nt)⟩) (fun q => ⟨q, fun w q => by simp only [List.mem_cons, List.not_mem_nil, or_false] at q; rcases q with rfl | rfl; exact z3; exact nt⟩) rfl rfl (Nat.le_of_ble_eq_true rfl) (Nat.le_of_ble_eq_true rfl) (Nat.le_of_ble_eq_true rfl) (Nat.le_of_ble_eq_true rfl) d_prog_26_method_4_93 rfl rfl (fun N95 v h93 hq K94 => ?_)
          obtain ⟨rfl, t2, cap2, G2, hc2, hf2, -⟩ := hq
          show W B h93 5 99 (N95 ++ M') (true, ("copperpot/web/HtmlTemplate", 75) :: []) 96 #[.val (.ref s), .val (.ref a1), .val (.int ((0 : Nat).toInt32)), .val (.int (60 : Int32))] [(.ref a1)]
          refine W.pop1 ok (pc' := 97) d_prog_26_method_4_96 rfl rfl ?_
          refine W.goto ok (pc' := 136) d_prog_26_method_4_97 (by decide) rfl ?_
          refine W.iinc ok (pc' := 139) (L' := #[.val (.ref s), .val (.ref a1), .val (.int (((0 : Nat).toInt32) + (1 : Int32))), .val (.int (60 : Int32))]) (1 : Int32) d_prog_26_method_4_136 rfl rfl rfl rfl ?_
          refine W.goto ok (pc' := 14) d_prog_26_method_4_139 (by decide) rfl ?_
          have EE := ExtK Ef K94 (fun w q => by simp only [List.mem_cons, List.not_mem_nil, or_false] at q; rcases q with q | q <;> rw [q]; exact z3; exact nt)
          refine W.weaken (k' := 5) (n' := 151) (cl' := (true, [])) (by decide) (by decide) (fun q => q) (fun e q => by first | exact q | (nomatch q)) ?_
          rw [i32_succ]
          exact head1 _ _ t2 cap2 (.val (.int (60 : Int32))) (fun x q => List.mem_append_right _ (hMM x q)) (List.mem_append_right _ bM) (hf2.elim (fun e => by rw [e]; exact List.mem_append_right _ tM) (fun z => List.mem_append_left _ z.1)) (hf2.elim (fun e => by rw [e]; exact nt) (fun z => Nat.le_trans Ef.1 z.2)) EE (by rw [es]; exact G2) hc2 (One.val rfl) (by omega)
        · by_cases e62 : c = 62
          · subst e62
            refine W.lsHit ok (pc' := 100) (a := 62) (off := 71) d_prog_26_method_4_29 (by decide) (by decide) (by decide) rfl ?_
            refine W.aloadN ok (pc' := 101) d_prog_26_method_4_100 rfl rfl rfl ?_
            refine W.ldcS ok (pc' := 103) rfl (text := "&gt;") (sz := 16) (w299 hw) (fun d hd => hw d ((by decide +kernel : ∀ d ∈ Bundle.stringAtoms, d ∈ tables_1) d hd)) (hE.held _ (List.mem_of_getElem? (i := 2) rfl)) hE.cw (by decide) (Or.inl rfl) (by decide) (by decide) d_prog_26_method_4_101 rfl (Nat.le_of_ble_eq_true rfl) (Nat.le_of_ble_eq_true rfl) (fun a96 h97 E98 Sl => ?_)
            have Ef := ExtT Eh E98
            refine W.callV ok (rest := []) (cl' := (true, ("copperpot/web/HtmlTemplate", 77) :: [])) (pc' := 106) (w91 hw) (w92 hw) (w94 hw) (w93 hw) (w40 hw) (w95 hw) (by decide) (G.ext E98).exa pd_38 rfl (k_gAppS l Z a0 hE a1 t (esc (cs.take 0)) cap a96 [38, 103, 116, 59] h97 (G.ext E98) (by simp only [List.length_cons, List.length_nil]; omega) hcap (Sl.str.cast (by decide)) (by decide) (Sl.ne tM)) (fun w q => by simp only [List.mem_cons, List.not_mem_nil, or_false] at q; rcases q with rfl | rfl; exact ⟨bM, (Or.inr z3)⟩; exact ⟨tM, (Or.inr nt)⟩) (fun q => ⟨q, fun w q => by simp only [List.mem_cons, List.not_mem_nil, or_false] at q; rcases q with rfl | rfl; exact z3; exact nt⟩) rfl rfl (Nat.le_of_ble_eq_true rfl) (Nat.le_of_ble_eq_true rfl) (Nat.le_of_ble_eq_true rfl) (Nat.le_of_ble_eq_true rfl) d_prog_26_method_4_103 rfl rfl (fun N101 v h99 hq K100 => ?_)
            obtain ⟨rfl, t2, cap2, G2, hc2, hf2, -⟩ := hq
            show W B h99 5 99 (N101 ++ M') (true, ("copperpot/web/HtmlTemplate", 77) :: []) 106 #[.val (.ref s), .val (.ref a1), .val (.int ((0 : Nat).toInt32)), .val (.int (62 : Int32))] [(.ref a1)]
            refine W.pop1 ok (pc' := 107) d_prog_26_method_4_106 rfl rfl ?_
            refine W.goto ok (pc' := 136) d_prog_26_method_4_107 (by decide) rfl ?_
            refine W.iinc ok (pc' := 139) (L' := #[.val (.ref s), .val (.ref a1), .val (.int (((0 : Nat).toInt32) + (1 : Int32))), .val (.int (62 : Int32))]) (1 : Int32) d_prog_26_method_4_136 rfl rfl rfl rfl ?_
            refine W.goto ok (pc' := 14) d_prog_26_method_4_139 (by decide) rfl ?_
            have EE := ExtK Ef K100 (fun w q => by simp only [List.mem_cons, List.not_mem_nil, or_false] at q; rcases q with q | q <;> rw [q]; exact z3; exact nt)
            refine W.weaken (k' := 5) (n' := 151) (cl' := (true, [])) (by decide) (by decide) (fun q => q) (fun e q => by first | exact q | (nomatch q)) ?_
            rw [i32_succ]
            exact head1 _ _ t2 cap2 (.val (.int (62 : Int32))) (fun x q => List.mem_append_right _ (hMM x q)) (List.mem_append_right _ bM) (hf2.elim (fun e => by rw [e]; exact List.mem_append_right _ tM) (fun z => List.mem_append_left _ z.1)) (hf2.elim (fun e => by rw [e]; exact nt) (fun z => Nat.le_trans Ef.1 z.2)) EE (by rw [es]; exact G2) hc2 (One.val rfl) (by omega)
          · by_cases e34 : c = 34
            · subst e34
              refine W.lsHit ok (pc' := 110) (a := 34) (off := 81) d_prog_26_method_4_29 (by decide) (by decide) (by decide) rfl ?_
              refine W.aloadN ok (pc' := 111) d_prog_26_method_4_110 rfl rfl rfl ?_
              refine W.ldcS ok (pc' := 113) rfl (text := "&quot;") (sz := 24) (w205 hw) (fun d hd => hw d ((by decide +kernel : ∀ d ∈ Bundle.stringAtoms, d ∈ tables_1) d hd)) (hE.held _ (List.mem_of_getElem? (i := 3) rfl)) hE.cw (by decide) (Or.inl rfl) (by decide) (by decide) d_prog_26_method_4_111 rfl (Nat.le_of_ble_eq_true rfl) (Nat.le_of_ble_eq_true rfl) (fun a102 h103 E104 Sl => ?_)
              have Ef := ExtT Eh E104
              refine W.callV ok (rest := []) (cl' := (true, ("copperpot/web/HtmlTemplate", 79) :: [])) (pc' := 116) (w91 hw) (w92 hw) (w94 hw) (w93 hw) (w40 hw) (w95 hw) (by decide) (G.ext E104).exa pd_38 rfl (k_gAppS l Z a0 hE a1 t (esc (cs.take 0)) cap a102 [38, 113, 117, 111, 116, 59] h103 (G.ext E104) (by simp only [List.length_cons, List.length_nil]; omega) hcap (Sl.str.cast (by decide)) (by decide) (Sl.ne tM)) (fun w q => by simp only [List.mem_cons, List.not_mem_nil, or_false] at q; rcases q with rfl | rfl; exact ⟨bM, (Or.inr z3)⟩; exact ⟨tM, (Or.inr nt)⟩) (fun q => ⟨q, fun w q => by simp only [List.mem_cons, List.not_mem_nil, or_false] at q; rcases q with rfl | rfl; exact z3; exact nt⟩) rfl rfl (Nat.le_of_ble_eq_true rfl) (Nat.le_of_ble_eq_true rfl) (Nat.le_of_ble_eq_true rfl) (Nat.le_of_ble_eq_true rfl) d_prog_26_method_4_113 rfl rfl (fun N107 v h105 hq K106 => ?_)
              obtain ⟨rfl, t2, cap2, G2, hc2, hf2, -⟩ := hq
              show W B h105 5 107 (N107 ++ M') (true, ("copperpot/web/HtmlTemplate", 79) :: []) 116 #[.val (.ref s), .val (.ref a1), .val (.int ((0 : Nat).toInt32)), .val (.int (34 : Int32))] [(.ref a1)]
              refine W.pop1 ok (pc' := 117) d_prog_26_method_4_116 rfl rfl ?_
              refine W.goto ok (pc' := 136) d_prog_26_method_4_117 (by decide) rfl ?_
              refine W.iinc ok (pc' := 139) (L' := #[.val (.ref s), .val (.ref a1), .val (.int (((0 : Nat).toInt32) + (1 : Int32))), .val (.int (34 : Int32))]) (1 : Int32) d_prog_26_method_4_136 rfl rfl rfl rfl ?_
              refine W.goto ok (pc' := 14) d_prog_26_method_4_139 (by decide) rfl ?_
              have EE := ExtK Ef K106 (fun w q => by simp only [List.mem_cons, List.not_mem_nil, or_false] at q; rcases q with q | q <;> rw [q]; exact z3; exact nt)
              refine W.weaken (k' := 5) (n' := 151) (cl' := (true, [])) (by decide) (by decide) (fun q => q) (fun e q => by first | exact q | (nomatch q)) ?_
              rw [i32_succ]
              exact head1 _ _ t2 cap2 (.val (.int (34 : Int32))) (fun x q => List.mem_append_right _ (hMM x q)) (List.mem_append_right _ bM) (hf2.elim (fun e => by rw [e]; exact List.mem_append_right _ tM) (fun z => List.mem_append_left _ z.1)) (hf2.elim (fun e => by rw [e]; exact nt) (fun z => Nat.le_trans Ef.1 z.2)) EE (by rw [es]; exact G2) hc2 (One.val rfl) (by omega)
            · by_cases e39 : c = 39
              · subst e39
                refine W.lsHit ok (pc' := 120) (a := 39) (off := 91) d_prog_26_method_4_29 (by decide) (by decide) (by decide) rfl ?_
                refine W.aloadN ok (pc' := 121) d_prog_26_method_4_120 rfl rfl rfl ?_
                refine W.ldcS ok (pc' := 123) rfl (text := "&#39;") (sz := 20) (w204 hw) (fun d hd => hw d ((by decide +kernel : ∀ d ∈ Bundle.stringAtoms, d ∈ tables_1) d hd)) (hE.held _ (List.mem_of_getElem? (i := 4) rfl)) hE.cw (by decide) (Or.inl rfl) (by decide) (by decide) d_prog_26_method_4_121 rfl (Nat.le_of_ble_eq_true rfl) (Nat.le_of_ble_eq_true rfl) (fun a108 h109 E110 Sl => ?_)
                have Ef := ExtT Eh E110
                refine W.callV ok (rest := []) (cl' := (true, ("copperpot/web/HtmlTemplate", 81) :: [])) (pc' := 126) (w91 hw) (w92 hw) (w94 hw) (w93 hw) (w40 hw) (w95 hw) (by decide) (G.ext E110).exa pd_38 rfl (k_gAppS l Z a0 hE a1 t (esc (cs.take 0)) cap a108 [38, 35, 51, 57, 59] h109 (G.ext E110) (by simp only [List.length_cons, List.length_nil]; omega) hcap (Sl.str.cast (by decide)) (by decide) (Sl.ne tM)) (fun w q => by simp only [List.mem_cons, List.not_mem_nil, or_false] at q; rcases q with rfl | rfl; exact ⟨bM, (Or.inr z3)⟩; exact ⟨tM, (Or.inr nt)⟩) (fun q => ⟨q, fun w q => by simp only [List.mem_cons, List.not_mem_nil, or_false] at q; rcases q with rfl | rfl; exact z3; exact nt⟩) rfl rfl (Nat.le_of_ble_eq_true rfl) (Nat.le_of_ble_eq_true rfl) (Nat.le_of_ble_eq_true rfl) (Nat.le_of_ble_eq_true rfl) d_prog_26_method_4_123 rfl rfl (fun N113 v h111 hq K112 => ?_)
                obtain ⟨rfl, t2, cap2, G2, hc2, hf2, -⟩ := hq
                show W B h111 5 103 (N113 ++ M') (true, ("copperpot/web/HtmlTemplate", 81) :: []) 126 #[.val (.ref s), .val (.ref a1), .val (.int ((0 : Nat).toInt32)), .val (.int (39 : Int32))] [(.ref a1)]
                refine W.pop1 ok (pc' := 127) d_prog_26_method_4_126 rfl rfl ?_
                refine W.goto ok (pc' := 136) d_prog_26_method_4_127 (by decide) rfl ?_
                refine W.iinc ok (pc' := 139) (L' := #[.val (.ref s), .val (.ref a1), .val (.int (((0 : Nat).toInt32) + (1 : Int32))), .val (.int (39 : Int32))]) (1 : Int32) d_prog_26_method_4_136 rfl rfl rfl rfl ?_
                refine W.goto ok (pc' := 14) d_prog_26_method_4_139 (by decide) rfl ?_
                have EE := ExtK Ef K112 (fun w q => by simp only [List.mem_cons, List.not_mem_nil, or_false] at q; rcases q with q | q <;> rw [q]; exact z3; exact nt)
                refine W.weaken (k' := 5) (n' := 151) (cl' := (true, [])) (by decide) (by decide) (fun q => q) (fun e q => by first | exact q | (nomatch q)) ?_
                rw [i32_succ]
                exact head1 _ _ t2 cap2 (.val (.int (39 : Int32))) (fun x q => List.mem_append_right _ (hMM x q)) (List.mem_append_right _ bM) (hf2.elim (fun e => by rw [e]; exact List.mem_append_right _ tM) (fun z => List.mem_append_left _ z.1)) (hf2.elim (fun e => by rw [e]; exact nt) (fun z => Nat.le_trans Ef.1 z.2)) EE (by rw [es]; exact G2) hc2 (One.val rfl) (by omega)
              · refine W.lsMiss ok (pc' := 130) d_prog_26_method_4_29 (by decide) (miss5 e34 e38 e39 e60 e62) (by decide) rfl ?_
                refine W.aloadN ok (pc' := 131) d_prog_26_method_4_130 rfl rfl rfl ?_
                refine W.iloadN ok (pc' := 132) d_prog_26_method_4_131 rfl rfl ?_
                have ep : pc c = [c] := by rw [pc, if_neg e38, if_neg e60, if_neg e62, if_neg e34, if_neg e39]
                rw [ep] at es
                refine W.callV ok (rest := []) (cl' := (true, [])) (pc' := 135) (w214 hw) (w215 hw) (w217 hw) (w216 hw) (w40 hw) (w218 hw) (by decide) G.exa pd_39 rfl (k_gAppC l Z a0 hE a1 t (esc (cs.take 0)) cap c hh G rc (by omega) hcap) (fun w q => by simp only [List.mem_cons, List.not_mem_nil, or_false] at q; rcases q with rfl | rfl; exact ⟨bM, (Or.inr z3)⟩; exact ⟨tM, (Or.inr nt)⟩) (fun q => ⟨q, fun w q => by simp only [List.mem_cons, List.not_mem_nil, or_false] at q; rcases q with rfl | rfl; exact z3; exact nt⟩) rfl rfl (Nat.le_of_ble_eq_true rfl) (Nat.le_of_ble_eq_true rfl) (Nat.le_of_ble_eq_true rfl) (Nat.le_of_ble_eq_true rfl) d_prog_26_method_4_132 rfl rfl (fun N116 v h114 hq K115 => ?_)
                obtain ⟨rfl, t2, cap2, G2, hc2, hf2, -⟩ := hq
                show W B h114 4 151 (N116 ++ M') (true, []) 135 #[.val (.ref s), .val (.ref a1), .val (.int ((0 : Nat).toInt32)), .val (.int c)] [(.ref a1)]
                refine W.pop1 ok (pc' := 136) d_prog_26_method_4_135 rfl rfl ?_
                refine W.iinc ok (pc' := 139) (L' := #[.val (.ref s), .val (.ref a1), .val (.int (((0 : Nat).toInt32) + (1 : Int32))), .val (.int c)]) (1 : Int32) d_prog_26_method_4_136 rfl rfl rfl rfl ?_
                refine W.goto ok (pc' := 14) d_prog_26_method_4_139 (by decide) rfl ?_
                have EE := ExtK Eh K115 (fun w q => by simp only [List.mem_cons, List.not_mem_nil, or_false] at q; rcases q with q | q <;> rw [q]; exact z3; exact nt)
                refine W.weaken (k' := 5) (n' := 151) (cl' := (true, [])) (by decide) (by decide) (fun q => q) (fun e q => by first | exact q | (nomatch q)) ?_
                rw [i32_succ]
                exact head1 _ _ t2 cap2 (.val (.int c)) (fun x q => List.mem_append_right _ (hMM x q)) (List.mem_append_right _ bM) (hf2.elim (fun e => by rw [e]; exact List.mem_append_right _ tM) (fun z => List.mem_append_left _ z.1)) (hf2.elim (fun e => by rw [e]; exact nt) (fun z => Nat.le_trans Eh.1 z.2)) EE (by rw [es]; exact G2) hc2 (One.val rfl) (by omega)
    · refine W.icmpge ok (pcY := 142) (pcN := 22) d_prog_26_method_4_19 rfl (by decide) rfl (fun q => absurd q (by rw [i32_lt (by omega) (by omega)]; omega)) (fun _ => ?_)
      refine W.aloadN ok (pc' := 143) d_prog_26_method_4_142 rfl rfl rfl ?_
      refine W.callV ok (rest := []) (cl' := (true, [])) (pc' := 146) (w152 hw) (w153 hw) (w155 hw) (w154 hw) (w40 hw) (w156 hw) (by decide) G.exa pd_37 rfl (k_gStr l Z a0 hE a1 t (esc (cs.take 0)) cap hh G (by omega) (by omega)) (fun _ q => (nomatch q)) (fun q => ⟨q, fun _ q => (nomatch q)⟩) rfl rfl (Nat.le_of_ble_eq_true rfl) (Nat.le_of_ble_eq_true rfl) (Nat.le_of_ble_eq_true rfl) (Nat.le_of_ble_eq_true rfl) d_prog_26_method_4_143 rfl rfl (oldK fun v h117 hq K118 => ?_)
      obtain ⟨r, rfl, -, Sr⟩ := hq
      show W B h117 4 47 M' (true, []) 146 #[.val (.ref s), .val (.ref a1), .val (.int ((0 : Nat).toInt32)), s3] [(.ref r)]
      exact W.retA ok d_prog_26_method_4_146 rfl rfl (Nat.le_of_ble_eq_true rfl) (Nat.le_of_ble_eq_true rfl) hMM (fun kp => ⟨r, rfl, (Sr.mono (fun x q => Or.inl (hMM x q))).cast (by rw [List.take_of_length_le (by omega)])⟩)
  exact head0 _ _ t0 cs.length _ (fun x q => (List.mem_cons_of_mem _ (List.mem_cons_of_mem _ q))) (List.mem_cons_of_mem _ (List.mem_cons_self ..)) (List.mem_cons_self ..) nt0 E0 G0 (by omega) One.u (by omega)
set_option maxRecDepth 65536 in
set_option maxHeartbeats 4000000 in
theorem k_law (l : Launch) (Z : State) (a0 : Array Value) (hE : Ev Z a0) (p0 p1 p2 p3 : Int32) (h : Heap)  : Con l Z false (⟨"copperpot/web/HtmlTemplateEscapePinLaw", "law", "(IIII)Z"⟩ : MethodName) code 14 (some .boolean) ({ frames := 13, cells := 64, slots := 12672, locals := 272 } : Room) [(.int p0), (.int p1), (.int p2), (.int p3)] h [] false (fun M v h' => v = some (.int 1)) := by
  have hw := hE.1
  refine Con.intro (L0 := #[.val (.int p0), .val (.int p1), .val (.int p2), .val (.int p3), .unset, .unset, .unset, .unset, .unset, .unset, .unset, .unset, .unset, .unset]) (by decide +kernel) (fun m => ef_of rfl) ?_
  intro B M hwsM ok
  refine W.iloadN ok (pc' := 1) at_0 rfl rfl ?_
  refine W.iconst ok (pc' := 2) (3 : Int32) at_1 rfl rfl ?_
  refine W.iand ok (pc' := 3) at_2 rfl ?_
  generalize hn : (p3 &&& (3 : Int32)) = n
  have rn : 0 ≤ n.toInt ∧ n.toInt < 4 := by have m1 := maskI p3 3 2 (by decide) (by decide); rw [hn] at m1; exact m1
  refine W.istore ok (pc' := 5) (L' := #[.val (.int p0), .val (.int p1), .val (.int p2), .val (.int p3), .val (.int n), .unset, .unset, .unset, .unset, .unset, .unset, .unset, .unset, .unset]) at_3 rfl rfl ?_
  refine W.iloadN ok (pc' := 6) at_5 rfl rfl ?_
  refine W.callS ok (rest := []) (cl' := (true, [])) (pc' := 9) (w0 hw) (w1 hw) (w2 hw) (w3 hw) (by decide) pd_36 rfl (k_pick l Z a0 hE p0 h) (fun _ q => (nomatch q)) (fun q => ⟨q, fun _ q => (nomatch q)⟩) rfl rfl (Nat.le_of_ble_eq_true rfl) (Nat.le_of_ble_eq_true rfl) (Nat.le_of_ble_eq_true rfl) (Nat.le_of_ble_eq_true rfl) at_6 rfl rfl (pureK ?_)
  show W B h 0 0 M (true, []) 9 #[.val (.int p0), .val (.int p1), .val (.int p2), .val (.int p3), .val (.int n), .unset, .unset, .unset, .unset, .unset, .unset, .unset, .unset, .unset] [(.int (pk p0))]
  generalize hc0 : (pk p0) = c0
  have rc0 : 0 ≤ c0.toInt ∧ c0.toInt ≤ 65535 := by rw [← hc0]; exact pk_rng _
  refine W.istore ok (pc' := 11) (L' := #[.val (.int p0), .val (.int p1), .val (.int p2), .val (.int p3), .val (.int n), .val (.int c0), .unset, .unset, .unset, .unset, .unset, .unset, .unset, .unset]) at_9 rfl rfl ?_
  refine W.iloadN ok (pc' := 12) at_11 rfl rfl ?_
  refine W.callS ok (rest := []) (cl' := (true, [])) (pc' := 15) (w0 hw) (w1 hw) (w2 hw) (w3 hw) (by decide) pd_36 rfl (k_pick l Z a0 hE p1 h) (fun _ q => (nomatch q)) (fun q => ⟨q, fun _ q => (nomatch q)⟩) rfl rfl (Nat.le_of_ble_eq_true rfl) (Nat.le_of_ble_eq_true rfl) (Nat.le_of_ble_eq_true rfl) (Nat.le_of_ble_eq_true rfl) at_12 rfl rfl (pureK ?_)
  show W B h 0 0 M (true, []) 15 #[.val (.int p0), .val (.int p1), .val (.int p2), .val (.int p3), .val (.int n), .val (.int c0), .unset, .unset, .unset, .unset, .unset, .unset, .unset, .unset] [(.int (pk p1))]
  generalize hc1 : (pk p1) = c1
  have rc1 : 0 ≤ c1.toInt ∧ c1.toInt ≤ 65535 := by rw [← hc1]; exact pk_rng _
  refine W.istore ok (pc' := 17) (L' := #[.val (.int p0), .val (.int p1), .val (.int p2), .val (.int p3), .val (.int n), .val (.int c0), .val (.int c1), .unset, .unset, .unset, .unset, .unset, .unset, .unset]) at_15 rfl rfl ?_
  refine W.iloadN ok (pc' := 18) at_17 rfl rfl ?_
  refine W.callS ok (rest := []) (cl' := (true, [])) (pc' := 21) (w0 hw) (w1 hw) (w2 hw) (w3 hw) (by decide) pd_36 rfl (k_pick l Z a0 hE p2 h) (fun _ q => (nomatch q)) (fun q => ⟨q, fun _ q => (nomatch q)⟩) rfl rfl (Nat.le_of_ble_eq_true rfl) (Nat.le_of_ble_eq_true rfl) (Nat.le_of_ble_eq_true rfl) (Nat.le_of_ble_eq_true rfl) at_18 rfl rfl (pureK ?_)
  show W B h 0 0 M (true, []) 21 #[.val (.int p0), .val (.int p1), .val (.int p2), .val (.int p3), .val (.int n), .val (.int c0), .val (.int c1), .unset, .unset, .unset, .unset, .unset, .unset, .unset] [(.int (pk p2))]
  generalize hc2 : (pk p2) = c2
  have rc2 : 0 ≤ c2.toInt ∧ c2.toInt ≤ 65535 := by rw [← hc2]; exact pk_rng _
  refine W.istore ok (pc' := 23) (L' := #[.val (.int p0), .val (.int p1), .val (.int p2), .val (.int p3), .val (.int n), .val (.int c0), .val (.int c1), .val (.int c2), .unset, .unset, .unset, .unset, .unset, .unset]) at_21 rfl rfl ?_
  refine W.iload ok (pc' := 25) at_23 rfl rfl ?_
  refine W.ifne ok (pcY := 36) (pcN := 28) at_25 rfl (by decide) rfl (fun q0 => ?_) (fun q0 => ?_)
  · subst q0
    refine W.lt fun hM => ?_
    refine W.iconst ok (pc' := 29) (0 : Int32) at_28 rfl rfl ?_
    refine W.newC ok (pc' := 31) (cap := 0) (w4 hw) (by decide) (by decide) (by decide) at_29 rfl (Nat.le_of_ble_eq_true rfl) (Nat.le_of_ble_eq_true rfl) (fun a1 h2 z3 ea4 E5 A6 => ?_)
    replace A6 := A6.cast (cs' := []) rfl
    refine W.astore ok (pc' := 33) (L' := #[.val (.int p0), .val (.int p1), .val (.int p2), .val (.int p3), .val (.int (0 : Int32)), .val (.int c0), .val (.int c1), .val (.int c2), .val (.ref a1), .unset, .unset, .unset, .unset, .unset]) at_31 rfl rfl rfl ?_
    refine W.goto ok (pc' := 99) at_33 (by decide) rfl ?_
    have lb := A6.gt
    refine W.new ok (pc' := 102) (w5 hw) (w6 hw) (w7 hw) at_99 rfl (Nat.le_of_ble_eq_true rfl) (Nat.le_of_ble_eq_true rfl) (fun a7 h8 z9 ea10 E11 X12 D13 U14 => ?_)
    refine W.dup ok (pc' := 103) at_102 rfl rfl ?_
    refine W.aload ok (pc' := 105) at_103 rfl rfl rfl ?_
    have la := gtE X12
    have lE1 := E5.1
    refine W.callI ok (rest := [(.ref a7)]) (cl' := (true, [])) (pc' := 108) rfl (w8 hw) (w9 hw) (w7 hw) (w10 hw) (by decide) pd_40 rfl (k_initC l Z a0 hE a7 a1 [] h8 X12 (D13 (Or.inr (w33 hw)) (ty := (.array .byte)) (by decide)) (D13 (Or.inr (w31 hw)) (ty := .byte) (by decide)) (A6.ext E11) (by simp)) (fun w q => by simp only [List.mem_cons, List.not_mem_nil, or_false] at q; subst q; exact ⟨(List.mem_cons_self ..), (Or.inr z9)⟩) (fun q => ⟨q, fun w q => by simp only [List.mem_cons, List.not_mem_nil, or_false] at q; subst q; exact z9⟩) rfl rfl (Nat.le_of_ble_eq_true rfl) (Nat.le_of_ble_eq_true rfl) (Nat.le_of_ble_eq_true rfl) (Nat.le_of_ble_eq_true rfl) at_105 rfl rfl (oldK fun v h15 hq K16 => ?_)
    obtain ⟨rfl, tt, cd, bs, g1, g2, g3, g4, g5⟩ := hq
    show W B h15 6 79 (a7 :: (a1 :: M)) (true, []) 108 #[.val (.int p0), .val (.int p1), .val (.int p2), .val (.int p3), .val (.int (0 : Int32)), .val (.int c0), .val (.int c1), .val (.int c2), .val (.ref a1), .unset, .unset, .unset, .unset, .unset] [(.ref a7)]
    have Ss : Str Z h15 a7 [] := ⟨tt, cd, bs, X12.keep K16, g2, g3, g4, g5⟩
    refine W.drop (M' := M) (fun x z => (List.mem_cons_of_mem _ (List.mem_cons_of_mem _ z))) ?_
    refine W.callS ok (rest := []) (cl' := (true, [])) (pc' := 111) (w34 hw) (w35 hw) (w36 hw) (w37 hw) (by decide) pd_41 rfl (k_esc l Z a0 hE a7 [] h15 Ss (by simp)) (fun _ q => (nomatch q)) (fun q => ⟨q, fun _ q => (nomatch q)⟩) rfl rfl (Nat.le_of_ble_eq_true rfl) (Nat.le_of_ble_eq_true rfl) (Nat.le_of_ble_eq_true rfl) (Nat.le_of_ble_eq_true rfl) at_108 rfl rfl (oldK fun v h17 hq K18 => ?_)
    obtain ⟨r, rfl, Sr⟩ := hq
    show W B h17 19 558 M (true, []) 111 #[.val (.int p0), .val (.int p1), .val (.int p2), .val (.int p3), .val (.int (0 : Int32)), .val (.int c0), .val (.int c1), .val (.int c2), .val (.ref a1), .unset, .unset, .unset, .unset, .unset] [(.ref r)]
    refine W.astore ok (pc' := 113) (L' := #[.val (.int p0), .val (.int p1), .val (.int p2), .val (.int p3), .val (.int (0 : Int32)), .val (.int c0), .val (.int c1), .val (.int c2), .val (.ref a1), .val (.ref r), .unset, .unset, .unset, .unset]) at_111 rfl rfl rfl ?_
    refine W.iload ok (pc' := 115) at_113 rfl rfl ?_
    have lp0 := pc_len c0
    refine W.ifle ok (pcY := 126) (pcN := 118) at_115 rfl (by decide) rfl (fun q => absurd q (by decide)) (fun _ => ?_)
    refine W.ldcS ok (pc' := 128) rfl (text := "") (sz := 0) (w198 hw) (fun d hd => hw d ((by decide +kernel : ∀ d ∈ Bundle.stringAtoms, d ∈ tables_1) d hd)) (hE.held _ (List.mem_of_getElem? (i := 5) rfl)) hE.cw (by decide) (Or.inl rfl) (by decide) (by decide) at_126 rfl (Nat.le_of_ble_eq_true rfl) (Nat.le_of_ble_eq_true rfl) (fun a19 h20 E21 S0 => ?_)
    have T22 := Sr.ext E21
    have Sq0 := S0.cast (cs' := []) rfl
    refine W.astore ok (pc' := 130) (L' := #[.val (.int p0), .val (.int p1), .val (.int p2), .val (.int p3), .val (.int (0 : Int32)), .val (.int c0), .val (.int c1), .val (.int c2), .val (.ref a1), .val (.ref r), .val (.ref a19), .unset, .unset, .unset]) at_128 rfl rfl rfl ?_
    refine W.iload ok (pc' := 132) at_130 rfl rfl ?_
    refine W.iconst ok (pc' := 133) (1 : Int32) at_132 rfl rfl ?_
    have lp1 := pc_len c1
    refine W.icmple ok (pcY := 144) (pcN := 136) at_133 rfl (by decide) rfl (fun q => absurd q (by decide)) (fun _ => ?_)
    refine W.ldcS ok (pc' := 146) rfl (text := "") (sz := 0) (w198 hw) (fun d hd => hw d ((by decide +kernel : ∀ d ∈ Bundle.stringAtoms, d ∈ tables_1) d hd)) (hE.held _ (List.mem_of_getElem? (i := 5) rfl)) hE.cw (by decide) (Or.inl rfl) (by decide) (by decide) at_144 rfl (Nat.le_of_ble_eq_true rfl) (Nat.le_of_ble_eq_true rfl) (fun a23 h24 E25 S1 => ?_)
    have T26 := T22.ext E25
    have T27 := Sq0.ext E25
    have Sq1 := S1.cast (cs' := []) rfl
    refine W.astore ok (pc' := 148) (L' := #[.val (.int p0), .val (.int p1), .val (.int p2), .val (.int p3), .val (.int (0 : Int32)), .val (.int c0), .val (.int c1), .val (.int c2), .val (.ref a1), .val (.ref r), .val (.ref a19), .val (.ref a23), .unset, .unset]) at_146 rfl rfl rfl ?_
    refine W.iload ok (pc' := 150) at_148 rfl rfl ?_
    refine W.iconst ok (pc' := 151) (2 : Int32) at_150 rfl rfl ?_
    have lp2 := pc_len c2
    refine W.icmple ok (pcY := 162) (pcN := 154) at_151 rfl (by decide) rfl (fun q => absurd q (by decide)) (fun _ => ?_)
    refine W.ldcS ok (pc' := 164) rfl (text := "") (sz := 0) (w198 hw) (fun d hd => hw d ((by decide +kernel : ∀ d ∈ Bundle.stringAtoms, d ∈ tables_1) d hd)) (hE.held _ (List.mem_of_getElem? (i := 5) rfl)) hE.cw (by decide) (Or.inl rfl) (by decide) (by decide) at_162 rfl (Nat.le_of_ble_eq_true rfl) (Nat.le_of_ble_eq_true rfl) (fun a28 h29 E30 S2 => ?_)
    have T31 := T26.ext E30
    have T32 := T27.ext E30
    have T33 := Sq1.ext E30
    have Sq2 := S2.cast (cs' := []) rfl
    refine W.astore ok (pc' := 166) (L' := #[.val (.int p0), .val (.int p1), .val (.int p2), .val (.int p3), .val (.int (0 : Int32)), .val (.int c0), .val (.int c1), .val (.int c2), .val (.ref a1), .val (.ref r), .val (.ref a19), .val (.ref a23), .val (.ref a28), .unset]) at_164 rfl rfl rfl ?_
    refine W.aload ok (pc' := 168) at_166 rfl rfl rfl ?_
    have le_ : (esc []).length = 0 + 0 + 0 := by simp [esc]; try omega
    refine W.callV ok (rest := []) (cl' := (true, ("copperpot/web/HtmlTemplateEscapePinLaw", 28) :: ("copperpot/web/HtmlTemplateEscapePinLaw", 28) :: ("copperpot/web/HtmlTemplateEscapePinLaw", 28) :: [])) (pc' := 171) (w199 hw) (w42 hw) (w44 hw) (w43 hw) (w7 hw) (w45 hw) (by decide) T32.exa pd_1 rfl (k_length l Z a0 hE a19 ([] : List Int32) h29 T32.str (by simp)) (fun _ q => (nomatch q)) (fun q => ⟨q, fun _ q => (nomatch q)⟩) rfl rfl (Nat.le_of_ble_eq_true rfl) (Nat.le_of_ble_eq_true rfl) (Nat.le_of_ble_eq_true rfl) (Nat.le_of_ble_eq_true rfl) at_168 rfl rfl (pureK ?_)
    show W B h29 25 570 M (true, ("copperpot/web/HtmlTemplateEscapePinLaw", 28) :: ("copperpot/web/HtmlTemplateEscapePinLaw", 28) :: ("copperpot/web/HtmlTemplateEscapePinLaw", 28) :: []) 171 #[.val (.int p0), .val (.int p1), .val (.int p2), .val (.int p3), .val (.int (0 : Int32)), .val (.int c0), .val (.int c1), .val (.int c2), .val (.ref a1), .val (.ref r), .val (.ref a19), .val (.ref a23), .val (.ref a28), .unset] [(.int ((0 : Nat).toInt32))]
    refine W.aload ok (pc' := 173) at_171 rfl rfl rfl ?_
    refine W.callV ok (rest := [(.int ((0 : Nat).toInt32))]) (cl' := (true, ("copperpot/web/HtmlTemplateEscapePinLaw", 28) :: ("copperpot/web/HtmlTemplateEscapePinLaw", 28) :: ("copperpot/web/HtmlTemplateEscapePinLaw", 28) :: [])) (pc' := 176) (w199 hw) (w42 hw) (w44 hw) (w43 hw) (w7 hw) (w45 hw) (by decide) T33.exa pd_1 rfl (k_length l Z a0 hE a23 ([] : List Int32) h29 T33.str (by simp)) (fun _ q => (nomatch q)) (fun q => ⟨q, fun _ q => (nomatch q)⟩) rfl rfl (Nat.le_of_ble_eq_true rfl) (Nat.le_of_ble_eq_true rfl) (Nat.le_of_ble_eq_true rfl) (Nat.le_of_ble_eq_true rfl) at_173 rfl rfl (pureK ?_)
    show W B h29 25 570 M (true, ("copperpot/web/HtmlTemplateEscapePinLaw", 28) :: ("copperpot/web/HtmlTemplateEscapePinLaw", 28) :: ("copperpot/web/HtmlTemplateEscapePinLaw", 28) :: []) 176 #[.val (.int p0), .val (.int p1), .val (.int p2), .val (.int p3), .val (.int (0 : Int32)), .val (.int c0), .val (.int c1), .val (.int c2), .val (.ref a1), .val (.ref r), .val (.ref a19), .val (.ref a23), .val (.ref a28), .unset] [(.int ((0 : Nat).toInt32)), (.int ((0 : Nat).toInt32))]
    refine W.iadd ok (pc' := 177) at_176 rfl ?_
    rw [i32_add]
    refine W.aload ok (pc' := 179) at_177 rfl rfl rfl ?_
    refine W.callV ok (rest := [(.int ((0 + 0).toInt32))]) (cl' := (true, ("copperpot/web/HtmlTemplateEscapePinLaw", 28) :: ("copperpot/web/HtmlTemplateEscapePinLaw", 28) :: ("copperpot/web/HtmlTemplateEscapePinLaw", 28) :: [])) (pc' := 182) (w199 hw) (w42 hw) (w44 hw) (w43 hw) (w7 hw) (w45 hw) (by decide) Sq2.exa pd_1 rfl (k_length l Z a0 hE a28 ([] : List Int32) h29 Sq2.str (by simp)) (fun _ q => (nomatch q)) (fun q => ⟨q, fun _ q => (nomatch q)⟩) rfl rfl (Nat.le_of_ble_eq_true rfl) (Nat.le_of_ble_eq_true rfl) (Nat.le_of_ble_eq_true rfl) (Nat.le_of_ble_eq_true rfl) at_179 rfl rfl (pureK ?_)
    show W B h29 25 570 M (true, ("copperpot/web/HtmlTemplateEscapePinLaw", 28) :: ("copperpot/web/HtmlTemplateEscapePinLaw", 28) :: ("copperpot/web/HtmlTemplateEscapePinLaw", 28) :: []) 182 #[.val (.int p0), .val (.int p1), .val (.int p2), .val (.int p3), .val (.int (0 : Int32)), .val (.int c0), .val (.int c1), .val (.int c2), .val (.ref a1), .val (.ref r), .val (.ref a19), .val (.ref a23), .val (.ref a28), .unset] [(.int ((0 : Nat).toInt32)), (.int ((0 + 0).toInt32))]
    refine W.iadd ok (pc' := 183) at_182 rfl ?_
    rw [i32_add]
    refine W.istore ok (pc' := 185) (L' := #[.val (.int p0), .val (.int p1), .val (.int p2), .val (.int p3), .val (.int (0 : Int32)), .val (.int c0), .val (.int c1), .val (.int c2), .val (.ref a1), .val (.ref r), .val (.ref a19), .val (.ref a23), .val (.ref a28), .val (.int ((0 + 0 + 0).toInt32))]) at_183 rfl rfl ?_
    refine W.aload ok (pc' := 187) at_185 rfl rfl rfl ?_
    refine W.callV ok (rest := []) (cl' := (true, ("copperpot/web/HtmlTemplateEscapePinLaw", 28) :: ("copperpot/web/HtmlTemplateEscapePinLaw", 28) :: ("copperpot/web/HtmlTemplateEscapePinLaw", 28) :: [])) (pc' := 190) (w199 hw) (w42 hw) (w44 hw) (w43 hw) (w7 hw) (w45 hw) (by decide) T31.exa pd_1 rfl (k_length l Z a0 hE r (esc []) h29 T31.str (by omega)) (fun _ q => (nomatch q)) (fun q => ⟨q, fun _ q => (nomatch q)⟩) rfl rfl (Nat.le_of_ble_eq_true rfl) (Nat.le_of_ble_eq_true rfl) (Nat.le_of_ble_eq_true rfl) (Nat.le_of_ble_eq_true rfl) at_187 rfl rfl (pureK ?_)
    show W B h29 25 570 M (true, ("copperpot/web/HtmlTemplateEscapePinLaw", 28) :: ("copperpot/web/HtmlTemplateEscapePinLaw", 28) :: ("copperpot/web/HtmlTemplateEscapePinLaw", 28) :: []) 190 #[.val (.int p0), .val (.int p1), .val (.int p2), .val (.int p3), .val (.int (0 : Int32)), .val (.int c0), .val (.int c1), .val (.int c2), .val (.ref a1), .val (.ref r), .val (.ref a19), .val (.ref a23), .val (.ref a28), .val (.int ((0 + 0 + 0).toInt32))] [(.int ((esc []).length.toInt32))]
    refine W.iload ok (pc' := 192) at_190 rfl rfl ?_
    refine W.icmpeq ok (pcY := 197) (pcN := 195) at_192 rfl (by decide) rfl (fun _ => ?_) (fun q => absurd (by rw [le_]) q)
    refine W.aload ok (pc' := 199) at_197 rfl rfl rfl ?_
    refine W.iconst ok (pc' := 200) (0 : Int32) at_199 rfl rfl ?_
    refine W.aload ok (pc' := 202) at_200 rfl rfl rfl ?_
    refine W.callS ok (rest := []) (cl' := (true, ("copperpot/web/HtmlTemplateEscapePinLaw", 28) :: ("copperpot/web/HtmlTemplateEscapePinLaw", 28) :: ("copperpot/web/HtmlTemplateEscapePinLaw", 28) :: [])) (pc' := 205) (w200 hw) (w201 hw) (w2 hw) (w202 hw) (by decide) pd_42 rfl (k_at l Z a0 hE r a19 (esc []) ([] : List Int32) 0 h29 T31.str T32.str (by omega) (by simp) (at_mid (A := []) (D := (([] : List Int32) ++ ([] : List Int32))) (by simp [esc]) (by simp))) (fun _ q => (nomatch q)) (fun q => ⟨q, fun _ q => (nomatch q)⟩) rfl rfl (Nat.le_of_ble_eq_true rfl) (Nat.le_of_ble_eq_true rfl) (Nat.le_of_ble_eq_true rfl) (Nat.le_of_ble_eq_true rfl) at_202 rfl rfl (pureK ?_)
    show W B h29 25 570 M (true, ("copperpot/web/HtmlTemplateEscapePinLaw", 28) :: ("copperpot/web/HtmlTemplateEscapePinLaw", 28) :: ("copperpot/web/HtmlTemplateEscapePinLaw", 28) :: []) 205 #[.val (.int p0), .val (.int p1), .val (.int p2), .val (.int p3), .val (.int (0 : Int32)), .val (.int c0), .val (.int c1), .val (.int c2), .val (.ref a1), .val (.ref r), .val (.ref a19), .val (.ref a23), .val (.ref a28), .val (.int ((0 + 0 + 0).toInt32))] [(.int (1 : Int32))]
    refine W.ifeq ok (pcY := 248) (pcN := 208) at_205 rfl (by decide) rfl (fun q => absurd q (by decide)) (fun _ => ?_)
    refine W.aload ok (pc' := 210) at_208 rfl rfl rfl ?_
    refine W.aload ok (pc' := 212) at_210 rfl rfl rfl ?_
    refine W.callV ok (rest := [(.ref r)]) (cl' := (true, ("copperpot/web/HtmlTemplateEscapePinLaw", 28) :: ("copperpot/web/HtmlTemplateEscapePinLaw", 28) :: ("copperpot/web/HtmlTemplateEscapePinLaw", 28) :: [])) (pc' := 215) (w199 hw) (w42 hw) (w44 hw) (w43 hw) (w7 hw) (w45 hw) (by decide) T32.exa pd_1 rfl (k_length l Z a0 hE a19 ([] : List Int32) h29 T32.str (by simp)) (fun _ q => (nomatch q)) (fun q => ⟨q, fun _ q => (nomatch q)⟩) rfl rfl (Nat.le_of_ble_eq_true rfl) (Nat.le_of_ble_eq_true rfl) (Nat.le_of_ble_eq_true rfl) (Nat.le_of_ble_eq_true rfl) at_212 rfl rfl (pureK ?_)
    show W B h29 25 570 M (true, ("copperpot/web/HtmlTemplateEscapePinLaw", 28) :: ("copperpot/web/HtmlTemplateEscapePinLaw", 28) :: ("copperpot/web/HtmlTemplateEscapePinLaw", 28) :: []) 215 #[.val (.int p0), .val (.int p1), .val (.int p2), .val (.int p3), .val (.int (0 : Int32)), .val (.int c0), .val (.int c1), .val (.int c2), .val (.ref a1), .val (.ref r), .val (.ref a19), .val (.ref a23), .val (.ref a28), .val (.int ((0 + 0 + 0).toInt32))] [(.int ((0 : Nat).toInt32)), (.ref r)]
    refine W.aload ok (pc' := 217) at_215 rfl rfl rfl ?_
    refine W.callS ok (rest := []) (cl' := (true, ("copperpot/web/HtmlTemplateEscapePinLaw", 28) :: ("copperpot/web/HtmlTemplateEscapePinLaw", 28) :: ("copperpot/web/HtmlTemplateEscapePinLaw", 28) :: [])) (pc' := 220) (w200 hw) (w201 hw) (w2 hw) (w202 hw) (by decide) pd_42 rfl (k_at l Z a0 hE r a23 (esc []) ([] : List Int32) (0) h29 T31.str T33.str (by omega) (by simp) (at_mid (A := ([] : List Int32)) (D := ([] : List Int32)) (by simp [esc]) (by simp))) (fun _ q => (nomatch q)) (fun q => ⟨q, fun _ q => (nomatch q)⟩) rfl rfl (Nat.le_of_ble_eq_true rfl) (Nat.le_of_ble_eq_true rfl) (Nat.le_of_ble_eq_true rfl) (Nat.le_of_ble_eq_true rfl) at_217 rfl rfl (pureK ?_)
    show W B h29 25 570 M (true, ("copperpot/web/HtmlTemplateEscapePinLaw", 28) :: ("copperpot/web/HtmlTemplateEscapePinLaw", 28) :: ("copperpot/web/HtmlTemplateEscapePinLaw", 28) :: []) 220 #[.val (.int p0), .val (.int p1), .val (.int p2), .val (.int p3), .val (.int (0 : Int32)), .val (.int c0), .val (.int c1), .val (.int c2), .val (.ref a1), .val (.ref r), .val (.ref a19), .val (.ref a23), .val (.ref a28), .val (.int ((0 + 0 + 0).toInt32))] [(.int (1 : Int32))]
    refine W.ifeq ok (pcY := 248) (pcN := 223) at_220 rfl (by decide) rfl (fun q => absurd q (by decide)) (fun _ => ?_)
    refine W.aload ok (pc' := 225) at_223 rfl rfl rfl ?_
    refine W.aload ok (pc' := 227) at_225 rfl rfl rfl ?_
    refine W.callV ok (rest := [(.ref r)]) (cl' := (true, ("copperpot/web/HtmlTemplateEscapePinLaw", 28) :: ("copperpot/web/HtmlTemplateEscapePinLaw", 28) :: ("copperpot/web/HtmlTemplateEscapePinLaw", 28) :: [])) (pc' := 230) (w199 hw) (w42 hw) (w44 hw) (w43 hw) (w7 hw) (w45 hw) (by decide) T32.exa pd_1 rfl (k_length l Z a0 hE a19 ([] : List Int32) h29 T32.str (by simp)) (fun _ q => (nomatch q)) (fun q => ⟨q, fun _ q => (nomatch q)⟩) rfl rfl (Nat.le_of_ble_eq_true rfl) (Nat.le_of_ble_eq_true rfl) (Nat.le_of_ble_eq_true rfl) (Nat.le_of_ble_eq_true rfl) at_227 rfl rfl (pureK ?_)
    show W B h29 25 570 M (true, ("copperpot/web/HtmlTemplateEscapePinLaw", 28) :: ("copperpot/web/HtmlTemplateEscapePinLaw", 28) :: ("copperpot/web/HtmlTemplateEscapePinLaw", 28) :: []) 230 #[.val (.int p0), .val (.int p1), .val (.int p2), .val (.int p3), .val (.int (0 : Int32)), .val (.int c0), .val (.int c1), .val (.int c2), .val (.ref a1), .val (.ref r), .val (.ref a19), .val (.ref a23), .val (.ref a28), .val (.int ((0 + 0 + 0).toInt32))] [(.int ((0 : Nat).toInt32)), (.ref r)]
    refine W.aload ok (pc' := 232) at_230 rfl rfl rfl ?_
    refine W.callV ok (rest := [(.int ((0 : Nat).toInt32)), (.ref r)]) (cl' := (true, ("copperpot/web/HtmlTemplateEscapePinLaw", 28) :: ("copperpot/web/HtmlTemplateEscapePinLaw", 28) :: ("copperpot/web/HtmlTemplateEscapePinLaw", 28) :: [])) (pc' := 235) (w199 hw) (w42 hw) (w44 hw) (w43 hw) (w7 hw) (w45 hw) (by decide) T33.exa pd_1 rfl (k_length l Z a0 hE a23 ([] : List Int32) h29 T33.str (by simp)) (fun _ q => (nomatch q)) (fun q => ⟨q, fun _ q => (nomatch q)⟩) rfl rfl (Nat.le_of_ble_eq_true rfl) (Nat.le_of_ble_eq_true rfl) (Nat.le_of_ble_eq_true rfl) (Nat.le_of_ble_eq_true rfl) at_232 rfl rfl (pureK ?_)
    show W B h29 25 570 M (true, ("copperpot/web/HtmlTemplateEscapePinLaw", 28) :: ("copperpot/web/HtmlTemplateEscapePinLaw", 28) :: ("copperpot/web/HtmlTemplateEscapePinLaw", 28) :: []) 235 #[.val (.int p0), .val (.int p1), .val (.int p2), .val (.int p3), .val (.int (0 : Int32)), .val (.int c0), .val (.int c1), .val (.int c2), .val (.ref a1), .val (.ref r), .val (.ref a19), .val (.ref a23), .val (.ref a28), .val (.int ((0 + 0 + 0).toInt32))] [(.int ((0 : Nat).toInt32)), (.int ((0 : Nat).toInt32)), (.ref r)]
    refine W.iadd ok (pc' := 236) at_235 rfl ?_
    rw [i32_add]
    refine W.aload ok (pc' := 238) at_236 rfl rfl rfl ?_
    refine W.callS ok (rest := []) (cl' := (true, ("copperpot/web/HtmlTemplateEscapePinLaw", 28) :: ("copperpot/web/HtmlTemplateEscapePinLaw", 28) :: ("copperpot/web/HtmlTemplateEscapePinLaw", 28) :: [])) (pc' := 241) (w200 hw) (w201 hw) (w2 hw) (w202 hw) (by decide) pd_42 rfl (k_at l Z a0 hE r a28 (esc []) ([] : List Int32) (0 + 0) h29 T31.str Sq2.str (by omega) (by simp) (at_mid (A := (([] : List Int32) ++ ([] : List Int32))) (D := []) (by simp [esc]) (by simp))) (fun _ q => (nomatch q)) (fun q => ⟨q, fun _ q => (nomatch q)⟩) rfl rfl (Nat.le_of_ble_eq_true rfl) (Nat.le_of_ble_eq_true rfl) (Nat.le_of_ble_eq_true rfl) (Nat.le_of_ble_eq_true rfl) at_238 rfl rfl (pureK ?_)
    show W B h29 25 570 M (true, ("copperpot/web/HtmlTemplateEscapePinLaw", 28) :: ("copperpot/web/HtmlTemplateEscapePinLaw", 28) :: ("copperpot/web/HtmlTemplateEscapePinLaw", 28) :: []) 241 #[.val (.int p0), .val (.int p1), .val (.int p2), .val (.int p3), .val (.int (0 : Int32)), .val (.int c0), .val (.int c1), .val (.int c2), .val (.ref a1), .val (.ref r), .val (.ref a19), .val (.ref a23), .val (.ref a28), .val (.int ((0 + 0 + 0).toInt32))] [(.int (1 : Int32))]
    refine W.ifeq ok (pcY := 248) (pcN := 244) at_241 rfl (by decide) rfl (fun q => absurd q (by decide)) (fun _ => ?_)
    refine W.iconst ok (pc' := 245) (1 : Int32) at_244 rfl rfl ?_
    refine W.goto ok (pc' := 249) at_245 (by decide) rfl ?_
    exact W.retZ ok at_249 rfl (Nat.le_of_ble_eq_true rfl) (Nat.le_of_ble_eq_true rfl) (fun x (q : x ∈ M) => q) (fun kp => rfl)
  · refine W.iload ok (pc' := 38) at_36 rfl rfl ?_
    refine W.iconst ok (pc' := 39) (1 : Int32) at_38 rfl rfl ?_
    refine W.icmpne ok (pcY := 55) (pcN := 42) at_39 rfl (by decide) rfl (fun q1 => ?_) (fun q1 => ?_)
    · subst q1
      refine W.lt fun hM => ?_
      refine W.iconst ok (pc' := 43) (1 : Int32) at_42 rfl rfl ?_
      refine W.newC ok (pc' := 45) (cap := 1) (w4 hw) (by decide) (by decide) (by decide) at_43 rfl (Nat.le_of_ble_eq_true rfl) (Nat.le_of_ble_eq_true rfl) (fun a34 h35 z36 ea37 E38 A39 => ?_)
      replace A39 := A39.cast (cs' := [0]) rfl
      refine W.dup ok (pc' := 46) at_45 rfl rfl ?_
      refine W.iconst ok (pc' := 47) (0 : Int32) at_46 rfl rfl ?_
      refine W.iload ok (pc' := 49) at_47 rfl rfl ?_
      refine W.castore ok (pc' := 50) (cl' := (true, [])) A39 (by decide) (Nat.le_of_ble_eq_true rfl) (List.mem_cons_self ..) (Or.inr z36) (fun q => ⟨q, z36⟩) rfl at_49 rfl (fun h40 Wr41 A42 => ?_)
      replace A42 := A42.cast (cs' := [c0]) (by rw [c16_of rc0]; rfl)
      have sz_0 := Wr41.size
      refine W.astore ok (pc' := 52) (L' := #[.val (.int p0), .val (.int p1), .val (.int p2), .val (.int p3), .val (.int (1 : Int32)), .val (.int c0), .val (.int c1), .val (.int c2), .val (.ref a34), .unset, .unset, .unset, .unset, .unset]) at_50 rfl rfl rfl ?_
      refine W.goto ok (pc' := 99) at_52 (by decide) rfl ?_
      have lb := A42.gt
      refine W.new ok (pc' := 102) (w5 hw) (w6 hw) (w7 hw) at_99 rfl (Nat.le_of_ble_eq_true rfl) (Nat.le_of_ble_eq_true rfl) (fun a43 h44 z45 ea46 E47 X48 D49 U50 => ?_)
      refine W.dup ok (pc' := 103) at_102 rfl rfl ?_
      refine W.aload ok (pc' := 105) at_103 rfl rfl rfl ?_
      have la := gtE X48
      have lE1 := E38.1
      refine W.callI ok (rest := [(.ref a43)]) (cl' := (true, [])) (pc' := 108) rfl (w8 hw) (w9 hw) (w7 hw) (w10 hw) (by decide) pd_40 rfl (k_initC l Z a0 hE a43 a34 [c0] h44 X48 (D49 (Or.inr (w33 hw)) (ty := (.array .byte)) (by decide)) (D49 (Or.inr (w31 hw)) (ty := .byte) (by decide)) (A42.ext E47) (by simp)) (fun w q => by simp only [List.mem_cons, List.not_mem_nil, or_false] at q; subst q; exact ⟨(List.mem_cons_self ..), (Or.inr z45)⟩) (fun q => ⟨q, fun w q => by simp only [List.mem_cons, List.not_mem_nil, or_false] at q; subst q; exact z45⟩) rfl rfl (Nat.le_of_ble_eq_true rfl) (Nat.le_of_ble_eq_true rfl) (Nat.le_of_ble_eq_true rfl) (Nat.le_of_ble_eq_true rfl) at_105 rfl rfl (oldK fun v h51 hq K52 => ?_)
      obtain ⟨rfl, tt, cd, bs, g1, g2, g3, g4, g5⟩ := hq
      show W B h51 6 80 (a43 :: (a34 :: M)) (true, []) 108 #[.val (.int p0), .val (.int p1), .val (.int p2), .val (.int p3), .val (.int (1 : Int32)), .val (.int c0), .val (.int c1), .val (.int c2), .val (.ref a34), .unset, .unset, .unset, .unset, .unset] [(.ref a43)]
      have Ss : Str Z h51 a43 [c0] := ⟨tt, cd, bs, X48.keep K52, g2, g3, g4, g5⟩
      refine W.drop (M' := M) (fun x z => (List.mem_cons_of_mem _ (List.mem_cons_of_mem _ z))) ?_
      refine W.callS ok (rest := []) (cl' := (true, [])) (pc' := 111) (w34 hw) (w35 hw) (w36 hw) (w37 hw) (by decide) pd_41 rfl (k_esc l Z a0 hE a43 [c0] h51 Ss (by simp)) (fun _ q => (nomatch q)) (fun q => ⟨q, fun _ q => (nomatch q)⟩) rfl rfl (Nat.le_of_ble_eq_true rfl) (Nat.le_of_ble_eq_true rfl) (Nat.le_of_ble_eq_true rfl) (Nat.le_of_ble_eq_true rfl) at_108 rfl rfl (oldK fun v h53 hq K54 => ?_)
      obtain ⟨r, rfl, Sr⟩ := hq
      show W B h53 19 559 M (true, []) 111 #[.val (.int p0), .val (.int p1), .val (.int p2), .val (.int p3), .val (.int (1 : Int32)), .val (.int c0), .val (.int c1), .val (.int c2), .val (.ref a34), .unset, .unset, .unset, .unset, .unset] [(.ref r)]
      refine W.astore ok (pc' := 113) (L' := #[.val (.int p0), .val (.int p1), .val (.int p2), .val (.int p3), .val (.int (1 : Int32)), .val (.int c0), .val (.int c1), .val (.int c2), .val (.ref a34), .val (.ref r), .unset, .unset, .unset, .unset]) at_111 rfl rfl rfl ?_
      refine W.iload ok (pc' := 115) at_113 rfl rfl ?_
      have lp0 := pc_len c0
      refine W.ifle ok (pcY := 126) (pcN := 118) at_115 rfl (by decide) rfl (fun _ => ?_) (fun q => absurd (by decide) q)
      refine W.iload ok (pc' := 120) at_118 rfl rfl ?_
      refine W.callS ok (rest := []) (cl' := (true, [])) (pc' := 123) (w194 hw) (w195 hw) (w2 hw) (w196 hw) (by decide) pd_35 rfl (k_piece l Z a0 hE c0 h53 rc0) (fun _ q => (nomatch q)) (fun q => ⟨q, fun _ q => (nomatch q)⟩) rfl rfl (Nat.le_of_ble_eq_true rfl) (Nat.le_of_ble_eq_true rfl) (Nat.le_of_ble_eq_true rfl) (Nat.le_of_ble_eq_true rfl) at_120 rfl rfl (oldK fun v h55 hq K56 => ?_)
      obtain ⟨s0, rfl, S0⟩ := hq
      show W B h55 21 587 M (true, []) 123 #[.val (.int p0), .val (.int p1), .val (.int p2), .val (.int p3), .val (.int (1 : Int32)), .val (.int c0), .val (.int c1), .val (.int c2), .val (.ref a34), .val (.ref r), .unset, .unset, .unset, .unset] [(.ref s0)]
      have T57 := Sr.ext (ext_keep K56)
      refine W.goto ok (pc' := 128) at_123 (by decide) rfl ?_
      refine W.astore ok (pc' := 130) (L' := #[.val (.int p0), .val (.int p1), .val (.int p2), .val (.int p3), .val (.int (1 : Int32)), .val (.int c0), .val (.int c1), .val (.int c2), .val (.ref a34), .val (.ref r), .val (.ref s0), .unset, .unset, .unset]) at_128 rfl rfl rfl ?_
      refine W.iload ok (pc' := 132) at_130 rfl rfl ?_
      refine W.iconst ok (pc' := 133) (1 : Int32) at_132 rfl rfl ?_
      have lp1 := pc_len c1
      refine W.icmple ok (pcY := 144) (pcN := 136) at_133 rfl (by decide) rfl (fun q => absurd q (by decide)) (fun _ => ?_)
      refine W.ldcS ok (pc' := 146) rfl (text := "") (sz := 0) (w198 hw) (fun d hd => hw d ((by decide +kernel : ∀ d ∈ Bundle.stringAtoms, d ∈ tables_1) d hd)) (hE.held _ (List.mem_of_getElem? (i := 5) rfl)) hE.cw (by decide) (Or.inl rfl) (by decide) (by decide) at_144 rfl (Nat.le_of_ble_eq_true rfl) (Nat.le_of_ble_eq_true rfl) (fun a58 h59 E60 S1 => ?_)
      have T61 := T57.ext E60
      have T62 := S0.ext E60
      have Sq1 := S1.cast (cs' := []) rfl
      refine W.astore ok (pc' := 148) (L' := #[.val (.int p0), .val (.int p1), .val (.int p2), .val (.int p3), .val (.int (1 : Int32)), .val (.int c0), .val (.int c1), .val (.int c2), .val (.ref a34), .val (.ref r), .val (.ref s0), .val (.ref a58), .unset, .unset]) at_146 rfl rfl rfl ?_
      refine W.iload ok (pc' := 150) at_148 rfl rfl ?_
      refine W.iconst ok (pc' := 151) (2 : Int32) at_150 rfl rfl ?_
      have lp2 := pc_len c2
      refine W.icmple ok (pcY := 162) (pcN := 154) at_151 rfl (by decide) rfl (fun q => absurd q (by decide)) (fun _ => ?_)
      refine W.ldcS ok (pc' := 164) rfl (text := "") (sz := 0) (w198 hw) (fun d hd => hw d ((by decide +kernel : ∀ d ∈ Bundle.stringAtoms, d ∈ tables_1) d hd)) (hE.held _ (List.mem_of_getElem? (i := 5) rfl)) hE.cw (by decide) (Or.inl rfl) (by decide) (by decide) at_162 rfl (Nat.le_of_ble_eq_true rfl) (Nat.le_of_ble_eq_true rfl) (fun a63 h64 E65 S2 => ?_)
      have T66 := T61.ext E65
      have T67 := T62.ext E65
      have T68 := Sq1.ext E65
      have Sq2 := S2.cast (cs' := []) rfl
      refine W.astore ok (pc' := 166) (L' := #[.val (.int p0), .val (.int p1), .val (.int p2), .val (.int p3), .val (.int (1 : Int32)), .val (.int c0), .val (.int c1), .val (.int c2), .val (.ref a34), .val (.ref r), .val (.ref s0), .val (.ref a58), .val (.ref a63), .unset]) at_164 rfl rfl rfl ?_
      refine W.aload ok (pc' := 168) at_166 rfl rfl rfl ?_
      have le_ : (esc [c0]).length = (pc c0).length + 0 + 0 := by simp [esc]; try omega
      refine W.callV ok (rest := []) (cl' := (true, ("copperpot/web/HtmlTemplateEscapePinLaw", 28) :: ("copperpot/web/HtmlTemplateEscapePinLaw", 28) :: [])) (pc' := 171) (w199 hw) (w42 hw) (w44 hw) (w43 hw) (w7 hw) (w45 hw) (by decide) T67.exa pd_1 rfl (k_length l Z a0 hE s0 (pc c0) h64 T67.str (by omega)) (fun _ q => (nomatch q)) (fun q => ⟨q, fun _ q => (nomatch q)⟩) rfl rfl (Nat.le_of_ble_eq_true rfl) (Nat.le_of_ble_eq_true rfl) (Nat.le_of_ble_eq_true rfl) (Nat.le_of_ble_eq_true rfl) at_168 rfl rfl (pureK ?_)
      show W B h64 25 595 M (true, ("copperpot/web/HtmlTemplateEscapePinLaw", 28) :: ("copperpot/web/HtmlTemplateEscapePinLaw", 28) :: []) 171 #[.val (.int p0), .val (.int p1), .val (.int p2), .val (.int p3), .val (.int (1 : Int32)), .val (.int c0), .val (.int c1), .val (.int c2), .val (.ref a34), .val (.ref r), .val (.ref s0), .val (.ref a58), .val (.ref a63), .unset] [(.int ((pc c0).length.toInt32))]
      refine W.aload ok (pc' := 173) at_171 rfl rfl rfl ?_
      refine W.callV ok (rest := [(.int ((pc c0).length.toInt32))]) (cl' := (true, ("copperpot/web/HtmlTemplateEscapePinLaw", 28) :: ("copperpot/web/HtmlTemplateEscapePinLaw", 28) :: [])) (pc' := 176) (w199 hw) (w42 hw) (w44 hw) (w43 hw) (w7 hw) (w45 hw) (by decide) T68.exa pd_1 rfl (k_length l Z a0 hE a58 ([] : List Int32) h64 T68.str (by simp)) (fun _ q => (nomatch q)) (fun q => ⟨q, fun _ q => (nomatch q)⟩) rfl rfl (Nat.le_of_ble_eq_true rfl) (Nat.le_of_ble_eq_true rfl) (Nat.le_of_ble_eq_true rfl) (Nat.le_of_ble_eq_true rfl) at_173 rfl rfl (pureK ?_)
      show W B h64 25 595 M (true, ("copperpot/web/HtmlTemplateEscapePinLaw", 28) :: ("copperpot/web/HtmlTemplateEscapePinLaw", 28) :: []) 176 #[.val (.int p0), .val (.int p1), .val (.int p2), .val (.int p3), .val (.int (1 : Int32)), .val (.int c0), .val (.int c1), .val (.int c2), .val (.ref a34), .val (.ref r), .val (.ref s0), .val (.ref a58), .val (.ref a63), .unset] [(.int ((0 : Nat).toInt32)), (.int ((pc c0).length.toInt32))]
      refine W.iadd ok (pc' := 177) at_176 rfl ?_
      rw [i32_add]
      refine W.aload ok (pc' := 179) at_177 rfl rfl rfl ?_
      refine W.callV ok (rest := [(.int (((pc c0).length + 0).toInt32))]) (cl' := (true, ("copperpot/web/HtmlTemplateEscapePinLaw", 28) :: ("copperpot/web/HtmlTemplateEscapePinLaw", 28) :: [])) (pc' := 182) (w199 hw) (w42 hw) (w44 hw) (w43 hw) (w7 hw) (w45 hw) (by decide) Sq2.exa pd_1 rfl (k_length l Z a0 hE a63 ([] : List Int32) h64 Sq2.str (by simp)) (fun _ q => (nomatch q)) (fun q => ⟨q, fun _ q => (nomatch q)⟩) rfl rfl (Nat.le_of_ble_eq_true rfl) (Nat.le_of_ble_eq_true rfl) (Nat.le_of_ble_eq_true rfl) (Nat.le_of_ble_eq_true rfl) at_179 rfl rfl (pureK ?_)
      show W B h64 25 595 M (true, ("copperpot/web/HtmlTemplateEscapePinLaw", 28) :: ("copperpot/web/HtmlTemplateEscapePinLaw", 28) :: []) 182 #[.val (.int p0), .val (.int p1), .val (.int p2), .val (.int p3), .val (.int (1 : Int32)), .val (.int c0), .val (.int c1), .val (.int c2), .val (.ref a34), .val (.ref r), .val (.ref s0), .val (.ref a58), .val (.ref a63), .unset] [(.int ((0 : Nat).toInt32)), (.int (((pc c0).length + 0).toInt32))]
      refine W.iadd ok (pc' := 183) at_182 rfl ?_
      rw [i32_add]
      refine W.istore ok (pc' := 185) (L' := #[.val (.int p0), .val (.int p1), .val (.int p2), .val (.int p3), .val (.int (1 : Int32)), .val (.int c0), .val (.int c1), .val (.int c2), .val (.ref a34), .val (.ref r), .val (.ref s0), .val (.ref a58), .val (.ref a63), .val (.int (((pc c0).length + 0 + 0).toInt32))]) at_183 rfl rfl ?_
      refine W.aload ok (pc' := 187) at_185 rfl rfl rfl ?_
      refine W.callV ok (rest := []) (cl' := (true, ("copperpot/web/HtmlTemplateEscapePinLaw", 28) :: ("copperpot/web/HtmlTemplateEscapePinLaw", 28) :: [])) (pc' := 190) (w199 hw) (w42 hw) (w44 hw) (w43 hw) (w7 hw) (w45 hw) (by decide) T66.exa pd_1 rfl (k_length l Z a0 hE r (esc [c0]) h64 T66.str (by omega)) (fun _ q => (nomatch q)) (fun q => ⟨q, fun _ q => (nomatch q)⟩) rfl rfl (Nat.le_of_ble_eq_true rfl) (Nat.le_of_ble_eq_true rfl) (Nat.le_of_ble_eq_true rfl) (Nat.le_of_ble_eq_true rfl) at_187 rfl rfl (pureK ?_)
      show W B h64 25 595 M (true, ("copperpot/web/HtmlTemplateEscapePinLaw", 28) :: ("copperpot/web/HtmlTemplateEscapePinLaw", 28) :: []) 190 #[.val (.int p0), .val (.int p1), .val (.int p2), .val (.int p3), .val (.int (1 : Int32)), .val (.int c0), .val (.int c1), .val (.int c2), .val (.ref a34), .val (.ref r), .val (.ref s0), .val (.ref a58), .val (.ref a63), .val (.int (((pc c0).length + 0 + 0).toInt32))] [(.int ((esc [c0]).length.toInt32))]
      refine W.iload ok (pc' := 192) at_190 rfl rfl ?_
      refine W.icmpeq ok (pcY := 197) (pcN := 195) at_192 rfl (by decide) rfl (fun _ => ?_) (fun q => absurd (by rw [le_]) q)
      refine W.aload ok (pc' := 199) at_197 rfl rfl rfl ?_
      refine W.iconst ok (pc' := 200) (0 : Int32) at_199 rfl rfl ?_
      refine W.aload ok (pc' := 202) at_200 rfl rfl rfl ?_
      refine W.callS ok (rest := []) (cl' := (true, ("copperpot/web/HtmlTemplateEscapePinLaw", 28) :: ("copperpot/web/HtmlTemplateEscapePinLaw", 28) :: [])) (pc' := 205) (w200 hw) (w201 hw) (w2 hw) (w202 hw) (by decide) pd_42 rfl (k_at l Z a0 hE r s0 (esc [c0]) (pc c0) 0 h64 T66.str T67.str (by omega) (by omega) (at_mid (A := []) (D := (([] : List Int32) ++ ([] : List Int32))) (by simp [esc]) (by simp))) (fun _ q => (nomatch q)) (fun q => ⟨q, fun _ q => (nomatch q)⟩) rfl rfl (Nat.le_of_ble_eq_true rfl) (Nat.le_of_ble_eq_true rfl) (Nat.le_of_ble_eq_true rfl) (Nat.le_of_ble_eq_true rfl) at_202 rfl rfl (pureK ?_)
      show W B h64 25 595 M (true, ("copperpot/web/HtmlTemplateEscapePinLaw", 28) :: ("copperpot/web/HtmlTemplateEscapePinLaw", 28) :: []) 205 #[.val (.int p0), .val (.int p1), .val (.int p2), .val (.int p3), .val (.int (1 : Int32)), .val (.int c0), .val (.int c1), .val (.int c2), .val (.ref a34), .val (.ref r), .val (.ref s0), .val (.ref a58), .val (.ref a63), .val (.int (((pc c0).length + 0 + 0).toInt32))] [(.int (1 : Int32))]
      refine W.ifeq ok (pcY := 248) (pcN := 208) at_205 rfl (by decide) rfl (fun q => absurd q (by decide)) (fun _ => ?_)
      refine W.aload ok (pc' := 210) at_208 rfl rfl rfl ?_
      refine W.aload ok (pc' := 212) at_210 rfl rfl rfl ?_
      refine W.callV ok (rest := [(.ref r)]) (cl' := (true, ("copperpot/web/HtmlTemplateEscapePinLaw", 28) :: ("copperpot/web/HtmlTemplateEscapePinLaw", 28) :: [])) (pc' := 215) (w199 hw) (w42 hw) (w44 hw) (w43 hw) (w7 hw) (w45 hw) (by decide) T67.exa pd_1 rfl (k_length l Z a0 hE s0 (pc c0) h64 T67.str (by omega)) (fun _ q => (nomatch q)) (fun q => ⟨q, fun _ q => (nomatch q)⟩) rfl rfl (Nat.le_of_ble_eq_true rfl) (Nat.le_of_ble_eq_true rfl) (Nat.le_of_ble_eq_true rfl) (Nat.le_of_ble_eq_true rfl) at_212 rfl rfl (pureK ?_)
      show W B h64 25 595 M (true, ("copperpot/web/HtmlTemplateEscapePinLaw", 28) :: ("copperpot/web/HtmlTemplateEscapePinLaw", 28) :: []) 215 #[.val (.int p0), .val (.int p1), .val (.int p2), .val (.int p3), .val (.int (1 : Int32)), .val (.int c0), .val (.int c1), .val (.int c2), .val (.ref a34), .val (.ref r), .val (.ref s0), .val (.ref a58), .val (.ref a63), .val (.int (((pc c0).length + 0 + 0).toInt32))] [(.int ((pc c0).length.toInt32)), (.ref r)]
      refine W.aload ok (pc' := 217) at_215 rfl rfl rfl ?_
      refine W.callS ok (rest := []) (cl' := (true, ("copperpot/web/HtmlTemplateEscapePinLaw", 28) :: ("copperpot/web/HtmlTemplateEscapePinLaw", 28) :: [])) (pc' := 220) (w200 hw) (w201 hw) (w2 hw) (w202 hw) (by decide) pd_42 rfl (k_at l Z a0 hE r a58 (esc [c0]) ([] : List Int32) ((pc c0).length) h64 T66.str T68.str (by omega) (by simp) (at_mid (A := (pc c0)) (D := ([] : List Int32)) (by simp [esc]) (by simp))) (fun _ q => (nomatch q)) (fun q => ⟨q, fun _ q => (nomatch q)⟩) rfl rfl (Nat.le_of_ble_eq_true rfl) (Nat.le_of_ble_eq_true rfl) (Nat.le_of_ble_eq_true rfl) (Nat.le_of_ble_eq_true rfl) at_217 rfl rfl (pureK ?_)
      show W B h64 25 595 M (true, ("copperpot/web/HtmlTemplateEscapePinLaw", 28) :: ("copperpot/web/HtmlTemplateEscapePinLaw", 28) :: []) 220 #[.val (.int p0), .val (.int p1), .val (.int p2), .val (.int p3), .val (.int (1 : Int32)), .val (.int c0), .val (.int c1), .val (.int c2), .val (.ref a34), .val (.ref r), .val (.ref s0), .val (.ref a58), .val (.ref a63), .val (.int (((pc c0).length + 0 + 0).toInt32))] [(.int (1 : Int32))]
      refine W.ifeq ok (pcY := 248) (pcN := 223) at_220 rfl (by decide) rfl (fun q => absurd q (by decide)) (fun _ => ?_)
      refine W.aload ok (pc' := 225) at_223 rfl rfl rfl ?_
      refine W.aload ok (pc' := 227) at_225 rfl rfl rfl ?_
      refine W.callV ok (rest := [(.ref r)]) (cl' := (true, ("copperpot/web/HtmlTemplateEscapePinLaw", 28) :: ("copperpot/web/HtmlTemplateEscapePinLaw", 28) :: [])) (pc' := 230) (w199 hw) (w42 hw) (w44 hw) (w43 hw) (w7 hw) (w45 hw) (by decide) T67.exa pd_1 rfl (k_length l Z a0 hE s0 (pc c0) h64 T67.str (by omega)) (fun _ q => (nomatch q)) (fun q => ⟨q, fun _ q => (nomatch q)⟩) rfl rfl (Nat.le_of_ble_eq_true rfl) (Nat.le_of_ble_eq_true rfl) (Nat.le_of_ble_eq_true rfl) (Nat.le_of_ble_eq_true rfl) at_227 rfl rfl (pureK ?_)
      show W B h64 25 595 M (true, ("copperpot/web/HtmlTemplateEscapePinLaw", 28) :: ("copperpot/web/HtmlTemplateEscapePinLaw", 28) :: []) 230 #[.val (.int p0), .val (.int p1), .val (.int p2), .val (.int p3), .val (.int (1 : Int32)), .val (.int c0), .val (.int c1), .val (.int c2), .val (.ref a34), .val (.ref r), .val (.ref s0), .val (.ref a58), .val (.ref a63), .val (.int (((pc c0).length + 0 + 0).toInt32))] [(.int ((pc c0).length.toInt32)), (.ref r)]
      refine W.aload ok (pc' := 232) at_230 rfl rfl rfl ?_
      refine W.callV ok (rest := [(.int ((pc c0).length.toInt32)), (.ref r)]) (cl' := (true, ("copperpot/web/HtmlTemplateEscapePinLaw", 28) :: ("copperpot/web/HtmlTemplateEscapePinLaw", 28) :: [])) (pc' := 235) (w199 hw) (w42 hw) (w44 hw) (w43 hw) (w7 hw) (w45 hw) (by decide) T68.exa pd_1 rfl (k_length l Z a0 hE a58 ([] : List Int32) h64 T68.str (by simp)) (fun _ q => (nomatch q)) (fun q => ⟨q, fun _ q => (nomatch q)⟩) rfl rfl (Nat.le_of_ble_eq_true rfl) (Nat.le_of_ble_eq_true rfl) (Nat.le_of_ble_eq_true rfl) (Nat.le_of_ble_eq_true rfl) at_232 rfl rfl (pureK ?_)
      show W B h64 25 595 M (true, ("copperpot/web/HtmlTemplateEscapePinLaw", 28) :: ("copperpot/web/HtmlTemplateEscapePinLaw", 28) :: []) 235 #[.val (.int p0), .val (.int p1), .val (.int p2), .val (.int p3), .val (.int (1 : Int32)), .val (.int c0), .val (.int c1), .val (.int c2), .val (.ref a34), .val (.ref r), .val (.ref s0), .val (.ref a58), .val (.ref a63), .val (.int (((pc c0).length + 0 + 0).toInt32))] [(.int ((0 : Nat).toInt32)), (.int ((pc c0).length.toInt32)), (.ref r)]
      refine W.iadd ok (pc' := 236) at_235 rfl ?_
      rw [i32_add]
      refine W.aload ok (pc' := 238) at_236 rfl rfl rfl ?_
      refine W.callS ok (rest := []) (cl' := (true, ("copperpot/web/HtmlTemplateEscapePinLaw", 28) :: ("copperpot/web/HtmlTemplateEscapePinLaw", 28) :: [])) (pc' := 241) (w200 hw) (w201 hw) (w2 hw) (w202 hw) (by decide) pd_42 rfl (k_at l Z a0 hE r a63 (esc [c0]) ([] : List Int32) ((pc c0).length + 0) h64 T66.str Sq2.str (by omega) (by simp) (at_mid (A := ((pc c0) ++ ([] : List Int32))) (D := []) (by simp [esc]) (by simp))) (fun _ q => (nomatch q)) (fun q => ⟨q, fun _ q => (nomatch q)⟩) rfl rfl (Nat.le_of_ble_eq_true rfl) (Nat.le_of_ble_eq_true rfl) (Nat.le_of_ble_eq_true rfl) (Nat.le_of_ble_eq_true rfl) at_238 rfl rfl (pureK ?_)
      show W B h64 25 595 M (true, ("copperpot/web/HtmlTemplateEscapePinLaw", 28) :: ("copperpot/web/HtmlTemplateEscapePinLaw", 28) :: []) 241 #[.val (.int p0), .val (.int p1), .val (.int p2), .val (.int p3), .val (.int (1 : Int32)), .val (.int c0), .val (.int c1), .val (.int c2), .val (.ref a34), .val (.ref r), .val (.ref s0), .val (.ref a58), .val (.ref a63), .val (.int (((pc c0).length + 0 + 0).toInt32))] [(.int (1 : Int32))]
      refine W.ifeq ok (pcY := 248) (pcN := 244) at_241 rfl (by decide) rfl (fun q => absurd q (by decide)) (fun _ => ?_)
      refine W.iconst ok (pc' := 245) (1 : Int32) at_244 rfl rfl ?_
      refine W.goto ok (pc' := 249) at_245 (by decide) rfl ?_
      exact W.retZ ok at_249 rfl (Nat.le_of_ble_eq_true rfl) (Nat.le_of_ble_eq_true rfl) (fun x (q : x ∈ M) => q) (fun kp => rfl)
    · refine W.iload ok (pc' := 57) at_55 rfl rfl ?_
      refine W.iconst ok (pc' := 58) (2 : Int32) at_57 rfl rfl ?_
      refine W.icmpne ok (pcY := 79) (pcN := 61) at_58 rfl (by decide) rfl (fun q2 => ?_) (fun q2 => ?_)
      · subst q2
        refine W.lt fun hM => ?_
        refine W.iconst ok (pc' := 62) (2 : Int32) at_61 rfl rfl ?_
        refine W.newC ok (pc' := 64) (cap := 2) (w4 hw) (by decide) (by decide) (by decide) at_62 rfl (Nat.le_of_ble_eq_true rfl) (Nat.le_of_ble_eq_true rfl) (fun a69 h70 z71 ea72 E73 A74 => ?_)
        replace A74 := A74.cast (cs' := [0, 0]) rfl
        refine W.dup ok (pc' := 65) at_64 rfl rfl ?_
        refine W.iconst ok (pc' := 66) (0 : Int32) at_65 rfl rfl ?_
        refine W.iload ok (pc' := 68) at_66 rfl rfl ?_
        refine W.castore ok (pc' := 69) (cl' := (true, [])) A74 (by decide) (Nat.le_of_ble_eq_true rfl) (List.mem_cons_self ..) (Or.inr z71) (fun q => ⟨q, z71⟩) rfl at_68 rfl (fun h75 Wr76 A77 => ?_)
        replace A77 := A77.cast (cs' := [c0, 0]) (by rw [c16_of rc0]; rfl)
        have sz_0 := Wr76.size
        refine W.dup ok (pc' := 70) at_69 rfl rfl ?_
        refine W.iconst ok (pc' := 71) (1 : Int32) at_70 rfl rfl ?_
        refine W.iload ok (pc' := 73) at_71 rfl rfl ?_
        refine W.castore ok (pc' := 74) (cl' := (true, [])) A77 (by decide) (Nat.le_of_ble_eq_true rfl) (List.mem_cons_self ..) (Or.inr z71) (fun q => ⟨q, z71⟩) rfl at_73 rfl (fun h78 Wr79 A80 => ?_)
        replace A80 := A80.cast (cs' := [c0, c1]) (by rw [c16_of rc1]; rfl)
        have sz_1 := Wr79.size
        refine W.astore ok (pc' := 76) (L' := #[.val (.int p0), .val (.int p1), .val (.int p2), .val (.int p3), .val (.int (2 : Int32)), .val (.int c0), .val (.int c1), .val (.int c2), .val (.ref a69), .unset, .unset, .unset, .unset, .unset]) at_74 rfl rfl rfl ?_
        refine W.goto ok (pc' := 99) at_76 (by decide) rfl ?_
        have lb := A80.gt
        refine W.new ok (pc' := 102) (w5 hw) (w6 hw) (w7 hw) at_99 rfl (Nat.le_of_ble_eq_true rfl) (Nat.le_of_ble_eq_true rfl) (fun a81 h82 z83 ea84 E85 X86 D87 U88 => ?_)
        refine W.dup ok (pc' := 103) at_102 rfl rfl ?_
        refine W.aload ok (pc' := 105) at_103 rfl rfl rfl ?_
        have la := gtE X86
        have lE1 := E73.1
        refine W.callI ok (rest := [(.ref a81)]) (cl' := (true, [])) (pc' := 108) rfl (w8 hw) (w9 hw) (w7 hw) (w10 hw) (by decide) pd_40 rfl (k_initC l Z a0 hE a81 a69 [c0, c1] h82 X86 (D87 (Or.inr (w33 hw)) (ty := (.array .byte)) (by decide)) (D87 (Or.inr (w31 hw)) (ty := .byte) (by decide)) (A80.ext E85) (by simp)) (fun w q => by simp only [List.mem_cons, List.not_mem_nil, or_false] at q; subst q; exact ⟨(List.mem_cons_self ..), (Or.inr z83)⟩) (fun q => ⟨q, fun w q => by simp only [List.mem_cons, List.not_mem_nil, or_false] at q; subst q; exact z83⟩) rfl rfl (Nat.le_of_ble_eq_true rfl) (Nat.le_of_ble_eq_true rfl) (Nat.le_of_ble_eq_true rfl) (Nat.le_of_ble_eq_true rfl) at_105 rfl rfl (oldK fun v h89 hq K90 => ?_)
        obtain ⟨rfl, tt, cd, bs, g1, g2, g3, g4, g5⟩ := hq
        show W B h89 6 81 (a81 :: (a69 :: M)) (true, []) 108 #[.val (.int p0), .val (.int p1), .val (.int p2), .val (.int p3), .val (.int (2 : Int32)), .val (.int c0), .val (.int c1), .val (.int c2), .val (.ref a69), .unset, .unset, .unset, .unset, .unset] [(.ref a81)]
        have Ss : Str Z h89 a81 [c0, c1] := ⟨tt, cd, bs, X86.keep K90, g2, g3, g4, g5⟩
        refine W.drop (M' := M) (fun x z => (List.mem_cons_of_mem _ (List.mem_cons_of_mem _ z))) ?_
        refine W.callS ok (rest := []) (cl' := (true, [])) (pc' := 111) (w34 hw) (w35 hw) (w36 hw) (w37 hw) (by decide) pd_41 rfl (k_esc l Z a0 hE a81 [c0, c1] h89 Ss (by simp)) (fun _ q => (nomatch q)) (fun q => ⟨q, fun _ q => (nomatch q)⟩) rfl rfl (Nat.le_of_ble_eq_true rfl) (Nat.le_of_ble_eq_true rfl) (Nat.le_of_ble_eq_true rfl) (Nat.le_of_ble_eq_true rfl) at_108 rfl rfl (oldK fun v h91 hq K92 => ?_)
        obtain ⟨r, rfl, Sr⟩ := hq
        show W B h91 19 560 M (true, []) 111 #[.val (.int p0), .val (.int p1), .val (.int p2), .val (.int p3), .val (.int (2 : Int32)), .val (.int c0), .val (.int c1), .val (.int c2), .val (.ref a69), .unset, .unset, .unset, .unset, .unset] [(.ref r)]
        refine W.astore ok (pc' := 113) (L' := #[.val (.int p0), .val (.int p1), .val (.int p2), .val (.int p3), .val (.int (2 : Int32)), .val (.int c0), .val (.int c1), .val (.int c2), .val (.ref a69), .val (.ref r), .unset, .unset, .unset, .unset]) at_111 rfl rfl rfl ?_
        refine W.iload ok (pc' := 115) at_113 rfl rfl ?_
        have lp0 := pc_len c0
        refine W.ifle ok (pcY := 126) (pcN := 118) at_115 rfl (by decide) rfl (fun _ => ?_) (fun q => absurd (by decide) q)
        refine W.iload ok (pc' := 120) at_118 rfl rfl ?_
        refine W.callS ok (rest := []) (cl' := (true, [])) (pc' := 123) (w194 hw) (w195 hw) (w2 hw) (w196 hw) (by decide) pd_35 rfl (k_piece l Z a0 hE c0 h91 rc0) (fun _ q => (nomatch q)) (fun q => ⟨q, fun _ q => (nomatch q)⟩) rfl rfl (Nat.le_of_ble_eq_true rfl) (Nat.le_of_ble_eq_true rfl) (Nat.le_of_ble_eq_true rfl) (Nat.le_of_ble_eq_true rfl) at_120 rfl rfl (oldK fun v h93 hq K94 => ?_)
        obtain ⟨s0, rfl, S0⟩ := hq
        show W B h93 21 588 M (true, []) 123 #[.val (.int p0), .val (.int p1), .val (.int p2), .val (.int p3), .val (.int (2 : Int32)), .val (.int c0), .val (.int c1), .val (.int c2), .val (.ref a69), .val (.ref r), .unset, .unset, .unset, .unset] [(.ref s0)]
        have T95 := Sr.ext (ext_keep K94)
        refine W.goto ok (pc' := 128) at_123 (by decide) rfl ?_
        refine W.astore ok (pc' := 130) (L' := #[.val (.int p0), .val (.int p1), .val (.int p2), .val (.int p3), .val (.int (2 : Int32)), .val (.int c0), .val (.int c1), .val (.int c2), .val (.ref a69), .val (.ref r), .val (.ref s0), .unset, .unset, .unset]) at_128 rfl rfl rfl ?_
        refine W.iload ok (pc' := 132) at_130 rfl rfl ?_
        refine W.iconst ok (pc' := 133) (1 : Int32) at_132 rfl rfl ?_
        have lp1 := pc_len c1
        refine W.icmple ok (pcY := 144) (pcN := 136) at_133 rfl (by decide) rfl (fun _ => ?_) (fun q => absurd (by decide) q)
        refine W.iload ok (pc' := 138) at_136 rfl rfl ?_
        refine W.callS ok (rest := []) (cl' := (true, [])) (pc' := 141) (w194 hw) (w195 hw) (w2 hw) (w196 hw) (by decide) pd_35 rfl (k_piece l Z a0 hE c1 h93 rc1) (fun _ q => (nomatch q)) (fun q => ⟨q, fun _ q => (nomatch q)⟩) rfl rfl (Nat.le_of_ble_eq_true rfl) (Nat.le_of_ble_eq_true rfl) (Nat.le_of_ble_eq_true rfl) (Nat.le_of_ble_eq_true rfl) at_138 rfl rfl (oldK fun v h96 hq K97 => ?_)
        obtain ⟨s1, rfl, S1⟩ := hq
        show W B h96 23 616 M (true, []) 141 #[.val (.int p0), .val (.int p1), .val (.int p2), .val (.int p3), .val (.int (2 : Int32)), .val (.int c0), .val (.int c1), .val (.int c2), .val (.ref a69), .val (.ref r), .val (.ref s0), .unset, .unset, .unset] [(.ref s1)]
        have T98 := T95.ext (ext_keep K97)
        have T99 := S0.ext (ext_keep K97)
        refine W.goto ok (pc' := 146) at_141 (by decide) rfl ?_
        refine W.astore ok (pc' := 148) (L' := #[.val (.int p0), .val (.int p1), .val (.int p2), .val (.int p3), .val (.int (2 : Int32)), .val (.int c0), .val (.int c1), .val (.int c2), .val (.ref a69), .val (.ref r), .val (.ref s0), .val (.ref s1), .unset, .unset]) at_146 rfl rfl rfl ?_
        refine W.iload ok (pc' := 150) at_148 rfl rfl ?_
        refine W.iconst ok (pc' := 151) (2 : Int32) at_150 rfl rfl ?_
        have lp2 := pc_len c2
        refine W.icmple ok (pcY := 162) (pcN := 154) at_151 rfl (by decide) rfl (fun q => absurd q (by decide)) (fun _ => ?_)
        refine W.ldcS ok (pc' := 164) rfl (text := "") (sz := 0) (w198 hw) (fun d hd => hw d ((by decide +kernel : ∀ d ∈ Bundle.stringAtoms, d ∈ tables_1) d hd)) (hE.held _ (List.mem_of_getElem? (i := 5) rfl)) hE.cw (by decide) (Or.inl rfl) (by decide) (by decide) at_162 rfl (Nat.le_of_ble_eq_true rfl) (Nat.le_of_ble_eq_true rfl) (fun a100 h101 E102 S2 => ?_)
        have T103 := T98.ext E102
        have T104 := T99.ext E102
        have T105 := S1.ext E102
        have Sq2 := S2.cast (cs' := []) rfl
        refine W.astore ok (pc' := 166) (L' := #[.val (.int p0), .val (.int p1), .val (.int p2), .val (.int p3), .val (.int (2 : Int32)), .val (.int c0), .val (.int c1), .val (.int c2), .val (.ref a69), .val (.ref r), .val (.ref s0), .val (.ref s1), .val (.ref a100), .unset]) at_164 rfl rfl rfl ?_
        refine W.aload ok (pc' := 168) at_166 rfl rfl rfl ?_
        have le_ : (esc [c0, c1]).length = (pc c0).length + (pc c1).length + 0 := by simp [esc]; try omega
        refine W.callV ok (rest := []) (cl' := (true, ("copperpot/web/HtmlTemplateEscapePinLaw", 28) :: [])) (pc' := 171) (w199 hw) (w42 hw) (w44 hw) (w43 hw) (w7 hw) (w45 hw) (by decide) T104.exa pd_1 rfl (k_length l Z a0 hE s0 (pc c0) h101 T104.str (by omega)) (fun _ q => (nomatch q)) (fun q => ⟨q, fun _ q => (nomatch q)⟩) rfl rfl (Nat.le_of_ble_eq_true rfl) (Nat.le_of_ble_eq_true rfl) (Nat.le_of_ble_eq_true rfl) (Nat.le_of_ble_eq_true rfl) at_168 rfl rfl (pureK ?_)
        show W B h101 25 620 M (true, ("copperpot/web/HtmlTemplateEscapePinLaw", 28) :: []) 171 #[.val (.int p0), .val (.int p1), .val (.int p2), .val (.int p3), .val (.int (2 : Int32)), .val (.int c0), .val (.int c1), .val (.int c2), .val (.ref a69), .val (.ref r), .val (.ref s0), .val (.ref s1), .val (.ref a100), .unset] [(.int ((pc c0).length.toInt32))]
        refine W.aload ok (pc' := 173) at_171 rfl rfl rfl ?_
        refine W.callV ok (rest := [(.int ((pc c0).length.toInt32))]) (cl' := (true, ("copperpot/web/HtmlTemplateEscapePinLaw", 28) :: [])) (pc' := 176) (w199 hw) (w42 hw) (w44 hw) (w43 hw) (w7 hw) (w45 hw) (by decide) T105.exa pd_1 rfl (k_length l Z a0 hE s1 (pc c1) h101 T105.str (by omega)) (fun _ q => (nomatch q)) (fun q => ⟨q, fun _ q => (nomatch q)⟩) rfl rfl (Nat.le_of_ble_eq_true rfl) (Nat.le_of_ble_eq_true rfl) (Nat.le_of_ble_eq_true rfl) (Nat.le_of_ble_eq_true rfl) at_173 rfl rfl (pureK ?_)
        show W B h101 25 620 M (true, ("copperpot/web/HtmlTemplateEscapePinLaw", 28) :: []) 176 #[.val (.int p0), .val (.int p1), .val (.int p2), .val (.int p3), .val (.int (2 : Int32)), .val (.int c0), .val (.int c1), .val (.int c2), .val (.ref a69), .val (.ref r), .val (.ref s0), .val (.ref s1), .val (.ref a100), .unset] [(.int ((pc c1).length.toInt32)), (.int ((pc c0).length.toInt32))]
        refine W.iadd ok (pc' := 177) at_176 rfl ?_
        rw [i32_add]
        refine W.aload ok (pc' := 179) at_177 rfl rfl rfl ?_
        refine W.callV ok (rest := [(.int (((pc c0).length + (pc c1).length).toInt32))]) (cl' := (true, ("copperpot/web/HtmlTemplateEscapePinLaw", 28) :: [])) (pc' := 182) (w199 hw) (w42 hw) (w44 hw) (w43 hw) (w7 hw) (w45 hw) (by decide) Sq2.exa pd_1 rfl (k_length l Z a0 hE a100 ([] : List Int32) h101 Sq2.str (by simp)) (fun _ q => (nomatch q)) (fun q => ⟨q, fun _ q => (nomatch q)⟩) rfl rfl (Nat.le_of_ble_eq_true rfl) (Nat.le_of_ble_eq_true rfl) (Nat.le_of_ble_eq_true rfl) (Nat.le_of_ble_eq_true rfl) at_179 rfl rfl (pureK ?_)
        show W B h101 25 620 M (true, ("copperpot/web/HtmlTemplateEscapePinLaw", 28) :: []) 182 #[.val (.int p0), .val (.int p1), .val (.int p2), .val (.int p3), .val (.int (2 : Int32)), .val (.int c0), .val (.int c1), .val (.int c2), .val (.ref a69), .val (.ref r), .val (.ref s0), .val (.ref s1), .val (.ref a100), .unset] [(.int ((0 : Nat).toInt32)), (.int (((pc c0).length + (pc c1).length).toInt32))]
        refine W.iadd ok (pc' := 183) at_182 rfl ?_
        rw [i32_add]
        refine W.istore ok (pc' := 185) (L' := #[.val (.int p0), .val (.int p1), .val (.int p2), .val (.int p3), .val (.int (2 : Int32)), .val (.int c0), .val (.int c1), .val (.int c2), .val (.ref a69), .val (.ref r), .val (.ref s0), .val (.ref s1), .val (.ref a100), .val (.int (((pc c0).length + (pc c1).length + 0).toInt32))]) at_183 rfl rfl ?_
        refine W.aload ok (pc' := 187) at_185 rfl rfl rfl ?_
        refine W.callV ok (rest := []) (cl' := (true, ("copperpot/web/HtmlTemplateEscapePinLaw", 28) :: [])) (pc' := 190) (w199 hw) (w42 hw) (w44 hw) (w43 hw) (w7 hw) (w45 hw) (by decide) T103.exa pd_1 rfl (k_length l Z a0 hE r (esc [c0, c1]) h101 T103.str (by omega)) (fun _ q => (nomatch q)) (fun q => ⟨q, fun _ q => (nomatch q)⟩) rfl rfl (Nat.le_of_ble_eq_true rfl) (Nat.le_of_ble_eq_true rfl) (Nat.le_of_ble_eq_true rfl) (Nat.le_of_ble_eq_true rfl) at_187 rfl rfl (pureK ?_)
        show W B h101 25 620 M (true, ("copperpot/web/HtmlTemplateEscapePinLaw", 28) :: []) 190 #[.val (.int p0), .val (.int p1), .val (.int p2), .val (.int p3), .val (.int (2 : Int32)), .val (.int c0), .val (.int c1), .val (.int c2), .val (.ref a69), .val (.ref r), .val (.ref s0), .val (.ref s1), .val (.ref a100), .val (.int (((pc c0).length + (pc c1).length + 0).toInt32))] [(.int ((esc [c0, c1]).length.toInt32))]
        refine W.iload ok (pc' := 192) at_190 rfl rfl ?_
        refine W.icmpeq ok (pcY := 197) (pcN := 195) at_192 rfl (by decide) rfl (fun _ => ?_) (fun q => absurd (by rw [le_]) q)
        refine W.aload ok (pc' := 199) at_197 rfl rfl rfl ?_
        refine W.iconst ok (pc' := 200) (0 : Int32) at_199 rfl rfl ?_
        refine W.aload ok (pc' := 202) at_200 rfl rfl rfl ?_
        refine W.callS ok (rest := []) (cl' := (true, ("copperpot/web/HtmlTemplateEscapePinLaw", 28) :: [])) (pc' := 205) (w200 hw) (w201 hw) (w2 hw) (w202 hw) (by decide) pd_42 rfl (k_at l Z a0 hE r s0 (esc [c0, c1]) (pc c0) 0 h101 T103.str T104.str (by omega) (by omega) (at_mid (A := []) (D := ((pc c1) ++ ([] : List Int32))) (by simp [esc]) (by simp))) (fun _ q => (nomatch q)) (fun q => ⟨q, fun _ q => (nomatch q)⟩) rfl rfl (Nat.le_of_ble_eq_true rfl) (Nat.le_of_ble_eq_true rfl) (Nat.le_of_ble_eq_true rfl) (Nat.le_of_ble_eq_true rfl) at_202 rfl rfl (pureK ?_)
        show W B h101 25 620 M (true, ("copperpot/web/HtmlTemplateEscapePinLaw", 28) :: []) 205 #[.val (.int p0), .val (.int p1), .val (.int p2), .val (.int p3), .val (.int (2 : Int32)), .val (.int c0), .val (.int c1), .val (.int c2), .val (.ref a69), .val (.ref r), .val (.ref s0), .val (.ref s1), .val (.ref a100), .val (.int (((pc c0).length + (pc c1).length + 0).toInt32))] [(.int (1 : Int32))]
        refine W.ifeq ok (pcY := 248) (pcN := 208) at_205 rfl (by decide) rfl (fun q => absurd q (by decide)) (fun _ => ?_)
        refine W.aload ok (pc' := 210) at_208 rfl rfl rfl ?_
        refine W.aload ok (pc' := 212) at_210 rfl rfl rfl ?_
        refine W.callV ok (rest := [(.ref r)]) (cl' := (true, ("copperpot/web/HtmlTemplateEscapePinLaw", 28) :: [])) (pc' := 215) (w199 hw) (w42 hw) (w44 hw) (w43 hw) (w7 hw) (w45 hw) (by decide) T104.exa pd_1 rfl (k_length l Z a0 hE s0 (pc c0) h101 T104.str (by omega)) (fun _ q => (nomatch q)) (fun q => ⟨q, fun _ q => (nomatch q)⟩) rfl rfl (Nat.le_of_ble_eq_true rfl) (Nat.le_of_ble_eq_true rfl) (Nat.le_of_ble_eq_true rfl) (Nat.le_of_ble_eq_true rfl) at_212 rfl rfl (pureK ?_)
        show W B h101 25 620 M (true, ("copperpot/web/HtmlTemplateEscapePinLaw", 28) :: []) 215 #[.val (.int p0), .val (.int p1), .val (.int p2), .val (.int p3), .val (.int (2 : Int32)), .val (.int c0), .val (.int c1), .val (.int c2), .val (.ref a69), .val (.ref r), .val (.ref s0), .val (.ref s1), .val (.ref a100), .val (.int (((pc c0).length + (pc c1).length + 0).toInt32))] [(.int ((pc c0).length.toInt32)), (.ref r)]
        refine W.aload ok (pc' := 217) at_215 rfl rfl rfl ?_
        refine W.callS ok (rest := []) (cl' := (true, ("copperpot/web/HtmlTemplateEscapePinLaw", 28) :: [])) (pc' := 220) (w200 hw) (w201 hw) (w2 hw) (w202 hw) (by decide) pd_42 rfl (k_at l Z a0 hE r s1 (esc [c0, c1]) (pc c1) ((pc c0).length) h101 T103.str T105.str (by omega) (by omega) (at_mid (A := (pc c0)) (D := ([] : List Int32)) (by simp [esc]) (by simp))) (fun _ q => (nomatch q)) (fun q => ⟨q, fun _ q => (nomatch q)⟩) rfl rfl (Nat.le_of_ble_eq_true rfl) (Nat.le_of_ble_eq_true rfl) (Nat.le_of_ble_eq_true rfl) (Nat.le_of_ble_eq_true rfl) at_217 rfl rfl (pureK ?_)
        show W B h101 25 620 M (true, ("copperpot/web/HtmlTemplateEscapePinLaw", 28) :: []) 220 #[.val (.int p0), .val (.int p1), .val (.int p2), .val (.int p3), .val (.int (2 : Int32)), .val (.int c0), .val (.int c1), .val (.int c2), .val (.ref a69), .val (.ref r), .val (.ref s0), .val (.ref s1), .val (.ref a100), .val (.int (((pc c0).length + (pc c1).length + 0).toInt32))] [(.int (1 : Int32))]
        refine W.ifeq ok (pcY := 248) (pcN := 223) at_220 rfl (by decide) rfl (fun q => absurd q (by decide)) (fun _ => ?_)
        refine W.aload ok (pc' := 225) at_223 rfl rfl rfl ?_
        refine W.aload ok (pc' := 227) at_225 rfl rfl rfl ?_
        refine W.callV ok (rest := [(.ref r)]) (cl' := (true, ("copperpot/web/HtmlTemplateEscapePinLaw", 28) :: [])) (pc' := 230) (w199 hw) (w42 hw) (w44 hw) (w43 hw) (w7 hw) (w45 hw) (by decide) T104.exa pd_1 rfl (k_length l Z a0 hE s0 (pc c0) h101 T104.str (by omega)) (fun _ q => (nomatch q)) (fun q => ⟨q, fun _ q => (nomatch q)⟩) rfl rfl (Nat.le_of_ble_eq_true rfl) (Nat.le_of_ble_eq_true rfl) (Nat.le_of_ble_eq_true rfl) (Nat.le_of_ble_eq_true rfl) at_227 rfl rfl (pureK ?_)
        show W B h101 25 620 M (true, ("copperpot/web/HtmlTemplateEscapePinLaw", 28) :: []) 230 #[.val (.int p0), .val (.int p1), .val (.int p2), .val (.int p3), .val (.int (2 : Int32)), .val (.int c0), .val (.int c1), .val (.int c2), .val (.ref a69), .val (.ref r), .val (.ref s0), .val (.ref s1), .val (.ref a100), .val (.int (((pc c0).length + (pc c1).length + 0).toInt32))] [(.int ((pc c0).length.toInt32)), (.ref r)]
        refine W.aload ok (pc' := 232) at_230 rfl rfl rfl ?_
        refine W.callV ok (rest := [(.int ((pc c0).length.toInt32)), (.ref r)]) (cl' := (true, ("copperpot/web/HtmlTemplateEscapePinLaw", 28) :: [])) (pc' := 235) (w199 hw) (w42 hw) (w44 hw) (w43 hw) (w7 hw) (w45 hw) (by decide) T105.exa pd_1 rfl (k_length l Z a0 hE s1 (pc c1) h101 T105.str (by omega)) (fun _ q => (nomatch q)) (fun q => ⟨q, fun _ q => (nomatch q)⟩) rfl rfl (Nat.le_of_ble_eq_true rfl) (Nat.le_of_ble_eq_true rfl) (Nat.le_of_ble_eq_true rfl) (Nat.le_of_ble_eq_true rfl) at_232 rfl rfl (pureK ?_)
        show W B h101 25 620 M (true, ("copperpot/web/HtmlTemplateEscapePinLaw", 28) :: []) 235 #[.val (.int p0), .val (.int p1), .val (.int p2), .val (.int p3), .val (.int (2 : Int32)), .val (.int c0), .val (.int c1), .val (.int c2), .val (.ref a69), .val (.ref r), .val (.ref s0), .val (.ref s1), .val (.ref a100), .val (.int (((pc c0).length + (pc c1).length + 0).toInt32))] [(.int ((pc c1).length.toInt32)), (.int ((pc c0).length.toInt32)), (.ref r)]
        refine W.iadd ok (pc' := 236) at_235 rfl ?_
        rw [i32_add]
        refine W.aload ok (pc' := 238) at_236 rfl rfl rfl ?_
        refine W.callS ok (rest := []) (cl' := (true, ("copperpot/web/HtmlTemplateEscapePinLaw", 28) :: [])) (pc' := 241) (w200 hw) (w201 hw) (w2 hw) (w202 hw) (by decide) pd_42 rfl (k_at l Z a0 hE r a100 (esc [c0, c1]) ([] : List Int32) ((pc c0).length + (pc c1).length) h101 T103.str Sq2.str (by omega) (by simp) (at_mid (A := ((pc c0) ++ (pc c1))) (D := []) (by simp [esc]) (by simp))) (fun _ q => (nomatch q)) (fun q => ⟨q, fun _ q => (nomatch q)⟩) rfl rfl (Nat.le_of_ble_eq_true rfl) (Nat.le_of_ble_eq_true rfl) (Nat.le_of_ble_eq_true rfl) (Nat.le_of_ble_eq_true rfl) at_238 rfl rfl (pureK ?_)
        show W B h101 25 620 M (true, ("copperpot/web/HtmlTemplateEscapePinLaw", 28) :: []) 241 #[.val (.int p0), .val (.int p1), .val (.int p2), .val (.int p3), .val (.int (2 : Int32)), .val (.int c0), .val (.int c1), .val (.int c2), .val (.ref a69), .val (.ref r), .val (.ref s0), .val (.ref s1), .val (.ref a100), .val (.int (((pc c0).length + (pc c1).length + 0).toInt32))] [(.int (1 : Int32))]
        refine W.ifeq ok (pcY := 248) (pcN := 244) at_241 rfl (by decide) rfl (fun q => absurd q (by decide)) (fun _ => ?_)
        refine W.iconst ok (pc' := 245) (1 : Int32) at_244 rfl rfl ?_
        refine W.goto ok (pc' := 249) at_245 (by decide) rfl ?_
        exact W.retZ ok at_249 rfl (Nat.le_of_ble_eq_true rfl) (Nat.le_of_ble_eq_true rfl) (fun x (q : x ∈ M) => q) (fun kp => rfl)
      · have e3 : n = 3 := by
          apply Int32.toInt_inj.mp
          have a0 : n.toInt ≠ 0 := fun q => q0 (Int32.toInt_inj.mp q)
          have a1 : n.toInt ≠ 1 := fun q => q1 (Int32.toInt_inj.mp q)
          have a2 : n.toInt ≠ 2 := fun q => q2 (Int32.toInt_inj.mp q)
          show n.toInt = 3
          omega
        subst e3
        refine W.lt fun hM => ?_
        refine W.iconst ok (pc' := 80) (3 : Int32) at_79 rfl rfl ?_
        refine W.newC ok (pc' := 82) (cap := 3) (w4 hw) (by decide) (by decide) (by decide) at_80 rfl (Nat.le_of_ble_eq_true rfl) (Nat.le_of_ble_eq_true rfl) (fun a106 h107 z108 ea109 E110 A111 => ?_)
        replace A111 := A111.cast (cs' := [0, 0, 0]) rfl
        refine W.dup ok (pc' := 83) at_82 rfl rfl ?_
        refine W.iconst ok (pc' := 84) (0 : Int32) at_83 rfl rfl ?_
        refine W.iload ok (pc' := 86) at_84 rfl rfl ?_
        refine W.castore ok (pc' := 87) (cl' := (true, [])) A111 (by decide) (Nat.le_of_ble_eq_true rfl) (List.mem_cons_self ..) (Or.inr z108) (fun q => ⟨q, z108⟩) rfl at_86 rfl (fun h112 Wr113 A114 => ?_)
        replace A114 := A114.cast (cs' := [c0, 0, 0]) (by rw [c16_of rc0]; rfl)
        have sz_0 := Wr113.size
        refine W.dup ok (pc' := 88) at_87 rfl rfl ?_
        refine W.iconst ok (pc' := 89) (1 : Int32) at_88 rfl rfl ?_
        refine W.iload ok (pc' := 91) at_89 rfl rfl ?_
        refine W.castore ok (pc' := 92) (cl' := (true, [])) A114 (by decide) (Nat.le_of_ble_eq_true rfl) (List.mem_cons_self ..) (Or.inr z108) (fun q => ⟨q, z108⟩) rfl at_91 rfl (fun h115 Wr116 A117 => ?_)
        replace A117 := A117.cast (cs' := [c0, c1, 0]) (by rw [c16_of rc1]; rfl)
        have sz_1 := Wr116.size
        refine W.dup ok (pc' := 93) at_92 rfl rfl ?_
        refine W.iconst ok (pc' := 94) (2 : Int32) at_93 rfl rfl ?_
        refine W.iload ok (pc' := 96) at_94 rfl rfl ?_
        refine W.castore ok (pc' := 97) (cl' := (true, [])) A117 (by decide) (Nat.le_of_ble_eq_true rfl) (List.mem_cons_self ..) (Or.inr z108) (fun q => ⟨q, z108⟩) rfl at_96 rfl (fun h118 Wr119 A120 => ?_)
        replace A120 := A120.cast (cs' := [c0, c1, c2]) (by rw [c16_of rc2]; rfl)
        have sz_2 := Wr119.size
        refine W.astore ok (pc' := 99) (L' := #[.val (.int p0), .val (.int p1), .val (.int p2), .val (.int p3), .val (.int (3 : Int32)), .val (.int c0), .val (.int c1), .val (.int c2), .val (.ref a106), .unset, .unset, .unset, .unset, .unset]) at_97 rfl rfl rfl ?_
        have lb := A120.gt
        refine W.new ok (pc' := 102) (w5 hw) (w6 hw) (w7 hw) at_99 rfl (Nat.le_of_ble_eq_true rfl) (Nat.le_of_ble_eq_true rfl) (fun a121 h122 z123 ea124 E125 X126 D127 U128 => ?_)
        refine W.dup ok (pc' := 103) at_102 rfl rfl ?_
        refine W.aload ok (pc' := 105) at_103 rfl rfl rfl ?_
        have la := gtE X126
        have lE1 := E110.1
        refine W.callI ok (rest := [(.ref a121)]) (cl' := (true, [])) (pc' := 108) rfl (w8 hw) (w9 hw) (w7 hw) (w10 hw) (by decide) pd_40 rfl (k_initC l Z a0 hE a121 a106 [c0, c1, c2] h122 X126 (D127 (Or.inr (w33 hw)) (ty := (.array .byte)) (by decide)) (D127 (Or.inr (w31 hw)) (ty := .byte) (by decide)) (A120.ext E125) (by simp)) (fun w q => by simp only [List.mem_cons, List.not_mem_nil, or_false] at q; subst q; exact ⟨(List.mem_cons_self ..), (Or.inr z123)⟩) (fun q => ⟨q, fun w q => by simp only [List.mem_cons, List.not_mem_nil, or_false] at q; subst q; exact z123⟩) rfl rfl (Nat.le_of_ble_eq_true rfl) (Nat.le_of_ble_eq_true rfl) (Nat.le_of_ble_eq_true rfl) (Nat.le_of_ble_eq_true rfl) at_105 rfl rfl (oldK fun v h129 hq K130 => ?_)
        obtain ⟨rfl, tt, cd, bs, g1, g2, g3, g4, g5⟩ := hq
        show W B h129 6 82 (a121 :: (a106 :: M)) (true, []) 108 #[.val (.int p0), .val (.int p1), .val (.int p2), .val (.int p3), .val (.int (3 : Int32)), .val (.int c0), .val (.int c1), .val (.int c2), .val (.ref a106), .unset, .unset, .unset, .unset, .unset] [(.ref a121)]
        have Ss : Str Z h129 a121 [c0, c1, c2] := ⟨tt, cd, bs, X126.keep K130, g2, g3, g4, g5⟩
        refine W.drop (M' := M) (fun x z => (List.mem_cons_of_mem _ (List.mem_cons_of_mem _ z))) ?_
        refine W.callS ok (rest := []) (cl' := (true, [])) (pc' := 111) (w34 hw) (w35 hw) (w36 hw) (w37 hw) (by decide) pd_41 rfl (k_esc l Z a0 hE a121 [c0, c1, c2] h129 Ss (by simp)) (fun _ q => (nomatch q)) (fun q => ⟨q, fun _ q => (nomatch q)⟩) rfl rfl (Nat.le_of_ble_eq_true rfl) (Nat.le_of_ble_eq_true rfl) (Nat.le_of_ble_eq_true rfl) (Nat.le_of_ble_eq_true rfl) at_108 rfl rfl (oldK fun v h131 hq K132 => ?_)
        obtain ⟨r, rfl, Sr⟩ := hq
        show W B h131 19 561 M (true, []) 111 #[.val (.int p0), .val (.int p1), .val (.int p2), .val (.int p3), .val (.int (3 : Int32)), .val (.int c0), .val (.int c1), .val (.int c2), .val (.ref a106), .unset, .unset, .unset, .unset, .unset] [(.ref r)]
        refine W.astore ok (pc' := 113) (L' := #[.val (.int p0), .val (.int p1), .val (.int p2), .val (.int p3), .val (.int (3 : Int32)), .val (.int c0), .val (.int c1), .val (.int c2), .val (.ref a106), .val (.ref r), .unset, .unset, .unset, .unset]) at_111 rfl rfl rfl ?_
        refine W.iload ok (pc' := 115) at_113 rfl rfl ?_
        have lp0 := pc_len c0
        refine W.ifle ok (pcY := 126) (pcN := 118) at_115 rfl (by decide) rfl (fun _ => ?_) (fun q => absurd (by decide) q)
        refine W.iload ok (pc' := 120) at_118 rfl rfl ?_
        refine W.callS ok (rest := []) (cl' := (true, [])) (pc' := 123) (w194 hw) (w195 hw) (w2 hw) (w196 hw) (by decide) pd_35 rfl (k_piece l Z a0 hE c0 h131 rc0) (fun _ q => (nomatch q)) (fun q => ⟨q, fun _ q => (nomatch q)⟩) rfl rfl (Nat.le_of_ble_eq_true rfl) (Nat.le_of_ble_eq_true rfl) (Nat.le_of_ble_eq_true rfl) (Nat.le_of_ble_eq_true rfl) at_120 rfl rfl (oldK fun v h133 hq K134 => ?_)
        obtain ⟨s0, rfl, S0⟩ := hq
        show W B h133 21 589 M (true, []) 123 #[.val (.int p0), .val (.int p1), .val (.int p2), .val (.int p3), .val (.int (3 : Int32)), .val (.int c0), .val (.int c1), .val (.int c2), .val (.ref a106), .val (.ref r), .unset, .unset, .unset, .unset] [(.ref s0)]
        have T135 := Sr.ext (ext_keep K134)
        refine W.goto ok (pc' := 128) at_123 (by decide) rfl ?_
        refine W.astore ok (pc' := 130) (L' := #[.val (.int p0), .val (.int p1), .val (.int p2), .val (.int p3), .val (.int (3 : Int32)), .val (.int c0), .val (.int c1), .val (.int c2), .val (.ref a106), .val (.ref r), .val (.ref s0), .unset, .unset, .unset]) at_128 rfl rfl rfl ?_
        refine W.iload ok (pc' := 132) at_130 rfl rfl ?_
        refine W.iconst ok (pc' := 133) (1 : Int32) at_132 rfl rfl ?_
        have lp1 := pc_len c1
        refine W.icmple ok (pcY := 144) (pcN := 136) at_133 rfl (by decide) rfl (fun _ => ?_) (fun q => absurd (by decide) q)
        refine W.iload ok (pc' := 138) at_136 rfl rfl ?_
        refine W.callS ok (rest := []) (cl' := (true, [])) (pc' := 141) (w194 hw) (w195 hw) (w2 hw) (w196 hw) (by decide) pd_35 rfl (k_piece l Z a0 hE c1 h133 rc1) (fun _ q => (nomatch q)) (fun q => ⟨q, fun _ q => (nomatch q)⟩) rfl rfl (Nat.le_of_ble_eq_true rfl) (Nat.le_of_ble_eq_true rfl) (Nat.le_of_ble_eq_true rfl) (Nat.le_of_ble_eq_true rfl) at_138 rfl rfl (oldK fun v h136 hq K137 => ?_)
        obtain ⟨s1, rfl, S1⟩ := hq
        show W B h136 23 617 M (true, []) 141 #[.val (.int p0), .val (.int p1), .val (.int p2), .val (.int p3), .val (.int (3 : Int32)), .val (.int c0), .val (.int c1), .val (.int c2), .val (.ref a106), .val (.ref r), .val (.ref s0), .unset, .unset, .unset] [(.ref s1)]
        have T138 := T135.ext (ext_keep K137)
        have T139 := S0.ext (ext_keep K137)
        refine W.goto ok (pc' := 146) at_141 (by decide) rfl ?_
        refine W.astore ok (pc' := 148) (L' := #[.val (.int p0), .val (.int p1), .val (.int p2), .val (.int p3), .val (.int (3 : Int32)), .val (.int c0), .val (.int c1), .val (.int c2), .val (.ref a106), .val (.ref r), .val (.ref s0), .val (.ref s1), .unset, .unset]) at_146 rfl rfl rfl ?_
        refine W.iload ok (pc' := 150) at_148 rfl rfl ?_
        refine W.iconst ok (pc' := 151) (2 : Int32) at_150 rfl rfl ?_
        have lp2 := pc_len c2
        refine W.icmple ok (pcY := 162) (pcN := 154) at_151 rfl (by decide) rfl (fun _ => ?_) (fun q => absurd (by decide) q)
        refine W.iload ok (pc' := 156) at_154 rfl rfl ?_
        refine W.callS ok (rest := []) (cl' := (true, [])) (pc' := 159) (w194 hw) (w195 hw) (w2 hw) (w196 hw) (by decide) pd_35 rfl (k_piece l Z a0 hE c2 h136 rc2) (fun _ q => (nomatch q)) (fun q => ⟨q, fun _ q => (nomatch q)⟩) rfl rfl (Nat.le_of_ble_eq_true rfl) (Nat.le_of_ble_eq_true rfl) (Nat.le_of_ble_eq_true rfl) (Nat.le_of_ble_eq_true rfl) at_156 rfl rfl (oldK fun v h140 hq K141 => ?_)
        obtain ⟨s2, rfl, S2⟩ := hq
        show W B h140 25 645 M (true, []) 159 #[.val (.int p0), .val (.int p1), .val (.int p2), .val (.int p3), .val (.int (3 : Int32)), .val (.int c0), .val (.int c1), .val (.int c2), .val (.ref a106), .val (.ref r), .val (.ref s0), .val (.ref s1), .unset, .unset] [(.ref s2)]
        have T142 := T138.ext (ext_keep K141)
        have T143 := T139.ext (ext_keep K141)
        have T144 := S1.ext (ext_keep K141)
        refine W.goto ok (pc' := 164) at_159 (by decide) rfl ?_
        refine W.astore ok (pc' := 166) (L' := #[.val (.int p0), .val (.int p1), .val (.int p2), .val (.int p3), .val (.int (3 : Int32)), .val (.int c0), .val (.int c1), .val (.int c2), .val (.ref a106), .val (.ref r), .val (.ref s0), .val (.ref s1), .val (.ref s2), .unset]) at_164 rfl rfl rfl ?_
        refine W.aload ok (pc' := 168) at_166 rfl rfl rfl ?_
        have le_ : (esc [c0, c1, c2]).length = (pc c0).length + (pc c1).length + (pc c2).length := by simp [esc]; try omega
        refine W.callV ok (rest := []) (cl' := (true, [])) (pc' := 171) (w199 hw) (w42 hw) (w44 hw) (w43 hw) (w7 hw) (w45 hw) (by decide) T143.exa pd_1 rfl (k_length l Z a0 hE s0 (pc c0) h140 T143.str (by omega)) (fun _ q => (nomatch q)) (fun q => ⟨q, fun _ q => (nomatch q)⟩) rfl rfl (Nat.le_of_ble_eq_true rfl) (Nat.le_of_ble_eq_true rfl) (Nat.le_of_ble_eq_true rfl) (Nat.le_of_ble_eq_true rfl) at_168 rfl rfl (pureK ?_)
        show W B h140 25 645 M (true, []) 171 #[.val (.int p0), .val (.int p1), .val (.int p2), .val (.int p3), .val (.int (3 : Int32)), .val (.int c0), .val (.int c1), .val (.int c2), .val (.ref a106), .val (.ref r), .val (.ref s0), .val (.ref s1), .val (.ref s2), .unset] [(.int ((pc c0).length.toInt32))]
        refine W.aload ok (pc' := 173) at_171 rfl rfl rfl ?_
        refine W.callV ok (rest := [(.int ((pc c0).length.toInt32))]) (cl' := (true, [])) (pc' := 176) (w199 hw) (w42 hw) (w44 hw) (w43 hw) (w7 hw) (w45 hw) (by decide) T144.exa pd_1 rfl (k_length l Z a0 hE s1 (pc c1) h140 T144.str (by omega)) (fun _ q => (nomatch q)) (fun q => ⟨q, fun _ q => (nomatch q)⟩) rfl rfl (Nat.le_of_ble_eq_true rfl) (Nat.le_of_ble_eq_true rfl) (Nat.le_of_ble_eq_true rfl) (Nat.le_of_ble_eq_true rfl) at_173 rfl rfl (pureK ?_)
        show W B h140 25 645 M (true, []) 176 #[.val (.int p0), .val (.int p1), .val (.int p2), .val (.int p3), .val (.int (3 : Int32)), .val (.int c0), .val (.int c1), .val (.int c2), .val (.ref a106), .val (.ref r), .val (.ref s0), .val (.ref s1), .val (.ref s2), .unset] [(.int ((pc c1).length.toInt32)), (.int ((pc c0).length.toInt32))]
        refine W.iadd ok (pc' := 177) at_176 rfl ?_
        rw [i32_add]
        refine W.aload ok (pc' := 179) at_177 rfl rfl rfl ?_
        refine W.callV ok (rest := [(.int (((pc c0).length + (pc c1).length).toInt32))]) (cl' := (true, [])) (pc' := 182) (w199 hw) (w42 hw) (w44 hw) (w43 hw) (w7 hw) (w45 hw) (by decide) S2.exa pd_1 rfl (k_length l Z a0 hE s2 (pc c2) h140 S2.str (by omega)) (fun _ q => (nomatch q)) (fun q => ⟨q, fun _ q => (nomatch q)⟩) rfl rfl (Nat.le_of_ble_eq_true rfl) (Nat.le_of_ble_eq_true rfl) (Nat.le_of_ble_eq_true rfl) (Nat.le_of_ble_eq_true rfl) at_179 rfl rfl (pureK ?_)
        show W B h140 25 645 M (true, []) 182 #[.val (.int p0), .val (.int p1), .val (.int p2), .val (.int p3), .val (.int (3 : Int32)), .val (.int c0), .val (.int c1), .val (.int c2), .val (.ref a106), .val (.ref r), .val (.ref s0), .val (.ref s1), .val (.ref s2), .unset] [(.int ((pc c2).length.toInt32)), (.int (((pc c0).length + (pc c1).length).toInt32))]
        refine W.iadd ok (pc' := 183) at_182 rfl ?_
        rw [i32_add]
        refine W.istore ok (pc' := 185) (L' := #[.val (.int p0), .val (.int p1), .val (.int p2), .val (.int p3), .val (.int (3 : Int32)), .val (.int c0), .val (.int c1), .val (.int c2), .val (.ref a106), .val (.ref r), .val (.ref s0), .val (.ref s1), .val (.ref s2), .val (.int (((pc c0).length + (pc c1).length + (pc c2).length).toInt32))]) at_183 rfl rfl ?_
        refine W.aload ok (pc' := 187) at_185 rfl rfl rfl ?_
        refine W.callV ok (rest := []) (cl' := (true, [])) (pc' := 190) (w199 hw) (w42 hw) (w44 hw) (w43 hw) (w7 hw) (w45 hw) (by decide) T142.exa pd_1 rfl (k_length l Z a0 hE r (esc [c0, c1, c2]) h140 T142.str (by omega)) (fun _ q => (nomatch q)) (fun q => ⟨q, fun _ q => (nomatch q)⟩) rfl rfl (Nat.le_of_ble_eq_true rfl) (Nat.le_of_ble_eq_true rfl) (Nat.le_of_ble_eq_true rfl) (Nat.le_of_ble_eq_true rfl) at_187 rfl rfl (pureK ?_)
        show W B h140 25 645 M (true, []) 190 #[.val (.int p0), .val (.int p1), .val (.int p2), .val (.int p3), .val (.int (3 : Int32)), .val (.int c0), .val (.int c1), .val (.int c2), .val (.ref a106), .val (.ref r), .val (.ref s0), .val (.ref s1), .val (.ref s2), .val (.int (((pc c0).length + (pc c1).length + (pc c2).length).toInt32))] [(.int ((esc [c0, c1, c2]).length.toInt32))]
        refine W.iload ok (pc' := 192) at_190 rfl rfl ?_
        refine W.icmpeq ok (pcY := 197) (pcN := 195) at_192 rfl (by decide) rfl (fun _ => ?_) (fun q => absurd (by rw [le_]) q)
        refine W.aload ok (pc' := 199) at_197 rfl rfl rfl ?_
        refine W.iconst ok (pc' := 200) (0 : Int32) at_199 rfl rfl ?_
        refine W.aload ok (pc' := 202) at_200 rfl rfl rfl ?_
        refine W.callS ok (rest := []) (cl' := (true, [])) (pc' := 205) (w200 hw) (w201 hw) (w2 hw) (w202 hw) (by decide) pd_42 rfl (k_at l Z a0 hE r s0 (esc [c0, c1, c2]) (pc c0) 0 h140 T142.str T143.str (by omega) (by omega) (at_mid (A := []) (D := ((pc c1) ++ (pc c2))) (by simp [esc]) (by simp))) (fun _ q => (nomatch q)) (fun q => ⟨q, fun _ q => (nomatch q)⟩) rfl rfl (Nat.le_of_ble_eq_true rfl) (Nat.le_of_ble_eq_true rfl) (Nat.le_of_ble_eq_true rfl) (Nat.le_of_ble_eq_true rfl) at_202 rfl rfl (pureK ?_)
        show W B h140 25 645 M (true, []) 205 #[.val (.int p0), .val (.int p1), .val (.int p2), .val (.int p3), .val (.int (3 : Int32)), .val (.int c0), .val (.int c1), .val (.int c2), .val (.ref a106), .val (.ref r), .val (.ref s0), .val (.ref s1), .val (.ref s2), .val (.int (((pc c0).length + (pc c1).length + (pc c2).length).toInt32))] [(.int (1 : Int32))]
        refine W.ifeq ok (pcY := 248) (pcN := 208) at_205 rfl (by decide) rfl (fun q => absurd q (by decide)) (fun _ => ?_)
        refine W.aload ok (pc' := 210) at_208 rfl rfl rfl ?_
        refine W.aload ok (pc' := 212) at_210 rfl rfl rfl ?_
        refine W.callV ok (rest := [(.ref r)]) (cl' := (true, [])) (pc' := 215) (w199 hw) (w42 hw) (w44 hw) (w43 hw) (w7 hw) (w45 hw) (by decide) T143.exa pd_1 rfl (k_length l Z a0 hE s0 (pc c0) h140 T143.str (by omega)) (fun _ q => (nomatch q)) (fun q => ⟨q, fun _ q => (nomatch q)⟩) rfl rfl (Nat.le_of_ble_eq_true rfl) (Nat.le_of_ble_eq_true rfl) (Nat.le_of_ble_eq_true rfl) (Nat.le_of_ble_eq_true rfl) at_212 rfl rfl (pureK ?_)
        show W B h140 25 645 M (true, []) 215 #[.val (.int p0), .val (.int p1), .val (.int p2), .val (.int p3), .val (.int (3 : Int32)), .val (.int c0), .val (.int c1), .val (.int c2), .val (.ref a106), .val (.ref r), .val (.ref s0), .val (.ref s1), .val (.ref s2), .val (.int (((pc c0).length + (pc c1).length + (pc c2).length).toInt32))] [(.int ((pc c0).length.toInt32)), (.ref r)]
        refine W.aload ok (pc' := 217) at_215 rfl rfl rfl ?_
        refine W.callS ok (rest := []) (cl' := (true, [])) (pc' := 220) (w200 hw) (w201 hw) (w2 hw) (w202 hw) (by decide) pd_42 rfl (k_at l Z a0 hE r s1 (esc [c0, c1, c2]) (pc c1) ((pc c0).length) h140 T142.str T144.str (by omega) (by omega) (at_mid (A := (pc c0)) (D := (pc c2)) (by simp [esc]) (by simp))) (fun _ q => (nomatch q)) (fun q => ⟨q, fun _ q => (nomatch q)⟩) rfl rfl (Nat.le_of_ble_eq_true rfl) (Nat.le_of_ble_eq_true rfl) (Nat.le_of_ble_eq_true rfl) (Nat.le_of_ble_eq_true rfl) at_217 rfl rfl (pureK ?_)
        show W B h140 25 645 M (true, []) 220 #[.val (.int p0), .val (.int p1), .val (.int p2), .val (.int p3), .val (.int (3 : Int32)), .val (.int c0), .val (.int c1), .val (.int c2), .val (.ref a106), .val (.ref r), .val (.ref s0), .val (.ref s1), .val (.ref s2), .val (.int (((pc c0).length + (pc c1).length + (pc c2).length).toInt32))] [(.int (1 : Int32))]
        refine W.ifeq ok (pcY := 248) (pcN := 223) at_220 rfl (by decide) rfl (fun q => absurd q (by decide)) (fun _ => ?_)
        refine W.aload ok (pc' := 225) at_223 rfl rfl rfl ?_
        refine W.aload ok (pc' := 227) at_225 rfl rfl rfl ?_
        refine W.callV ok (rest := [(.ref r)]) (cl' := (true, [])) (pc' := 230) (w199 hw) (w42 hw) (w44 hw) (w43 hw) (w7 hw) (w45 hw) (by decide) T143.exa pd_1 rfl (k_length l Z a0 hE s0 (pc c0) h140 T143.str (by omega)) (fun _ q => (nomatch q)) (fun q => ⟨q, fun _ q => (nomatch q)⟩) rfl rfl (Nat.le_of_ble_eq_true rfl) (Nat.le_of_ble_eq_true rfl) (Nat.le_of_ble_eq_true rfl) (Nat.le_of_ble_eq_true rfl) at_227 rfl rfl (pureK ?_)
        show W B h140 25 645 M (true, []) 230 #[.val (.int p0), .val (.int p1), .val (.int p2), .val (.int p3), .val (.int (3 : Int32)), .val (.int c0), .val (.int c1), .val (.int c2), .val (.ref a106), .val (.ref r), .val (.ref s0), .val (.ref s1), .val (.ref s2), .val (.int (((pc c0).length + (pc c1).length + (pc c2).length).toInt32))] [(.int ((pc c0).length.toInt32)), (.ref r)]
        refine W.aload ok (pc' := 232) at_230 rfl rfl rfl ?_
        refine W.callV ok (rest := [(.int ((pc c0).length.toInt32)), (.ref r)]) (cl' := (true, [])) (pc' := 235) (w199 hw) (w42 hw) (w44 hw) (w43 hw) (w7 hw) (w45 hw) (by decide) T144.exa pd_1 rfl (k_length l Z a0 hE s1 (pc c1) h140 T144.str (by omega)) (fun _ q => (nomatch q)) (fun q => ⟨q, fun _ q => (nomatch q)⟩) rfl rfl (Nat.le_of_ble_eq_true rfl) (Nat.le_of_ble_eq_true rfl) (Nat.le_of_ble_eq_true rfl) (Nat.le_of_ble_eq_true rfl) at_232 rfl rfl (pureK ?_)
        show W B h140 25 645 M (true, []) 235 #[.val (.int p0), .val (.int p1), .val (.int p2), .val (.int p3), .val (.int (3 : Int32)), .val (.int c0), .val (.int c1), .val (.int c2), .val (.ref a106), .val (.ref r), .val (.ref s0), .val (.ref s1), .val (.ref s2), .val (.int (((pc c0).length + (pc c1).length + (pc c2).length).toInt32))] [(.int ((pc c1).length.toInt32)), (.int ((pc c0).length.toInt32)), (.ref r)]
        refine W.iadd ok (pc' := 236) at_235 rfl ?_
        rw [i32_add]
        refine W.aload ok (pc' := 238) at_236 rfl rfl rfl ?_
        refine W.callS ok (rest := []) (cl' := (true, [])) (pc' := 241) (w200 hw) (w201 hw) (w2 hw) (w202 hw) (by decide) pd_42 rfl (k_at l Z a0 hE r s2 (esc [c0, c1, c2]) (pc c2) ((pc c0).length + (pc c1).length) h140 T142.str S2.str (by omega) (by omega) (at_mid (A := ((pc c0) ++ (pc c1))) (D := []) (by simp [esc]) (by simp))) (fun _ q => (nomatch q)) (fun q => ⟨q, fun _ q => (nomatch q)⟩) rfl rfl (Nat.le_of_ble_eq_true rfl) (Nat.le_of_ble_eq_true rfl) (Nat.le_of_ble_eq_true rfl) (Nat.le_of_ble_eq_true rfl) at_238 rfl rfl (pureK ?_)
        show W B h140 25 645 M (true, []) 241 #[.val (.int p0), .val (.int p1), .val (.int p2), .val (.int p3), .val (.int (3 : Int32)), .val (.int c0), .val (.int c1), .val (.int c2), .val (.ref a106), .val (.ref r), .val (.ref s0), .val (.ref s1), .val (.ref s2), .val (.int (((pc c0).length + (pc c1).length + (pc c2).length).toInt32))] [(.int (1 : Int32))]
        refine W.ifeq ok (pcY := 248) (pcN := 244) at_241 rfl (by decide) rfl (fun q => absurd q (by decide)) (fun _ => ?_)
        refine W.iconst ok (pc' := 245) (1 : Int32) at_244 rfl rfl ?_
        refine W.goto ok (pc' := 249) at_245 (by decide) rfl ?_
        exact W.retZ ok at_249 rfl (Nat.le_of_ble_eq_true rfl) (Nat.le_of_ble_eq_true rfl) (fun x (q : x ∈ M) => q) (fun kp => rfl)
set_option maxRecDepth 65536 in
set_option maxHeartbeats 4000000 in
theorem comes_1 {Post : Tables → Env → Array Value → State → Outcome → State → Prop} (hpost : ∀ tb e args s v u, (limb_1_1.after args s (.returned v) u = true ∧ limb_1_2.after args s (.returned v) u = true ∧ True) → ReturnedEndW s (.returned v) u (Jvm.fieldLocs frame_1_writes args s ++ Jvm.arrayLocs frame_1_arrays args s ++ Jvm.staticLocs frame_1_statics s) 64 12672 → Post tb e args s (.returned v) u) :
    ArmFor flags0 classFile x code maxLocals ret World_1 tables_1 room_1 Calls_1 rest_1 Pre_1 Post := by
  intro l hfl _ _ p e ha hc hk s m args below hf hA hF happ hP
  obtain ⟨hcalls, hrest, hpre⟩ := hP
  obtain ⟨-, -, -, hnamed, -, -, -, hat⟩ := (Spec.applies_iff hf).mp happ
  obtain ⟨hg, hn⟩ := and_e (Cond.before_iff.mp (show (Jvm.Cond.and given_1 narrow_1).before args s = true from hpre))
  obtain ⟨h1, g0⟩ := and_e hg
  obtain ⟨q0, g1⟩ := and_e g0
  obtain ⟨q1, g2⟩ := and_e g1
  obtain ⟨q2, g3⟩ := and_e g2
  obtain ⟨w0_, w1_, w2_, w3_, rfl⟩ : ∃ w0_ w1_ w2_ w3_ : Value, args = #[w0_, w1_, w2_, w3_] := by
    have hs : args.size = 4 := by simpa [Cond.value, given_1] using h1
    obtain ⟨L⟩ := args
    match L, hs with
    | [w0_, w1_, w2_, w3_], _ => exact ⟨w0_, w1_, w2_, w3_, rfl⟩
  have hw := fun d (hd : d ∈ tables_1) => atoms_spec (ws := Jvm.Cond.code x code maxLocals ret :: tables_1) hat d (List.mem_cons_of_mem _ hd)
  have hfit : Fit s := fun {y c} hc i hi => by
    obtain ⟨ha, rfl⟩ := Array.getElem?_eq_some_iff.mp hc
    have q := List.all_eq_true.mp ((Array.all_eq_true_iff_forall_mem.mp hF) _ (Array.getElem_mem ha)) i (List.mem_range.mpr hi)
    simpa [Array.getElem?_eq_getElem hi] using q
  obtain ⟨p0, e0_⟩ := is_v q0
  obtain rfl : w0_ = (.int p0) := Option.some.inj e0_
  obtain ⟨p1, e1_⟩ := is_v q1
  obtain rfl : w1_ = (.int p1) := Option.some.inj e1_
  obtain ⟨p2, e2_⟩ := is_v q2
  obtain rfl : w2_ = (.int p2) := Option.some.inj e2_
  obtain ⟨p3, e3_⟩ := is_v g3
  obtain rfl : w3_ = (.int p3) := Option.some.inj e3_
  obtain ⟨hsets, hown0⟩ := atoms_of _ (rest_1_c_eq ▸ (show rest_1_c.before _ s = true from hrest))
  have nC := not_v (Cond.before_iff.mp (hsets _ (List.mem_of_getElem? (i := 2) rfl)))
  obtain ⟨gC, eC⟩ := is_v (Cond.before_iff.mp (hsets _ (List.mem_of_getElem? (i := 1) rfl)))
  have sC : Sta s s.heap "java/lang/String" "COMPACT_STRINGS" "Z" (.int gC) := Sta.start eC (Or.inl (hsets _ (List.mem_of_getElem? (i := 0) rfl)))
  have cC : ¬ (gC = (0 : Int32)) := gotF (Cond.eq_ints eC (Term.int_eval (0))) nC
  obtain ⟨gF, eF, rF⟩ := isR_v (Cond.before_iff.mp (hsets _ (List.mem_of_getElem? (i := 8) rfl)))
  have sF : Sta s s.heap "jdk/internal/util/Preconditions" "SIOOBE_FORMATTER" "Ljava/util/function/BiFunction;" gF := Sta.start eF (Or.inl (hsets _ (List.mem_of_getElem? (i := 7) rfl)))
  have s_asd : Sta s s.heap "java/lang/StringUTF16" "$assertionsDisabled" "Z" (.int 1) := Sta.start (eq_int_v (Cond.before_iff.mp (hsets _ (List.mem_of_getElem? (i := 12) rfl)))) (Or.inl (hsets _ (List.mem_of_getElem? (i := 11) rfl)))
  have s_hi : Sta s s.heap "java/lang/StringUTF16" "HI_BYTE_SHIFT" "I" (.int 0) := Sta.start (eq_int_v (Cond.before_iff.mp (hsets _ (List.mem_of_getElem? (i := 15) rfl)))) (Or.inl (hsets _ (List.mem_of_getElem? (i := 14) rfl)))
  have s_lo : Sta s s.heap "java/lang/StringUTF16" "LO_BYTE_SHIFT" "I" (.int 8) := Sta.start (eq_int_v (Cond.before_iff.mp (hsets _ (List.mem_of_getElem? (i := 18) rfl)))) (Or.inl (hsets _ (List.mem_of_getElem? (i := 17) rfl)))
  have hE : Ev s (#[.int p0, .int p1, .int p2, .int p3] : Array Value) := ⟨hw, ⟨gC, cC, sC⟩, ⟨gF, rF, sF⟩, s_asd, s_hi, s_lo, (fun q hq => hcalls.1 q hq), (hsets _ (List.mem_of_getElem? (i := 2) rfl))⟩
  obtain ⟨n_, o_, r1, r2, r3, v_, Lc, N_, rfl, ⟨-, rfl⟩, -, -, hL, hR, hN⟩ := k_law l s _ hE p0 p1 p2 p3 s.heap tables_1 [] (fun _ q => (nomatch q)) p e ha hc hk s m _ below hf ((Spec.applies_iff_loose hf).mp happ).1 ⟨rfl, rfl, State.Warmed39.refl s, fun units a _ q => Or.inl q, ⟨Nat.le_refl _, fun _ _ q => q⟩, fun _ q => (by cases q), fun _ q => (by cases q)⟩ trivial
  exact ⟨n_, _, r1, r2, r3, hpost _ _ _ _ _ _ ⟨Cond.after_iff.mpr rfl, Cond.after_iff.mpr (eq_i res_at (Term.int_eval (1)) rfl), trivial⟩ ⟨hR.1, hR.2.1, hR.2.2.1, (hR.2.2.2.sift fun y hy => Or.inr ((hL y hy).elim (fun q => by cases q) id)).mono (by decide) (by decide)⟩⟩
theorem main_1_1 : Claimed_1_1 := comes_1 fun _ _ _ _ _ _ h hF => ⟨h.1, hF⟩
theorem main_1_2 : Claimed_1_2 := comes_1 fun _ _ _ _ _ _ h hF => ⟨h.2.1, hF⟩
end Jvm.Pilot.@@N@@
namespace Jvm.Pilot.@@N@@
open Jvm Jvm.ClassFile Sem Op Lib Jvm.Free Jvm.Stand Jvm.Pilot.@@N@@.Jvm.D
/-! MADE BY PROGRAM (witnessworld.py) out of the Statement's table words and the real class files: 26 classes; the members and pool entries that the words name. The judged class is class 1, her method 1. -/
namespace start1
open Jvm.ClassFile
def u (s : String) : CpInfo := .utf8 (stringToUtf16 s)
/-- a pool by its gaps: so many unusable entries, then the entry; so many at the end -/
def gap : Nat → List CpInfo → List CpInfo
  | 0, r => r
  | n + 1, r => .unusable :: gap n r
def poolList (es : List (Nat × CpInfo)) (last : Nat) : List CpInfo := es.foldr (fun e r => gap e.1 (e.2 :: r)) (gap last [])
def pool (es : List (Nat × CpInfo)) (last : Nat) : Array CpInfo := ⟨poolList es last⟩
def fileOf (pool : Array CpInfo) (this : Nat) (attrs : Array Attribute := #[]) (ms : Array MethodInfo := #[]) (fl : Nat := 33) (sup : Nat := 0) (ifs : Array Nat := #[]) (fds : Array FieldInfo := #[]) : ClassFile where
  minorVersion := 0
  majorVersion := 65
  constantPool := pool
  accessFlags := fl
  thisClass := this
  superClass := sup
  interfaces := ifs
  fields := fds
  methods := ms
  attributes := attrs
def plain (name : String) (sup : Option ClassId) : Class where
  name := name
  kind := .ordinary
  loader := none
  accessFlags := 33
  super := sup
  interfaces := #[]
  cf := none
  fields := #[]
  methods := #[]
  instanceTypes := #[]
  staticTypes := #[]
  resolved := #[]
  callSites := []
  init := .initialized
  statics := none
  mirror := none

def pool0 : Array CpInfo := pool [(5, u "<init>"), (0, u "()V"), (1, .class_ 10), (1, u "java/lang/Object"), (85, u "clone"), (0, u "()Ljava/lang/Object;")] 26

def k0c0 : Code := { maxStack := 0, maxLocals := 1, code := object_method_1_code, exceptionTable := #[], attributes := #[] }
def k0m0 : Method := { name := "<init>", desc := "()V", sig := { parameters := [], returnType := none }, accessFlags := 1, code := some k0c0 }
def k0m1 : Method := { name := "clone", desc := "()Ljava/lang/Object;", sig := { parameters := [], returnType := some (.object "java/lang/Object") }, accessFlags := 260, code := none }
/-- java/lang/Object -/
def k0 : Class := { plain "java/lang/Object" none with
  accessFlags := 33
  interfaces := #[]
  cf := some (fileOf pool0 8 #[] #[{ accessFlags := 1, nameIndex := 5, descriptorIndex := 6, attributes := #[] }, { accessFlags := 260, nameIndex := 96, descriptorIndex := 97, attributes := #[] }] 33 0 #[] #[])
  fields := #[]
  methods := #[k0m0, k0m1]
  instanceTypes := #[]
  staticTypes := #[]
  resolved := Array.replicate 124 none
  statics := none }

def pool1 : Array CpInfo := pool [(2, .class_ 4), (1, u "java/lang/Object"), (0, u "<init>"), (0, u "()V"), (0, .methodref 8 9), (0, .class_ 10), (0, .nameAndType 11 12), (0, u "copperpot/web/HtmlTemplateEscapePinLaw"), (0, u "pick"), (0, u "(I)C"), (0, .class_ 14), (0, u "java/lang/String"), (0, .methodref 13 16), (0, .nameAndType 5 17), (0, u "([C)V"), (0, .methodref 19 20), (0, .class_ 21), (0, .nameAndType 22 23), (0, u "copperpot/web/HtmlTemplate"), (0, u "escape"), (0, u "(Ljava/lang/String;)Ljava/lang/String;"), (0, .methodref 8 25), (0, .nameAndType 26 27), (0, u "piece"), (0, u "(C)Ljava/lang/String;"), (0, .string 29), (0, u ""), (0, .methodref 13 31), (0, .nameAndType 32 33), (0, u "length"), (0, u "()I"), (0, .methodref 8 35), (0, .nameAndType 36 37), (0, u "at"), (0, u "(Ljava/lang/String;ILjava/lang/String;)Z"), (0, .string 39), (0, u "&amp;"), (0, .string 41), (0, u "&lt;"), (0, .string 43), (0, u "&gt;"), (0, .string 45), (0, u "&quot;"), (0, .string 47), (0, u "&#39;"), (0, .methodref 13 49), (0, .nameAndType 50 27), (0, u "valueOf"), (0, .methodref 13 52), (0, .nameAndType 53 12), (0, u "charAt"), (2, u "law"), (0, u "(IIII)Z")] 5

def k1m0 : Method := { name := "<init>", desc := "()V", sig := { parameters := [], returnType := none }, accessFlags := 1, code := none }
def k1c1 : Code := { maxStack := 4, maxLocals := 14, code := code, exceptionTable := #[], attributes := #[] }
def k1m1 : Method := { name := "law", desc := "(IIII)Z", sig := { parameters := [.int, .int, .int, .int], returnType := some .boolean }, accessFlags := 9, code := some k1c1 }
def k1c2 : Code := { maxStack := 2, maxLocals := 2, code := method_3_code, exceptionTable := #[], attributes := #[] }
def k1m2 : Method := { name := "pick", desc := "(I)C", sig := { parameters := [.int], returnType := some .char }, accessFlags := 10, code := some k1c2 }
def k1c3 : Code := { maxStack := 2, maxLocals := 1, code := method_4_code, exceptionTable := #[], attributes := #[] }
def k1m3 : Method := { name := "piece", desc := "(C)Ljava/lang/String;", sig := { parameters := [.char], returnType := some (.object "java/lang/String") }, accessFlags := 10, code := some k1c3 }
def k1c4 : Code := { maxStack := 3, maxLocals := 3, code := method_5_code, exceptionTable := #[], attributes := #[] }
def k1m4 : Method := { name := "at", desc := "(Ljava/lang/String;ILjava/lang/String;)Z", sig := { parameters := [(.object "java/lang/String"), .int, (.object "java/lang/String")], returnType := some .boolean }, accessFlags := 10, code := some k1c4 }
/-- copperpot/web/HtmlTemplateEscapePinLaw -/
def k1 : Class := { plain "copperpot/web/HtmlTemplateEscapePinLaw" (some 0) with
  accessFlags := 49
  interfaces := #[]
  cf := some (fileOf pool1 8 #[] #[{ accessFlags := 1, nameIndex := 5, descriptorIndex := 6, attributes := #[] }, { accessFlags := 9, nameIndex := 56, descriptorIndex := 57, attributes := #[] }, { accessFlags := 10, nameIndex := 11, descriptorIndex := 12, attributes := #[] }, { accessFlags := 10, nameIndex := 26, descriptorIndex := 27, attributes := #[] }, { accessFlags := 10, nameIndex := 36, descriptorIndex := 37, attributes := #[] }] 49 2 #[] #[])
  fields := #[]
  methods := #[k1m0, k1m1, k1m2, k1m3, k1m4]
  instanceTypes := #[]
  staticTypes := #[]
  resolved := Array.replicate 63 none
  statics := none }

def pool2 : Array CpInfo := pool [(1, .class_ 2), (0, u "java/io/Serializable"), (0, .class_ 4), (0, u "java/lang/Object")] 2

/-- java/io/Serializable -/
def k2 : Class := { plain "java/io/Serializable" (some 0) with
  accessFlags := 1537
  interfaces := #[]
  cf := some (fileOf pool2 1 #[] #[] 1537 3 #[] #[])
  fields := #[]
  methods := #[]
  instanceTypes := #[]
  staticTypes := #[]
  resolved := Array.replicate 7 none
  statics := none }

def pool3 : Array CpInfo := pool [(1, .class_ 2), (0, u "java/lang/Comparable"), (0, .class_ 4), (0, u "java/lang/Object")] 7

/-- java/lang/Comparable -/
def k3 : Class := { plain "java/lang/Comparable" (some 0) with
  accessFlags := 1537
  interfaces := #[]
  cf := some (fileOf pool3 1 #[] #[] 1537 3 #[] #[])
  fields := #[]
  methods := #[]
  instanceTypes := #[]
  staticTypes := #[]
  resolved := Array.replicate 12 none
  statics := none }

def pool4 : Array CpInfo := pool [(2, .class_ 4), (1, u "java/lang/CharSequence"), (42, .class_ 48), (0, u "java/lang/CharSequence$1CodePointIterator"), (10, .class_ 60), (0, u "java/lang/CharSequence$1CharIterator"), (5, .class_ 67), (0, u "java/lang/Object")] 63

/-- java/lang/CharSequence -/
def k4 : Class := { plain "java/lang/CharSequence" (some 0) with
  accessFlags := 1537
  interfaces := #[]
  cf := some (fileOf pool4 2 #[.nestMembers #[47, 59]] #[] 1537 66 #[] #[])
  fields := #[]
  methods := #[]
  instanceTypes := #[]
  staticTypes := #[]
  resolved := Array.replicate 131 none
  statics := none }

def pool5 : Array CpInfo := pool [(1, .class_ 2), (0, u "java/lang/constant/Constable"), (0, .class_ 4), (0, u "java/lang/Object")] 6

/-- java/lang/constant/Constable -/
def k5 : Class := { plain "java/lang/constant/Constable" (some 0) with
  accessFlags := 1537
  interfaces := #[]
  cf := some (fileOf pool5 1 #[] #[] 1537 3 #[] #[])
  fields := #[]
  methods := #[]
  instanceTypes := #[]
  staticTypes := #[]
  resolved := Array.replicate 11 none
  statics := none }

def pool6 : Array CpInfo := pool [(1, .class_ 2), (0, u "java/lang/constant/ConstantDesc"), (0, .class_ 4), (0, u "java/lang/Object")] 32

/-- java/lang/constant/ConstantDesc -/
def k6 : Class := { plain "java/lang/constant/ConstantDesc" (some 0) with
  accessFlags := 1537
  interfaces := #[]
  cf := some (fileOf pool6 1 #[] #[] 1537 3 #[] #[])
  fields := #[]
  methods := #[]
  instanceTypes := #[]
  staticTypes := #[]
  resolved := Array.replicate 37 none
  statics := none }

def pool7 : Array CpInfo := pool [(1, .methodref 2 3), (0, .class_ 4), (0, .nameAndType 5 6), (0, u "java/lang/Object"), (0, u "<init>"), (0, u "()V"), (0, .string 8), (0, u ""), (0, .fieldref 10 11), (0, .class_ 12), (0, .nameAndType 13 14), (0, u "java/lang/String"), (0, u "value"), (0, u "[B"), (0, .fieldref 10 16), (0, .nameAndType 17 18), (0, u "coder"), (0, u "B"), (2, u "hash"), (0, u "I"), (2, u "hashIsZero"), (0, u "Z"), (0, .methodref 10 28), (0, .nameAndType 5 29), (0, u "([CIILjava/lang/Void;)V"), (6, u "checkBoundsOffCount"), (0, u "(III)I"), (0, .fieldref 10 39), (0, .nameAndType 40 26), (0, u "COMPACT_STRINGS"), (1, .class_ 44), (1, u "java/lang/StringUTF16"), (0, u "compress"), (1, .methodref 42 48), (0, .nameAndType 49 50), (0, u "coderFromArrayLen"), (0, u "([BI)B"), (2, u "toBytes"), (0, .methodref 55 56), (0, .class_ 57), (0, .nameAndType 58 59), (0, u "java/util/Arrays"), (0, u "copyOfRange"), (0, u "([BII)[B"), (46, .methodref 107 108), (0, .class_ 109), (0, .nameAndType 110 111), (0, u "java/lang/StringLatin1"), (0, u "inflate"), (0, u "([BI[BII)V"), (30, u "()Z"), (34, .methodref 42 178), (0, .nameAndType 45 179), (0, u "([CII)[B"), (13, .class_ 195), (1, u "java/lang/System"), (13, .methodref 10 210), (0, .nameAndType 5 211), (0, u "([BB)V"), (0, .methodref 193 213), (0, .nameAndType 214 215), (0, u "arraycopy"), (0, u "(Ljava/lang/Object;ILjava/lang/Object;II)V"), (118, u "()I"), (0, .methodref 10 336), (0, .nameAndType 17 337), (0, u "()B"), (2, u "()[B"), (22, u "([BI)C"), (5, u "(C)Z"), (21, u "(II)V"), (35, u "(I)C"), (61, .methodref 10 490), (0, .nameAndType 5 491), (0, u "(Ljava/lang/AbstractStringBuilder;Ljava/lang/Void;)V"), (0, .methodref 10 493), (0, .nameAndType 494 142), (0, u "isLatin1"), (0, .methodref 107 496), (0, .nameAndType 497 363), (0, u "charAt"), (0, .methodref 42 496), (2, u "checkIndex"), (4, .nameAndType 507 334), (0, u "length"), (24, u "getBytes"), (16, .methodref 550 506), (0, .class_ 551), (0, u "java/lang/AbstractStringBuilder"), (0, .methodref 550 553), (0, .nameAndType 554 340), (0, u "getValue"), (20, .class_ 576), (0, u "java/lang/CharSequence"), (22, u "CASE_INSENSITIVE_ORDER"), (0, u "Ljava/util/Comparator;"), (181, u "valueOf"), (0, u "(C)Ljava/lang/String;"), (37, u "([BIB)V"), (188, u "([C)V"), (4, .methodref 107 1016), (0, .nameAndType 1017 369), (0, u "canEncode"), (0, .methodref 107 1019), (0, .nameAndType 53 1020), (0, u "(C)[B"), (0, .methodref 42 1019), (25, .methodref 550 493), (0, .fieldref 550 1049), (0, .nameAndType 1050 26), (0, u "maybeLatin1"), (2, .fieldref 1054 1055), (0, .class_ 1056), (0, .nameAndType 1057 1058), (0, u "jdk/internal/util/Preconditions"), (0, u "SIOOBE_FORMATTER"), (0, u "Ljava/util/function/BiFunction;"), (0, .methodref 1054 1060), (0, .nameAndType 501 1061), (0, u "(IILjava/util/function/BiFunction;)I"), (2, u "(IIILjava/util/function/BiFunction;)I"), (0, .methodref 1054 1066), (0, .nameAndType 1067 1064), (0, u "checkFromIndexSize"), (33, u "serialPersistentFields"), (0, u "[Ljava/io/ObjectStreamField;"), (0, .class_ 1104), (0, u "java/lang/String$CaseInsensitiveComparator"), (1, .class_ 1107), (0, u "java/io/Serializable"), (0, .class_ 1109), (0, u "java/lang/Comparable"), (0, .class_ 1111), (0, u "java/lang/constant/Constable"), (0, .class_ 1113), (0, u "java/lang/constant/ConstantDesc"), (2, u "serialVersionUID"), (0, u "J"), (3, u "REPL"), (0, u "C"), (2, u "LATIN1"), (1, u "UTF16"), (105, u "(Ljava/lang/StringBuilder;)V")] 217

def k7m0 : Method := { name := "<init>", desc := "()V", sig := { parameters := [], returnType := none }, accessFlags := 1, code := none }
def k7c1 : Code := { maxStack := 5, maxLocals := 2, code := jdk_42_method_3_code, exceptionTable := #[], attributes := #[] }
def k7m1 : Method := { name := "<init>", desc := "([C)V", sig := { parameters := [(.array .char)], returnType := none }, accessFlags := 1, code := some k7c1 }
def k7c2 : Code := { maxStack := 3, maxLocals := 2, code := jdk_42_method_53_code, exceptionTable := #[], attributes := #[] }
def k7m2 : Method := { name := "<init>", desc := "(Ljava/lang/StringBuilder;)V", sig := { parameters := [(.object "java/lang/StringBuilder")], returnType := none }, accessFlags := 1, code := some k7c2 }
def k7c3 : Code := { maxStack := 2, maxLocals := 1, code := jdk_42_method_54_code, exceptionTable := #[], attributes := #[] }
def k7m3 : Method := { name := "length", desc := "()I", sig := { parameters := [], returnType := some .int }, accessFlags := 1, code := some k7c3 }
def k7c4 : Code := { maxStack := 2, maxLocals := 2, code := jdk_42_method_56_code, exceptionTable := #[], attributes := #[] }
def k7m4 : Method := { name := "charAt", desc := "(I)C", sig := { parameters := [.int], returnType := some .char }, accessFlags := 1, code := some k7c4 }
def k7c5 : Code := { maxStack := 4, maxLocals := 1, code := jdk_42_method_139_code, exceptionTable := #[], attributes := #[] }
def k7m5 : Method := { name := "valueOf", desc := "(C)Ljava/lang/String;", sig := { parameters := [.char], returnType := some (.object "java/lang/String") }, accessFlags := 9, code := some k7c5 }
def k7c6 : Code := { maxStack := 5, maxLocals := 4, code := jdk_42_method_147_code, exceptionTable := #[], attributes := #[] }
def k7m6 : Method := { name := "getBytes", desc := "([BIB)V", sig := { parameters := [(.array .byte), .int, .byte], returnType := none }, accessFlags := 0, code := some k7c6 }
def k7c7 : Code := { maxStack := 4, maxLocals := 6, code := jdk_42_method_149_code, exceptionTable := #[], attributes := #[] }
def k7m7 : Method := { name := "<init>", desc := "([CIILjava/lang/Void;)V", sig := { parameters := [(.array .char), .int, .int, (.object "java/lang/Void")], returnType := none }, accessFlags := 2, code := some k7c7 }
def k7c8 : Code := { maxStack := 5, maxLocals := 5, code := jdk_42_method_150_code, exceptionTable := #[], attributes := #[] }
def k7m8 : Method := { name := "<init>", desc := "(Ljava/lang/AbstractStringBuilder;Ljava/lang/Void;)V", sig := { parameters := [(.object "java/lang/AbstractStringBuilder"), (.object "java/lang/Void")], returnType := none }, accessFlags := 0, code := some k7c8 }
def k7c9 : Code := { maxStack := 2, maxLocals := 3, code := jdk_42_method_151_code, exceptionTable := #[], attributes := #[] }
def k7m9 : Method := { name := "<init>", desc := "([BB)V", sig := { parameters := [(.array .byte), .byte], returnType := none }, accessFlags := 0, code := some k7c9 }
def k7c10 : Code := { maxStack := 1, maxLocals := 1, code := jdk_42_method_152_code, exceptionTable := #[], attributes := #[] }
def k7m10 : Method := { name := "coder", desc := "()B", sig := { parameters := [], returnType := some .byte }, accessFlags := 0, code := some k7c10 }
def k7c11 : Code := { maxStack := 1, maxLocals := 1, code := jdk_42_method_154_code, exceptionTable := #[], attributes := #[] }
def k7m11 : Method := { name := "isLatin1", desc := "()Z", sig := { parameters := [], returnType := some .boolean }, accessFlags := 0, code := some k7c11 }
def k7c12 : Code := { maxStack := 3, maxLocals := 2, code := jdk_42_method_155_code, exceptionTable := #[], attributes := #[] }
def k7m12 : Method := { name := "checkIndex", desc := "(II)V", sig := { parameters := [.int, .int], returnType := none }, accessFlags := 8, code := some k7c12 }
def k7c13 : Code := { maxStack := 4, maxLocals := 3, code := jdk_42_method_157_code, exceptionTable := #[], attributes := #[] }
def k7m13 : Method := { name := "checkBoundsOffCount", desc := "(III)I", sig := { parameters := [.int, .int, .int], returnType := some .int }, accessFlags := 8, code := some k7c13 }
/-- java/lang/String -/
def k7 : Class := { plain "java/lang/String" (some 0) with
  accessFlags := 49
  interfaces := #[2, 3, 4, 5, 6]
  cf := some (fileOf pool7 10 #[.nestMembers #[1103]] #[{ accessFlags := 1, nameIndex := 5, descriptorIndex := 6, attributes := #[] }, { accessFlags := 1, nameIndex := 5, descriptorIndex := 1010, attributes := #[] }, { accessFlags := 1, nameIndex := 5, descriptorIndex := 1233, attributes := #[] }, { accessFlags := 1, nameIndex := 507, descriptorIndex := 334, attributes := #[] }, { accessFlags := 1, nameIndex := 497, descriptorIndex := 427, attributes := #[] }, { accessFlags := 9, nameIndex := 782, descriptorIndex := 783, attributes := #[] }, { accessFlags := 0, nameIndex := 532, descriptorIndex := 821, attributes := #[] }, { accessFlags := 2, nameIndex := 5, descriptorIndex := 29, attributes := #[] }, { accessFlags := 0, nameIndex := 5, descriptorIndex := 491, attributes := #[] }, { accessFlags := 0, nameIndex := 5, descriptorIndex := 211, attributes := #[] }, { accessFlags := 0, nameIndex := 17, descriptorIndex := 337, attributes := #[] }, { accessFlags := 0, nameIndex := 494, descriptorIndex := 142, attributes := #[] }, { accessFlags := 8, nameIndex := 501, descriptorIndex := 391, attributes := #[] }, { accessFlags := 8, nameIndex := 36, descriptorIndex := 37, attributes := #[] }] 49 2 #[1106, 1108, 575, 1110, 1112] #[{ accessFlags := 18, nameIndex := 13, descriptorIndex := 14, attributes := #[] }, { accessFlags := 18, nameIndex := 17, descriptorIndex := 18, attributes := #[] }, { accessFlags := 2, nameIndex := 21, descriptorIndex := 22, attributes := #[] }, { accessFlags := 2, nameIndex := 25, descriptorIndex := 26, attributes := #[] }, { accessFlags := 26, nameIndex := 1116, descriptorIndex := 1117, attributes := #[] }, { accessFlags := 24, nameIndex := 40, descriptorIndex := 26, attributes := #[] }, { accessFlags := 26, nameIndex := 1101, descriptorIndex := 1102, attributes := #[] }, { accessFlags := 26, nameIndex := 1121, descriptorIndex := 1122, attributes := #[] }, { accessFlags := 25, nameIndex := 599, descriptorIndex := 600, attributes := #[] }, { accessFlags := 24, nameIndex := 1125, descriptorIndex := 18, attributes := #[] }, { accessFlags := 24, nameIndex := 1127, descriptorIndex := 18, attributes := #[] }])
  fields := #[{ name := "value", type := (.array .byte), accessFlags := 18, slot := 0, constantValue := 0 }, { name := "coder", type := .byte, accessFlags := 18, slot := 1, constantValue := 0 }, { name := "hash", type := .int, accessFlags := 2, slot := 2, constantValue := 0 }, { name := "hashIsZero", type := .boolean, accessFlags := 2, slot := 3, constantValue := 0 }, { name := "serialVersionUID", type := .long, accessFlags := 26, slot := 0, constantValue := 0 }, { name := "COMPACT_STRINGS", type := .boolean, accessFlags := 24, slot := 1, constantValue := 0 }, { name := "serialPersistentFields", type := (.array (.object "java/io/ObjectStreamField")), accessFlags := 26, slot := 2, constantValue := 0 }, { name := "REPL", type := .char, accessFlags := 26, slot := 3, constantValue := 0 }, { name := "CASE_INSENSITIVE_ORDER", type := (.object "java/util/Comparator"), accessFlags := 25, slot := 4, constantValue := 0 }, { name := "LATIN1", type := .byte, accessFlags := 24, slot := 5, constantValue := 0 }, { name := "UTF16", type := .byte, accessFlags := 24, slot := 6, constantValue := 0 }]
  methods := #[k7m0, k7m1, k7m2, k7m3, k7m4, k7m5, k7m6, k7m7, k7m8, k7m9, k7m10, k7m11, k7m12, k7m13]
  instanceTypes := #[(.array .byte), .byte, .int, .boolean]
  staticTypes := #[.long, .boolean, (.array (.object "java/io/ObjectStreamField")), .char, (.object "java/util/Comparator"), .byte, .byte]
  resolved := Array.replicate 1451 none
  statics := some 0 }

def pool8 : Array CpInfo := pool [(3, .class_ 4), (0, u "java/lang/String"), (1, .class_ 8), (1, u "java/lang/Object"), (0, u "<init>"), (0, u "()V"), (0, .methodref 12 13), (0, .class_ 14), (0, .nameAndType 15 16), (0, u "java/lang/StringUTF16"), (0, u "newBytesLength"), (0, u "(I)I"), (3, .integer 1073741823), (23, .fieldref 12 45), (0, .nameAndType 46 47), (0, u "$assertionsDisabled"), (0, u "Z"), (0, .methodref 12 49), (0, .nameAndType 50 51), (0, u "length"), (0, u "([B)I"), (7, .fieldref 12 60), (0, .nameAndType 61 62), (0, u "HI_BYTE_SHIFT"), (0, u "I"), (0, .fieldref 12 64), (0, .nameAndType 65 62), (0, u "LO_BYTE_SHIFT"), (1, .methodref 12 68), (0, .nameAndType 69 70), (0, u "checkIndex"), (0, u "(I[B)V"), (0, .methodref 12 72), (0, .nameAndType 73 74), (0, u "getChar"), (0, u "([BI)C"), (24, u "(II[B)V"), (7, .methodref 12 108), (0, .nameAndType 109 110), (0, u "newBytesFor"), (0, u "(I)[B"), (0, .methodref 12 112), (0, .nameAndType 113 114), (0, u "putChar"), (0, u "([BII)V"), (0, .methodref 12 116), (0, .nameAndType 117 118), (0, u "compress"), (0, u "([CI[BII)I"), (0, .methodref 12 120), (0, .nameAndType 121 122), (0, u "toBytes"), (0, u "([CII)[B"), (17, u "inflate"), (0, u "([BI[BII)V"), (31, .methodref 12 174), (0, .nameAndType 175 99), (0, u "checkBoundsOffCount"), (85, u "coderFromArrayLen"), (0, u "([BI)B"), (18, u "(III)I"), (87, .class_ 371), (1, u "java/lang/StringUTF16$LinesSpliterator"), (20, u "charAt"), (21, .methodref 3 415), (0, .nameAndType 69 416), (0, u "(II)V"), (2, .methodref 3 420), (0, .nameAndType 175 281), (9, u "MAX_LENGTH"), (44, u "(C)[B"), (110, u "putCharSB"), (40, .class_ 628), (0, u "java/lang/StringUTF16$CodePointsSpliterator"), (0, .class_ 630), (0, u "java/lang/StringUTF16$CharsSpliterator")] 4

def k8m0 : Method := { name := "<init>", desc := "()V", sig := { parameters := [], returnType := none }, accessFlags := 0, code := none }
def k8c1 : Code := { maxStack := 1, maxLocals := 1, code := jdk_52_method_2_code, exceptionTable := #[], attributes := #[] }
def k8m1 : Method := { name := "newBytesFor", desc := "(I)[B", sig := { parameters := [.int], returnType := some (.array .byte) }, accessFlags := 9, code := some k8c1 }
def k8c2 : Code := { maxStack := 4, maxLocals := 1, code := jdk_52_method_3_code, exceptionTable := #[], attributes := #[] }
def k8m2 : Method := { name := "newBytesLength", desc := "(I)I", sig := { parameters := [.int], returnType := some .int }, accessFlags := 9, code := some k8c2 }
def k8c3 : Code := { maxStack := 4, maxLocals := 3, code := jdk_52_method_4_code, exceptionTable := #[], attributes := #[] }
def k8m3 : Method := { name := "putChar", desc := "([BII)V", sig := { parameters := [(.array .byte), .int, .int], returnType := none }, accessFlags := 8, code := some k8c3 }
def k8c4 : Code := { maxStack := 3, maxLocals := 2, code := jdk_52_method_5_code, exceptionTable := #[], attributes := #[] }
def k8m4 : Method := { name := "getChar", desc := "([BI)C", sig := { parameters := [(.array .byte), .int], returnType := some .char }, accessFlags := 8, code := some k8c4 }
def k8c5 : Code := { maxStack := 2, maxLocals := 1, code := jdk_52_method_6_code, exceptionTable := #[], attributes := #[] }
def k8m5 : Method := { name := "length", desc := "([B)I", sig := { parameters := [(.array .byte)], returnType := some .int }, accessFlags := 9, code := some k8c5 }
def k8c6 : Code := { maxStack := 4, maxLocals := 5, code := jdk_52_method_14_code, exceptionTable := #[], attributes := #[] }
def k8m6 : Method := { name := "toBytes", desc := "([CII)[B", sig := { parameters := [(.array .char), .int, .int], returnType := some (.array .byte) }, accessFlags := 9, code := some k8c6 }
def k8c7 : Code := { maxStack := 2, maxLocals := 2, code := jdk_52_method_15_code, exceptionTable := #[], attributes := #[] }
def k8m7 : Method := { name := "coderFromArrayLen", desc := "([BI)B", sig := { parameters := [(.array .byte), .int], returnType := some .byte }, accessFlags := 8, code := some k8c7 }
def k8c8 : Code := { maxStack := 5, maxLocals := 6, code := jdk_52_method_16_code, exceptionTable := #[], attributes := #[] }
def k8m8 : Method := { name := "compress", desc := "([CII)[B", sig := { parameters := [(.array .char), .int, .int], returnType := some (.array .byte) }, accessFlags := 9, code := some k8c8 }
def k8c9 : Code := { maxStack := 3, maxLocals := 7, code := jdk_52_method_21_code, exceptionTable := #[], attributes := #[] }
def k8m9 : Method := { name := "compress", desc := "([CI[BII)I", sig := { parameters := [(.array .char), .int, (.array .byte), .int, .int], returnType := some .int }, accessFlags := 9, code := some k8c9 }
def k8c10 : Code := { maxStack := 3, maxLocals := 2, code := jdk_52_method_24_code, exceptionTable := #[], attributes := #[] }
def k8m10 : Method := { name := "toBytes", desc := "(C)[B", sig := { parameters := [.char], returnType := some (.array .byte) }, accessFlags := 9, code := some k8c10 }
def k8c11 : Code := { maxStack := 3, maxLocals := 3, code := jdk_52_method_71_code, exceptionTable := #[], attributes := #[] }
def k8m11 : Method := { name := "putCharSB", desc := "([BII)V", sig := { parameters := [(.array .byte), .int, .int], returnType := none }, accessFlags := 9, code := some k8c11 }
def k8c12 : Code := { maxStack := 2, maxLocals := 2, code := jdk_52_method_83_code, exceptionTable := #[], attributes := #[] }
def k8m12 : Method := { name := "charAt", desc := "([BI)C", sig := { parameters := [(.array .byte), .int], returnType := some .char }, accessFlags := 9, code := some k8c12 }
def k8c13 : Code := { maxStack := 4, maxLocals := 6, code := jdk_52_method_86_code, exceptionTable := #[], attributes := #[] }
def k8m13 : Method := { name := "inflate", desc := "([BI[BII)V", sig := { parameters := [(.array .byte), .int, (.array .byte), .int, .int], returnType := none }, accessFlags := 9, code := some k8c13 }
def k8c14 : Code := { maxStack := 2, maxLocals := 2, code := jdk_52_method_91_code, exceptionTable := #[], attributes := #[] }
def k8m14 : Method := { name := "checkIndex", desc := "(I[B)V", sig := { parameters := [.int, (.array .byte)], returnType := none }, accessFlags := 9, code := some k8c14 }
def k8c15 : Code := { maxStack := 3, maxLocals := 3, code := jdk_52_method_94_code, exceptionTable := #[], attributes := #[] }
def k8m15 : Method := { name := "checkBoundsOffCount", desc := "(II[B)V", sig := { parameters := [.int, .int, (.array .byte)], returnType := none }, accessFlags := 9, code := some k8c15 }
/-- java/lang/StringUTF16 -/
def k8 : Class := { plain "java/lang/StringUTF16" (some 0) with
  accessFlags := 48
  interfaces := #[]
  cf := some (fileOf pool8 12 #[.nestMembers #[627, 629, 369]] #[{ accessFlags := 0, nameIndex := 9, descriptorIndex := 10, attributes := #[] }, { accessFlags := 9, nameIndex := 109, descriptorIndex := 110, attributes := #[] }, { accessFlags := 9, nameIndex := 15, descriptorIndex := 16, attributes := #[] }, { accessFlags := 8, nameIndex := 113, descriptorIndex := 114, attributes := #[] }, { accessFlags := 8, nameIndex := 73, descriptorIndex := 74, attributes := #[] }, { accessFlags := 9, nameIndex := 50, descriptorIndex := 51, attributes := #[] }, { accessFlags := 9, nameIndex := 121, descriptorIndex := 122, attributes := #[] }, { accessFlags := 8, nameIndex := 261, descriptorIndex := 262, attributes := #[] }, { accessFlags := 9, nameIndex := 117, descriptorIndex := 122, attributes := #[] }, { accessFlags := 9, nameIndex := 117, descriptorIndex := 118, attributes := #[] }, { accessFlags := 9, nameIndex := 121, descriptorIndex := 475, attributes := #[] }, { accessFlags := 9, nameIndex := 586, descriptorIndex := 114, attributes := #[] }, { accessFlags := 9, nameIndex := 392, descriptorIndex := 74, attributes := #[] }, { accessFlags := 9, nameIndex := 140, descriptorIndex := 141, attributes := #[] }, { accessFlags := 9, nameIndex := 69, descriptorIndex := 70, attributes := #[] }, { accessFlags := 9, nameIndex := 175, descriptorIndex := 99, attributes := #[] }] 48 6 #[] #[{ accessFlags := 26, nameIndex := 61, descriptorIndex := 62, attributes := #[] }, { accessFlags := 26, nameIndex := 65, descriptorIndex := 62, attributes := #[] }, { accessFlags := 24, nameIndex := 430, descriptorIndex := 62, attributes := #[] }, { accessFlags := 4120, nameIndex := 46, descriptorIndex := 47, attributes := #[] }])
  fields := #[{ name := "HI_BYTE_SHIFT", type := .int, accessFlags := 26, slot := 0, constantValue := 0 }, { name := "LO_BYTE_SHIFT", type := .int, accessFlags := 26, slot := 1, constantValue := 0 }, { name := "MAX_LENGTH", type := .int, accessFlags := 24, slot := 2, constantValue := 0 }, { name := "$assertionsDisabled", type := .boolean, accessFlags := 4120, slot := 3, constantValue := 0 }]
  methods := #[k8m0, k8m1, k8m2, k8m3, k8m4, k8m5, k8m6, k8m7, k8m8, k8m9, k8m10, k8m11, k8m12, k8m13, k8m14, k8m15]
  instanceTypes := #[]
  staticTypes := #[.int, .int, .int, .boolean]
  resolved := Array.replicate 635 none
  statics := some 1 }

def pool9 : Array CpInfo := pool [(2, .class_ 4), (1, u "java/lang/Object"), (0, u "<init>"), (2, .class_ 10), (1, u "copperpot/web/HtmlTemplate"), (0, u "resource"), (0, u "Ljava/lang/String;"), (2, u "text"), (0, .class_ 17), (0, u "java/lang/String"), (20, u "SLOT"), (0, u "Ljava/util/regex/Pattern;"), (16, .class_ 57), (0, u "java/lang/StringBuilder"), (0, .methodref 16 59), (0, .nameAndType 60 61), (0, u "length"), (0, u "()I"), (0, .methodref 56 63), (0, .nameAndType 5 64), (0, u "(I)V"), (0, .methodref 16 66), (0, .nameAndType 67 68), (0, u "charAt"), (0, u "(I)C"), (0, .string 70), (0, u "&amp;"), (0, .methodref 56 72), (0, .nameAndType 73 74), (0, u "append"), (0, u "(Ljava/lang/String;)Ljava/lang/StringBuilder;"), (0, .string 76), (0, u "&lt;"), (0, .string 78), (0, u "&gt;"), (0, .string 80), (0, u "&quot;"), (0, .string 82), (0, u "&#39;"), (0, .methodref 56 84), (0, .nameAndType 73 85), (0, u "(C)Ljava/lang/StringBuilder;"), (0, .methodref 56 87), (0, .nameAndType 88 89), (0, u "toString"), (0, u "()Ljava/lang/String;"), (28, u "(Ljava/lang/String;)Ljava/lang/String;"), (14, u "escape")] 26

def k9c0 : Code := { maxStack := 3, maxLocals := 4, code := prog_26_method_4_code, exceptionTable := #[], attributes := #[] }
def k9m0 : Method := { name := "escape", desc := "(Ljava/lang/String;)Ljava/lang/String;", sig := { parameters := [(.object "java/lang/String")], returnType := some (.object "java/lang/String") }, accessFlags := 8, code := some k9c0 }
/-- copperpot/web/HtmlTemplate -/
def k9 : Class := { plain "copperpot/web/HtmlTemplate" (some 0) with
  accessFlags := 48
  interfaces := #[]
  cf := some (fileOf pool9 8 #[] #[{ accessFlags := 8, nameIndex := 133, descriptorIndex := 118, attributes := #[] }] 48 2 #[] #[{ accessFlags := 26, nameIndex := 38, descriptorIndex := 39, attributes := #[] }, { accessFlags := 18, nameIndex := 11, descriptorIndex := 12, attributes := #[] }, { accessFlags := 18, nameIndex := 15, descriptorIndex := 12, attributes := #[] }])
  fields := #[{ name := "SLOT", type := (.object "java/util/regex/Pattern"), accessFlags := 26, slot := 0, constantValue := 0 }, { name := "resource", type := (.object "java/lang/String"), accessFlags := 18, slot := 0, constantValue := 0 }, { name := "text", type := (.object "java/lang/String"), accessFlags := 18, slot := 1, constantValue := 0 }]
  methods := #[k9m0]
  instanceTypes := #[(.object "java/lang/String"), (.object "java/lang/String")]
  staticTypes := #[(.object "java/util/regex/Pattern")]
  resolved := Array.replicate 160 none
  statics := none }

def pool10 : Array CpInfo := pool [(1, .class_ 2), (0, u "java/lang/Appendable"), (0, .class_ 4), (0, u "java/lang/Object")] 9

/-- java/lang/Appendable -/
def k10 : Class := { plain "java/lang/Appendable" (some 0) with
  accessFlags := 1537
  interfaces := #[]
  cf := some (fileOf pool10 1 #[] #[] 1537 3 #[] #[])
  fields := #[]
  methods := #[]
  instanceTypes := #[]
  staticTypes := #[]
  resolved := Array.replicate 14 none
  statics := none }

def pool11 : Array CpInfo := pool [(1, .class_ 2), (0, u "java/lang/String"), (0, .methodref 4 5), (0, .class_ 6), (0, .nameAndType 7 8), (0, u "java/lang/Object"), (0, u "<init>"), (0, u "()V"), (1, .class_ 12), (1, u "java/lang/AbstractStringBuilder"), (0, u "EMPTYVALUE"), (0, u "[B"), (0, .fieldref 10 16), (0, .nameAndType 17 14), (0, u "value"), (0, .fieldref 1 19), (0, .nameAndType 20 21), (0, u "COMPACT_STRINGS"), (0, u "Z"), (0, .fieldref 10 23), (0, .nameAndType 24 25), (0, u "coder"), (0, u "B"), (0, .methodref 27 28), (0, .class_ 29), (0, .nameAndType 30 31), (0, u "java/lang/StringUTF16"), (0, u "newBytesFor"), (0, u "(I)[B"), (0, .methodref 1 33), (0, .nameAndType 34 35), (0, u "length"), (0, u "()I"), (3, .integer 2147483647), (0, .methodref 1 41), (0, .nameAndType 24 42), (0, u "()B"), (2, u "append"), (0, u "(Ljava/lang/String;)Ljava/lang/AbstractStringBuilder;"), (1, .class_ 49), (0, u "java/lang/CharSequence"), (19, u "(Ljava/lang/String;)V"), (5, u "maybeLatin1"), (3, .fieldref 10 80), (0, .nameAndType 81 82), (0, u "count"), (0, u "I"), (0, .methodref 10 84), (0, .nameAndType 85 86), (0, u "isLatin1"), (0, u "()Z"), (1, .class_ 90), (1, u "java/lang/StringLatin1"), (9, .methodref 10 101), (0, .nameAndType 102 103), (0, u "ensureCapacityInternal"), (0, u "(I)V"), (0, .methodref 10 105), (0, .nameAndType 106 107), (0, u "newCapacity"), (0, u "(I)I"), (0, .methodref 109 110), (0, .class_ 111), (0, .nameAndType 112 113), (0, u "java/util/Arrays"), (0, u "copyOf"), (0, u "([BI)[B"), (0, .methodref 115 116), (0, .class_ 117), (0, .nameAndType 118 119), (0, u "jdk/internal/util/ArraysSupport"), (0, u "newLength"), (0, u "(III)I"), (5, .methodref 88 126), (0, .nameAndType 127 128), (0, u "inflate"), (0, u "([BI[BII)V"), (7, u "([BII)V"), (54, .methodref 88 192), (0, .nameAndType 193 194), (0, u "canEncode"), (0, u "(C)Z"), (0, .methodref 10 196), (0, .nameAndType 127 8), (0, .methodref 27 198), (0, .nameAndType 199 136), (0, u "putCharSB"), (8, .methodref 10 209), (0, .nameAndType 210 211), (0, u "putStringAt"), (0, u "(ILjava/lang/String;)V"), (5, u "inflateIfNeededFor"), (2, .nameAndType 221 222), (0, u "getBytes"), (0, u "([BIB)V"), (69, u "(C)Ljava/lang/AbstractStringBuilder;"), (104, .methodref 10 398), (0, .nameAndType 217 69), (0, .methodref 1 220), (3, u "()[B"), (40, .class_ 445), (0, u "java/lang/Appendable"), (106, u "getValue")] 56

def k11m0 : Method := { name := "<init>", desc := "()V", sig := { parameters := [], returnType := none }, accessFlags := 0, code := none }
def k11c1 : Code := { maxStack := 2, maxLocals := 2, code := jdk_68_method_2_code, exceptionTable := #[], attributes := #[] }
def k11m1 : Method := { name := "<init>", desc := "(I)V", sig := { parameters := [.int], returnType := none }, accessFlags := 0, code := some k11c1 }
def k11c2 : Code := { maxStack := 1, maxLocals := 1, code := jdk_68_method_6_code, exceptionTable := #[], attributes := #[] }
def k11m2 : Method := { name := "length", desc := "()I", sig := { parameters := [], returnType := some .int }, accessFlags := 1, code := some k11c2 }
def k11c3 : Code := { maxStack := 4, maxLocals := 3, code := jdk_68_method_9_code, exceptionTable := #[], attributes := #[] }
def k11m3 : Method := { name := "ensureCapacityInternal", desc := "(I)V", sig := { parameters := [.int], returnType := none }, accessFlags := 2, code := some k11c3 }
def k11c4 : Code := { maxStack := 5, maxLocals := 6, code := jdk_68_method_10_code, exceptionTable := #[], attributes := #[] }
def k11m4 : Method := { name := "newCapacity", desc := "(I)I", sig := { parameters := [.int], returnType := some .int }, accessFlags := 2, code := some k11c4 }
def k11c5 : Code := { maxStack := 5, maxLocals := 2, code := jdk_68_method_11_code, exceptionTable := #[], attributes := #[] }
def k11m5 : Method := { name := "inflate", desc := "()V", sig := { parameters := [], returnType := none }, accessFlags := 2, code := some k11c5 }
def k11c6 : Code := { maxStack := 3, maxLocals := 3, code := jdk_68_method_22_code, exceptionTable := #[], attributes := #[] }
def k11m6 : Method := { name := "append", desc := "(Ljava/lang/String;)Ljava/lang/AbstractStringBuilder;", sig := { parameters := [(.object "java/lang/String")], returnType := some (.object "java/lang/AbstractStringBuilder") }, accessFlags := 1, code := some k11c6 }
def k11c7 : Code := { maxStack := 5, maxLocals := 2, code := jdk_68_method_31_code, exceptionTable := #[], attributes := #[] }
def k11m7 : Method := { name := "append", desc := "(C)Ljava/lang/AbstractStringBuilder;", sig := { parameters := [.char], returnType := some (.object "java/lang/AbstractStringBuilder") }, accessFlags := 1, code := some k11c7 }
def k11c8 : Code := { maxStack := 1, maxLocals := 1, code := jdk_68_method_64_code, exceptionTable := #[], attributes := #[] }
def k11m8 : Method := { name := "getValue", desc := "()[B", sig := { parameters := [], returnType := some (.array .byte) }, accessFlags := 16, code := some k11c8 }
def k11c9 : Code := { maxStack := 1, maxLocals := 1, code := jdk_68_method_68_code, exceptionTable := #[], attributes := #[] }
def k11m9 : Method := { name := "isLatin1", desc := "()Z", sig := { parameters := [], returnType := some .boolean }, accessFlags := 16, code := some k11c9 }
def k11c10 : Code := { maxStack := 2, maxLocals := 2, code := jdk_68_method_71_code, exceptionTable := #[], attributes := #[] }
def k11m10 : Method := { name := "inflateIfNeededFor", desc := "(Ljava/lang/String;)V", sig := { parameters := [(.object "java/lang/String")], returnType := none }, accessFlags := 2, code := some k11c10 }
def k11c11 : Code := { maxStack := 4, maxLocals := 3, code := jdk_68_method_73_code, exceptionTable := #[], attributes := #[] }
def k11m11 : Method := { name := "putStringAt", desc := "(ILjava/lang/String;)V", sig := { parameters := [.int, (.object "java/lang/String")], returnType := none }, accessFlags := 2, code := some k11c11 }
/-- java/lang/AbstractStringBuilder -/
def k11 : Class := { plain "java/lang/AbstractStringBuilder" (some 0) with
  accessFlags := 1056
  interfaces := #[10, 4]
  cf := some (fileOf pool11 10 #[] #[{ accessFlags := 0, nameIndex := 7, descriptorIndex := 8, attributes := #[] }, { accessFlags := 0, nameIndex := 7, descriptorIndex := 103, attributes := #[] }, { accessFlags := 1, nameIndex := 34, descriptorIndex := 35, attributes := #[] }, { accessFlags := 2, nameIndex := 102, descriptorIndex := 103, attributes := #[] }, { accessFlags := 2, nameIndex := 106, descriptorIndex := 107, attributes := #[] }, { accessFlags := 2, nameIndex := 127, descriptorIndex := 8, attributes := #[] }, { accessFlags := 1, nameIndex := 45, descriptorIndex := 46, attributes := #[] }, { accessFlags := 1, nameIndex := 45, descriptorIndex := 292, attributes := #[] }, { accessFlags := 16, nameIndex := 552, descriptorIndex := 403, attributes := #[] }, { accessFlags := 16, nameIndex := 85, descriptorIndex := 86, attributes := #[] }, { accessFlags := 2, nameIndex := 217, descriptorIndex := 69, attributes := #[] }, { accessFlags := 2, nameIndex := 210, descriptorIndex := 211, attributes := #[] }] 1056 4 #[444, 48] #[{ accessFlags := 0, nameIndex := 17, descriptorIndex := 14, attributes := #[] }, { accessFlags := 0, nameIndex := 24, descriptorIndex := 25, attributes := #[] }, { accessFlags := 0, nameIndex := 75, descriptorIndex := 21, attributes := #[] }, { accessFlags := 0, nameIndex := 81, descriptorIndex := 82, attributes := #[] }, { accessFlags := 26, nameIndex := 13, descriptorIndex := 14, attributes := #[] }])
  fields := #[{ name := "value", type := (.array .byte), accessFlags := 0, slot := 0, constantValue := 0 }, { name := "coder", type := .byte, accessFlags := 0, slot := 1, constantValue := 0 }, { name := "maybeLatin1", type := .boolean, accessFlags := 0, slot := 2, constantValue := 0 }, { name := "count", type := .int, accessFlags := 0, slot := 3, constantValue := 0 }, { name := "EMPTYVALUE", type := (.array .byte), accessFlags := 26, slot := 0, constantValue := 0 }]
  methods := #[k11m0, k11m1, k11m2, k11m3, k11m4, k11m5, k11m6, k11m7, k11m8, k11m9, k11m10, k11m11]
  instanceTypes := #[(.array .byte), .byte, .boolean, .int]
  staticTypes := #[(.array .byte)]
  resolved := Array.replicate 609 none
  statics := none }

def pool12 : Array CpInfo := pool [(1, .methodref 2 3), (0, .class_ 4), (0, .nameAndType 5 6), (0, u "java/lang/AbstractStringBuilder"), (0, u "<init>"), (0, u "(I)V"), (11, .class_ 20), (1, u "java/lang/String"), (3, .class_ 26), (1, u "java/lang/StringBuilder"), (0, u "append"), (0, u "(Ljava/lang/String;)Ljava/lang/StringBuilder;"), (0, .methodref 2 30), (0, .nameAndType 27 31), (0, u "(Ljava/lang/String;)Ljava/lang/AbstractStringBuilder;"), (18, .methodref 2 51), (0, .nameAndType 27 52), (0, u "(C)Ljava/lang/AbstractStringBuilder;"), (84, .methodref 18 138), (0, .nameAndType 5 139), (0, u "(Ljava/lang/StringBuilder;)V"), (5, u "()V"), (10, u "()I"), (129, u "(C)Ljava/lang/StringBuilder;"), (56, .methodref 2 344), (0, .nameAndType 345 156), (0, u "length"), (3, .class_ 350), (0, u "java/lang/Appendable"), (0, .class_ 352), (0, u "java/io/Serializable"), (0, .class_ 354), (0, u "java/lang/Comparable"), (0, .class_ 356), (0, u "java/lang/CharSequence"), (0, u "serialVersionUID"), (0, u "J"), (40, u "toString"), (0, u "()Ljava/lang/String;")] 21

def k12m0 : Method := { name := "<init>", desc := "()V", sig := { parameters := [], returnType := none }, accessFlags := 1, code := none }
def k12c1 : Code := { maxStack := 2, maxLocals := 2, code := jdk_67_method_2_code, exceptionTable := #[], attributes := #[] }
def k12m1 : Method := { name := "<init>", desc := "(I)V", sig := { parameters := [.int], returnType := none }, accessFlags := 1, code := some k12c1 }
def k12c2 : Code := { maxStack := 2, maxLocals := 2, code := jdk_67_method_7_code, exceptionTable := #[], attributes := #[] }
def k12m2 : Method := { name := "append", desc := "(Ljava/lang/String;)Ljava/lang/StringBuilder;", sig := { parameters := [(.object "java/lang/String")], returnType := some (.object "java/lang/StringBuilder") }, accessFlags := 1, code := some k12c2 }
def k12c3 : Code := { maxStack := 2, maxLocals := 2, code := jdk_67_method_14_code, exceptionTable := #[], attributes := #[] }
def k12m3 : Method := { name := "append", desc := "(C)Ljava/lang/StringBuilder;", sig := { parameters := [.char], returnType := some (.object "java/lang/StringBuilder") }, accessFlags := 1, code := some k12c3 }
def k12c4 : Code := { maxStack := 3, maxLocals := 1, code := jdk_67_method_42_code, exceptionTable := #[], attributes := #[] }
def k12m4 : Method := { name := "toString", desc := "()Ljava/lang/String;", sig := { parameters := [], returnType := some (.object "java/lang/String") }, accessFlags := 1, code := some k12c4 }
def k12c5 : Code := { maxStack := 1, maxLocals := 1, code := jdk_67_method_93_code, exceptionTable := #[], attributes := #[] }
def k12m5 : Method := { name := "length", desc := "()I", sig := { parameters := [], returnType := some .int }, accessFlags := 4161, code := some k12c5 }
/-- java/lang/StringBuilder -/
def k12 : Class := { plain "java/lang/StringBuilder" (some 11) with
  accessFlags := 49
  interfaces := #[10, 2, 3, 4]
  cf := some (fileOf pool12 24 #[] #[{ accessFlags := 1, nameIndex := 5, descriptorIndex := 145, attributes := #[] }, { accessFlags := 1, nameIndex := 5, descriptorIndex := 6, attributes := #[] }, { accessFlags := 1, nameIndex := 27, descriptorIndex := 28, attributes := #[] }, { accessFlags := 1, nameIndex := 27, descriptorIndex := 286, attributes := #[] }, { accessFlags := 1, nameIndex := 399, descriptorIndex := 400, attributes := #[] }, { accessFlags := 4161, nameIndex := 345, descriptorIndex := 156, attributes := #[] }] 49 2 #[349, 351, 353, 355] #[{ accessFlags := 24, nameIndex := 357, descriptorIndex := 358, attributes := #[] }])
  fields := #[{ name := "serialVersionUID", type := .long, accessFlags := 24, slot := 0, constantValue := 0 }]
  methods := #[k12m0, k12m1, k12m2, k12m3, k12m4, k12m5]
  instanceTypes := #[(.array .byte), .byte, .boolean, .int]
  staticTypes := #[.long]
  resolved := Array.replicate 422 none
  statics := none }

def pool13 : Array CpInfo := pool [(1, .class_ 2), (0, u "java/lang/String"), (1, .class_ 6), (1, u "java/lang/Object"), (0, u "<init>"), (0, u "()V"), (0, .methodref 1 10), (0, .nameAndType 11 12), (0, u "checkIndex"), (0, u "(II)V"), (1, .class_ 16), (1, u "java/lang/StringLatin1"), (0, u "inflate"), (2, .class_ 22), (1, u "java/lang/StringUTF16"), (3, .nameAndType 17 27), (0, u "([BI[BII)V"), (25, u "([BI)C"), (36, u "canEncode"), (14, u "(C)Z"), (15, u "$assertionsDisabled"), (0, u "Z"), (98, .class_ 223), (1, u "java/lang/StringLatin1$LinesSpliterator"), (16, .methodref 20 26), (11, u "charAt"), (127, u "toBytes"), (1, u "(C)[B"), (7, .class_ 391), (0, u "java/lang/StringLatin1$CharsSpliterator")] 3

def k13m0 : Method := { name := "<init>", desc := "()V", sig := { parameters := [], returnType := none }, accessFlags := 0, code := none }
def k13c1 : Code := { maxStack := 2, maxLocals := 2, code := jdk_43_method_2_code, exceptionTable := #[], attributes := #[] }
def k13m1 : Method := { name := "charAt", desc := "([BI)C", sig := { parameters := [(.array .byte), .int], returnType := some .char }, accessFlags := 9, code := some k13c1 }
def k13c2 : Code := { maxStack := 2, maxLocals := 1, code := jdk_43_method_3_code, exceptionTable := #[], attributes := #[] }
def k13m2 : Method := { name := "canEncode", desc := "(C)Z", sig := { parameters := [.char], returnType := some .boolean }, accessFlags := 9, code := some k13c2 }
def k13c3 : Code := { maxStack := 4, maxLocals := 1, code := jdk_43_method_46_code, exceptionTable := #[], attributes := #[] }
def k13m3 : Method := { name := "toBytes", desc := "(C)[B", sig := { parameters := [.char], returnType := some (.array .byte) }, accessFlags := 9, code := some k13c3 }
def k13c4 : Code := { maxStack := 5, maxLocals := 5, code := jdk_43_method_50_code, exceptionTable := #[], attributes := #[] }
def k13m4 : Method := { name := "inflate", desc := "([BI[BII)V", sig := { parameters := [(.array .byte), .int, (.array .byte), .int, .int], returnType := none }, accessFlags := 9, code := some k13c4 }
/-- java/lang/StringLatin1 -/
def k13 : Class := { plain "java/lang/StringLatin1" (some 0) with
  accessFlags := 48
  interfaces := #[]
  cf := some (fileOf pool13 14 #[.nestMembers #[390, 221]] #[{ accessFlags := 0, nameIndex := 7, descriptorIndex := 8, attributes := #[] }, { accessFlags := 9, nameIndex := 252, descriptorIndex := 53, attributes := #[] }, { accessFlags := 9, nameIndex := 90, descriptorIndex := 105, attributes := #[] }, { accessFlags := 9, nameIndex := 380, descriptorIndex := 382, attributes := #[] }, { accessFlags := 9, nameIndex := 17, descriptorIndex := 27, attributes := #[] }] 48 4 #[] #[{ accessFlags := 4120, nameIndex := 121, descriptorIndex := 122, attributes := #[] }])
  fields := #[{ name := "$assertionsDisabled", type := .boolean, accessFlags := 4120, slot := 0, constantValue := 0 }]
  methods := #[k13m0, k13m1, k13m2, k13m3, k13m4]
  instanceTypes := #[]
  staticTypes := #[.boolean]
  resolved := Array.replicate 395 none
  statics := none }

def pool14 : Array CpInfo := pool [(2, .class_ 4), (1, u "java/lang/Object"), (0, u "<init>"), (0, u "()V"), (17, .class_ 26), (1, u "jdk/internal/util/Preconditions"), (6, u "checkIndex"), (15, u "checkFromIndexSize"), (5, .class_ 56), (0, u "jdk/internal/util/Preconditions$4"), (57, .class_ 115), (0, u "jdk/internal/util/Preconditions$1"), (7, u "SIOOBE_FORMATTER"), (0, u "Ljava/util/function/BiFunction;"), (0, .class_ 126), (0, u "jdk/internal/util/Preconditions$2"), (3, u "AIOOBE_FORMATTER"), (0, .class_ 132), (0, u "jdk/internal/util/Preconditions$3"), (3, u "IOOBE_FORMATTER"), (41, u "(IILjava/util/function/BiFunction;)I"), (4, u "(IIILjava/util/function/BiFunction;)I")] 10

def k14m0 : Method := { name := "<init>", desc := "()V", sig := { parameters := [], returnType := none }, accessFlags := 1, code := none }
def k14c1 : Code := { maxStack := 3, maxLocals := 3, code := jdk_41_method_11_code, exceptionTable := #[], attributes := #[] }
def k14m1 : Method := { name := "checkIndex", desc := "(IILjava/util/function/BiFunction;)I", sig := { parameters := [.int, .int, (.object "java/util/function/BiFunction")], returnType := some .int }, accessFlags := 9, code := some k14c1 }
def k14c2 : Code := { maxStack := 4, maxLocals := 4, code := jdk_41_method_13_code, exceptionTable := #[], attributes := #[] }
def k14m2 : Method := { name := "checkFromIndexSize", desc := "(IIILjava/util/function/BiFunction;)I", sig := { parameters := [.int, .int, .int, (.object "java/util/function/BiFunction")], returnType := some .int }, accessFlags := 9, code := some k14c2 }
/-- jdk/internal/util/Preconditions -/
def k14 : Class := { plain "jdk/internal/util/Preconditions" (some 0) with
  accessFlags := 33
  interfaces := #[]
  cf := some (fileOf pool14 24 #[.nestMembers #[55, 131, 125, 114]] #[{ accessFlags := 1, nameIndex := 5, descriptorIndex := 6, attributes := #[] }, { accessFlags := 9, nameIndex := 33, descriptorIndex := 178, attributes := #[] }, { accessFlags := 9, nameIndex := 49, descriptorIndex := 183, attributes := #[] }] 33 2 #[] #[{ accessFlags := 25, nameIndex := 123, descriptorIndex := 124, attributes := #[] }, { accessFlags := 25, nameIndex := 130, descriptorIndex := 124, attributes := #[] }, { accessFlags := 25, nameIndex := 136, descriptorIndex := 124, attributes := #[] }])
  fields := #[{ name := "SIOOBE_FORMATTER", type := (.object "java/util/function/BiFunction"), accessFlags := 25, slot := 0, constantValue := 0 }, { name := "AIOOBE_FORMATTER", type := (.object "java/util/function/BiFunction"), accessFlags := 25, slot := 1, constantValue := 0 }, { name := "IOOBE_FORMATTER", type := (.object "java/util/function/BiFunction"), accessFlags := 25, slot := 2, constantValue := 0 }]
  methods := #[k14m0, k14m1, k14m2]
  instanceTypes := #[]
  staticTypes := #[(.object "java/util/function/BiFunction"), (.object "java/util/function/BiFunction"), (.object "java/util/function/BiFunction")]
  resolved := Array.replicate 194 none
  statics := some 2 }

def pool15 : Array CpInfo := pool [(9, u "<init>"), (6, .class_ 18), (1, u "java/lang/Object"), (0, u "()V"), (1, .class_ 23), (1, u "jdk/internal/util/ArraysSupport"), (0, u "LOG2_ARRAY_LONG_INDEX_SCALE"), (0, u "I"), (2, u "U"), (0, u "Ljdk/internal/misc/Unsafe;"), (8, u "BIG_ENDIAN"), (0, u "Z"), (8, u "LOG2_BYTE_BIT_SIZE"), (4, u "LOG2_ARRAY_INT_INDEX_SCALE"), (54, u "JLA"), (0, u "Ljdk/internal/access/JavaLangAccess;"), (11, u "LOG2_ARRAY_BOOLEAN_INDEX_SCALE"), (9, u "LOG2_ARRAY_BYTE_INDEX_SCALE"), (5, u "LOG2_ARRAY_CHAR_INDEX_SCALE"), (5, u "LOG2_ARRAY_SHORT_INDEX_SCALE"), (18, u "LOG2_ARRAY_FLOAT_INDEX_SCALE"), (24, u "LOG2_ARRAY_DOUBLE_INDEX_SCALE"), (6, .methodref 195 196), (0, .class_ 197), (0, .nameAndType 198 199), (0, u "java/lang/Math"), (0, u "max"), (0, u "(II)I"), (0, .integer 2147483639), (76, u "T_BOOLEAN"), (2, u "T_CHAR"), (1, u "T_FLOAT"), (1, u "T_DOUBLE"), (1, u "T_BYTE"), (1, u "T_SHORT"), (1, u "T_INT"), (1, u "T_LONG"), (1, u "SOFT_MAX_ARRAY_LENGTH"), (56, u "newLength"), (0, u "(III)I")] 25

def k15m0 : Method := { name := "<init>", desc := "()V", sig := { parameters := [], returnType := none }, accessFlags := 2, code := none }
def k15c1 : Code := { maxStack := 3, maxLocals := 4, code := jdk_48_method_27_code, exceptionTable := #[], attributes := #[] }
def k15m1 : Method := { name := "newLength", desc := "(III)I", sig := { parameters := [.int, .int, .int], returnType := some .int }, accessFlags := 9, code := some k15c1 }
/-- jdk/internal/util/ArraysSupport -/
def k15 : Class := { plain "jdk/internal/util/ArraysSupport" (some 0) with
  accessFlags := 33
  interfaces := #[]
  cf := some (fileOf pool15 21 #[] #[{ accessFlags := 2, nameIndex := 9, descriptorIndex := 19, attributes := #[] }, { accessFlags := 9, nameIndex := 351, descriptorIndex := 352, attributes := #[] }] 33 16 #[] #[{ accessFlags := 24, nameIndex := 28, descriptorIndex := 29, attributes := #[] }, { accessFlags := 26, nameIndex := 38, descriptorIndex := 39, attributes := #[] }, { accessFlags := 25, nameIndex := 121, descriptorIndex := 25, attributes := #[] }, { accessFlags := 25, nameIndex := 131, descriptorIndex := 25, attributes := #[] }, { accessFlags := 25, nameIndex := 137, descriptorIndex := 25, attributes := #[] }, { accessFlags := 25, nameIndex := 143, descriptorIndex := 25, attributes := #[] }, { accessFlags := 25, nameIndex := 53, descriptorIndex := 25, attributes := #[] }, { accessFlags := 25, nameIndex := 24, descriptorIndex := 25, attributes := #[] }, { accessFlags := 25, nameIndex := 162, descriptorIndex := 25, attributes := #[] }, { accessFlags := 25, nameIndex := 187, descriptorIndex := 25, attributes := #[] }, { accessFlags := 26, nameIndex := 48, descriptorIndex := 25, attributes := #[] }, { accessFlags := 25, nameIndex := 277, descriptorIndex := 25, attributes := #[] }, { accessFlags := 25, nameIndex := 280, descriptorIndex := 25, attributes := #[] }, { accessFlags := 25, nameIndex := 282, descriptorIndex := 25, attributes := #[] }, { accessFlags := 25, nameIndex := 284, descriptorIndex := 25, attributes := #[] }, { accessFlags := 25, nameIndex := 286, descriptorIndex := 25, attributes := #[] }, { accessFlags := 25, nameIndex := 288, descriptorIndex := 25, attributes := #[] }, { accessFlags := 25, nameIndex := 290, descriptorIndex := 25, attributes := #[] }, { accessFlags := 25, nameIndex := 292, descriptorIndex := 25, attributes := #[] }, { accessFlags := 26, nameIndex := 108, descriptorIndex := 109, attributes := #[] }, { accessFlags := 25, nameIndex := 294, descriptorIndex := 25, attributes := #[] }])
  fields := #[{ name := "U", type := (.object "jdk/internal/misc/Unsafe"), accessFlags := 24, slot := 0, constantValue := 0 }, { name := "BIG_ENDIAN", type := .boolean, accessFlags := 26, slot := 1, constantValue := 0 }, { name := "LOG2_ARRAY_BOOLEAN_INDEX_SCALE", type := .int, accessFlags := 25, slot := 2, constantValue := 0 }, { name := "LOG2_ARRAY_BYTE_INDEX_SCALE", type := .int, accessFlags := 25, slot := 3, constantValue := 0 }, { name := "LOG2_ARRAY_CHAR_INDEX_SCALE", type := .int, accessFlags := 25, slot := 4, constantValue := 0 }, { name := "LOG2_ARRAY_SHORT_INDEX_SCALE", type := .int, accessFlags := 25, slot := 5, constantValue := 0 }, { name := "LOG2_ARRAY_INT_INDEX_SCALE", type := .int, accessFlags := 25, slot := 6, constantValue := 0 }, { name := "LOG2_ARRAY_LONG_INDEX_SCALE", type := .int, accessFlags := 25, slot := 7, constantValue := 0 }, { name := "LOG2_ARRAY_FLOAT_INDEX_SCALE", type := .int, accessFlags := 25, slot := 8, constantValue := 0 }, { name := "LOG2_ARRAY_DOUBLE_INDEX_SCALE", type := .int, accessFlags := 25, slot := 9, constantValue := 0 }, { name := "LOG2_BYTE_BIT_SIZE", type := .int, accessFlags := 26, slot := 10, constantValue := 0 }, { name := "T_BOOLEAN", type := .int, accessFlags := 25, slot := 11, constantValue := 0 }, { name := "T_CHAR", type := .int, accessFlags := 25, slot := 12, constantValue := 0 }, { name := "T_FLOAT", type := .int, accessFlags := 25, slot := 13, constantValue := 0 }, { name := "T_DOUBLE", type := .int, accessFlags := 25, slot := 14, constantValue := 0 }, { name := "T_BYTE", type := .int, accessFlags := 25, slot := 15, constantValue := 0 }, { name := "T_SHORT", type := .int, accessFlags := 25, slot := 16, constantValue := 0 }, { name := "T_INT", type := .int, accessFlags := 25, slot := 17, constantValue := 0 }, { name := "T_LONG", type := .int, accessFlags := 25, slot := 18, constantValue := 0 }, { name := "JLA", type := (.object "jdk/internal/access/JavaLangAccess"), accessFlags := 26, slot := 19, constantValue := 0 }, { name := "SOFT_MAX_ARRAY_LENGTH", type := .int, accessFlags := 25, slot := 20, constantValue := 0 }]
  methods := #[k15m0, k15m1]
  instanceTypes := #[]
  staticTypes := #[(.object "jdk/internal/misc/Unsafe"), .boolean, .int, .int, .int, .int, .int, .int, .int, .int, .int, .int, .int, .int, .int, .int, .int, .int, .int, (.object "jdk/internal/access/JavaLangAccess"), .int]
  resolved := Array.replicate 378 none
  statics := none }

def pool16 : Array CpInfo := pool [(1, .class_ 2), (0, u "java/lang/Math"), (1, .class_ 6), (1, u "java/lang/Object"), (0, u "<init>"), (0, u "()V"), (89, .class_ 100), (1, u "java/lang/Math$RandomNumberGeneratorHolder"), (71, u "negativeZeroFloatBits"), (0, u "J"), (2, u "negativeZeroDoubleBits"), (21, u "max"), (2, u "min"), (43, u "$assertionsDisabled"), (0, u "Z"), (88, u "(II)I"), (2, u "twoToTheDoubleScaleDown"), (0, u "D"), (4, u "twoToTheDoubleScaleUp"), (9, u "E"), (3, u "PI"), (2, u "TAU"), (2, u "DEGREES_TO_RADIANS"), (0, u "RADIANS_TO_DEGREES")] 94

def k16m0 : Method := { name := "<init>", desc := "()V", sig := { parameters := [], returnType := none }, accessFlags := 2, code := none }
def k16c1 : Code := { maxStack := 2, maxLocals := 2, code := jdk_29_method_65_code, exceptionTable := #[], attributes := #[] }
def k16m1 : Method := { name := "max", desc := "(II)I", sig := { parameters := [.int, .int], returnType := some .int }, accessFlags := 9, code := some k16c1 }
def k16c2 : Code := { maxStack := 2, maxLocals := 2, code := jdk_29_method_69_code, exceptionTable := #[], attributes := #[] }
def k16m2 : Method := { name := "min", desc := "(II)I", sig := { parameters := [.int, .int], returnType := some .int }, accessFlags := 9, code := some k16c2 }
/-- java/lang/Math -/
def k16 : Class := { plain "java/lang/Math" (some 0) with
  accessFlags := 49
  interfaces := #[]
  cf := some (fileOf pool16 1 #[.nestMembers #[98]] #[{ accessFlags := 2, nameIndex := 7, descriptorIndex := 8, attributes := #[] }, { accessFlags := 9, nameIndex := 198, descriptorIndex := 335, attributes := #[] }, { accessFlags := 9, nameIndex := 201, descriptorIndex := 335, attributes := #[] }] 49 4 #[] #[{ accessFlags := 25, nameIndex := 354, descriptorIndex := 339, attributes := #[] }, { accessFlags := 25, nameIndex := 358, descriptorIndex := 339, attributes := #[] }, { accessFlags := 25, nameIndex := 361, descriptorIndex := 339, attributes := #[] }, { accessFlags := 26, nameIndex := 364, descriptorIndex := 339, attributes := #[] }, { accessFlags := 26, nameIndex := 365, descriptorIndex := 339, attributes := #[] }, { accessFlags := 26, nameIndex := 172, descriptorIndex := 173, attributes := #[] }, { accessFlags := 26, nameIndex := 176, descriptorIndex := 173, attributes := #[] }, { accessFlags := 8, nameIndex := 344, descriptorIndex := 339, attributes := #[] }, { accessFlags := 8, nameIndex := 338, descriptorIndex := 339, attributes := #[] }, { accessFlags := 4120, nameIndex := 245, descriptorIndex := 246, attributes := #[] }])
  fields := #[{ name := "E", type := .double, accessFlags := 25, slot := 0, constantValue := 0 }, { name := "PI", type := .double, accessFlags := 25, slot := 1, constantValue := 0 }, { name := "TAU", type := .double, accessFlags := 25, slot := 2, constantValue := 0 }, { name := "DEGREES_TO_RADIANS", type := .double, accessFlags := 26, slot := 3, constantValue := 0 }, { name := "RADIANS_TO_DEGREES", type := .double, accessFlags := 26, slot := 4, constantValue := 0 }, { name := "negativeZeroFloatBits", type := .long, accessFlags := 26, slot := 5, constantValue := 0 }, { name := "negativeZeroDoubleBits", type := .long, accessFlags := 26, slot := 6, constantValue := 0 }, { name := "twoToTheDoubleScaleUp", type := .double, accessFlags := 8, slot := 7, constantValue := 0 }, { name := "twoToTheDoubleScaleDown", type := .double, accessFlags := 8, slot := 8, constantValue := 0 }, { name := "$assertionsDisabled", type := .boolean, accessFlags := 4120, slot := 9, constantValue := 0 }]
  methods := #[k16m0, k16m1, k16m2]
  instanceTypes := #[]
  staticTypes := #[.double, .double, .double, .double, .double, .long, .long, .double, .double, .boolean]
  resolved := Array.replicate 460 none
  statics := none }

def pool17 : Array CpInfo := pool [(2, .class_ 4), (1, u "java/lang/Object"), (0, u "<init>"), (0, u "()V"), (7, .class_ 16), (1, u "java/util/Arrays"), (57, .class_ 76), (1, u "java/util/Arrays$NaturalOrder"), (32, u "()Ljava/lang/Object;"), (3, .class_ 115), (1, u "java/util/Arrays$LegacyMergeSort"), (1, u "Z"), (10, .nameAndType 129 109), (0, u "clone"), (9, u "copyOfRange"), (10, .methodref 151 152), (0, .class_ 153), (0, .nameAndType 154 155), (0, u "java/lang/System"), (0, u "arraycopy"), (0, u "(Ljava/lang/Object;ILjava/lang/Object;II)V"), (146, u "copyOf"), (1, .methodref 305 306), (0, .class_ 307), (0, .nameAndType 308 309), (0, u "java/lang/Math"), (0, u "min"), (0, u "(II)I"), (0, .methodref 311 128), (0, .class_ 312), (0, u "[B"), (26, .methodref 14 340), (0, .nameAndType 341 342), (0, u "copyOfRangeByte"), (0, u "([BII)[B"), (0, .methodref 14 344), (0, .nameAndType 345 346), (0, u "checkLength"), (0, u "(II)V"), (28, .class_ 376), (0, u "java/util/Arrays$ArrayList"), (68, u "$assertionsDisabled"), (269, u "MIN_ARRAY_SORT_GRAN"), (0, u "I"), (2, u "INSERTIONSORT_THRESHOLD"), (149, u "([BI)[B"), (105, .class_ 976), (0, u "java/util/Arrays$ArrayItr")] 52

def k17m0 : Method := { name := "<init>", desc := "()V", sig := { parameters := [], returnType := none }, accessFlags := 2, code := none }
def k17c1 : Code := { maxStack := 6, maxLocals := 3, code := jdk_65_method_121_code, exceptionTable := #[], attributes := #[] }
def k17m1 : Method := { name := "copyOf", desc := "([BI)[B", sig := { parameters := [(.array .byte), .int], returnType := some (.array .byte) }, accessFlags := 9, code := some k17c1 }
def k17c2 : Code := { maxStack := 4, maxLocals := 2, code := jdk_65_method_131_code, exceptionTable := #[], attributes := #[] }
def k17m2 : Method := { name := "checkLength", desc := "(II)V", sig := { parameters := [.int, .int], returnType := none }, accessFlags := 10, code := some k17c2 }
def k17c3 : Code := { maxStack := 3, maxLocals := 3, code := jdk_65_method_132_code, exceptionTable := #[], attributes := #[] }
def k17m3 : Method := { name := "copyOfRange", desc := "([BII)[B", sig := { parameters := [(.array .byte), .int, .int], returnType := some (.array .byte) }, accessFlags := 9, code := some k17c3 }
def k17c4 : Code := { maxStack := 6, maxLocals := 5, code := jdk_65_method_133_code, exceptionTable := #[], attributes := #[] }
def k17m4 : Method := { name := "copyOfRangeByte", desc := "([BII)[B", sig := { parameters := [(.array .byte), .int, .int], returnType := some (.array .byte) }, accessFlags := 10, code := some k17c4 }
/-- java/util/Arrays -/
def k17 : Class := { plain "java/util/Arrays" (some 0) with
  accessFlags := 49
  interfaces := #[]
  cf := some (fileOf pool17 14 #[.nestMembers #[975, 375, 113, 74]] #[{ accessFlags := 2, nameIndex := 5, descriptorIndex := 6, attributes := #[] }, { accessFlags := 9, nameIndex := 302, descriptorIndex := 869, attributes := #[] }, { accessFlags := 10, nameIndex := 345, descriptorIndex := 346, attributes := #[] }, { accessFlags := 9, nameIndex := 139, descriptorIndex := 342, attributes := #[] }, { accessFlags := 10, nameIndex := 341, descriptorIndex := 342, attributes := #[] }] 49 2 #[] #[{ accessFlags := 26, nameIndex := 715, descriptorIndex := 716, attributes := #[] }, { accessFlags := 26, nameIndex := 719, descriptorIndex := 716, attributes := #[] }, { accessFlags := 4120, nameIndex := 445, descriptorIndex := 117, attributes := #[] }])
  fields := #[{ name := "MIN_ARRAY_SORT_GRAN", type := .int, accessFlags := 26, slot := 0, constantValue := 0 }, { name := "INSERTIONSORT_THRESHOLD", type := .int, accessFlags := 26, slot := 1, constantValue := 0 }, { name := "$assertionsDisabled", type := .boolean, accessFlags := 4120, slot := 2, constantValue := 0 }]
  methods := #[k17m0, k17m1, k17m2, k17m3, k17m4]
  instanceTypes := #[]
  staticTypes := #[.int, .int, .boolean]
  resolved := Array.replicate 1029 none
  statics := none }

def pool18 : Array CpInfo := pool [(2, .class_ 4), (1, u "java/lang/Object"), (0, u "<init>"), (0, u "()V"), (1, .class_ 10), (1, u "java/lang/System"), (0, u "allowSecurityManager"), (0, u "I"), (16, u "cons"), (0, u "Ljava/io/Console;"), (77, .class_ 110), (1, u "java/lang/System$CallersHolder"), (43, u "initialErrStream"), (0, u "Ljava/io/PrintStream;"), (19, u "security"), (0, u "Ljava/lang/SecurityManager;"), (31, .class_ 209), (0, u "java/lang/System$1"), (7, u "props"), (0, u "Ljava/util/Properties;"), (2, u "lineSeparator"), (0, u "Ljava/lang/String;"), (96, .class_ 321), (1, u "java/lang/System$LoggerFinder"), (5, .class_ 328), (0, u "java/lang/System$Logger"), (67, u "err"), (2, u "out"), (91, u "notSupportedJnuEncoding"), (15, u "in"), (17, u "initialIn"), (0, u "Ljava/io/InputStream;"), (35, u "bootLayer"), (0, u "Ljava/lang/ModuleLayer;"), (99, .class_ 664), (0, u "java/lang/System$2"), (9, u "NEVER"), (2, u "MAYBE"), (49, u "arraycopy"), (0, u "(Ljava/lang/Object;ILjava/lang/Object;II)V"), (72, .class_ 802), (0, u "java/lang/System$Logger$Level")] 31

def k18m0 : Method := { name := "<init>", desc := "()V", sig := { parameters := [], returnType := none }, accessFlags := 2, code := none }
def k18m1 : Method := { name := "arraycopy", desc := "(Ljava/lang/Object;ILjava/lang/Object;II)V", sig := { parameters := [(.object "java/lang/Object"), .int, (.object "java/lang/Object"), .int, .int], returnType := none }, accessFlags := 265, code := none }
/-- java/lang/System -/
def k18 : Class := { plain "java/lang/System" (some 0) with
  accessFlags := 49
  interfaces := #[]
  cf := some (fileOf pool18 8 #[.nestMembers #[319, 327, 801, 108, 663, 208]] #[{ accessFlags := 2, nameIndex := 5, descriptorIndex := 6, attributes := #[] }, { accessFlags := 265, nameIndex := 727, descriptorIndex := 728, attributes := #[] }] 49 2 #[] #[{ accessFlags := 25, nameIndex := 507, descriptorIndex := 526, attributes := #[] }, { accessFlags := 25, nameIndex := 399, descriptorIndex := 155, attributes := #[] }, { accessFlags := 25, nameIndex := 396, descriptorIndex := 155, attributes := #[] }, { accessFlags := 10, nameIndex := 525, descriptorIndex := 526, attributes := #[] }, { accessFlags := 26, nameIndex := 674, descriptorIndex := 12, attributes := #[] }, { accessFlags := 26, nameIndex := 677, descriptorIndex := 12, attributes := #[] }, { accessFlags := 10, nameIndex := 11, descriptorIndex := 12, attributes := #[] }, { accessFlags := 74, nameIndex := 175, descriptorIndex := 176, attributes := #[] }, { accessFlags := 10, nameIndex := 491, descriptorIndex := 222, attributes := #[] }, { accessFlags := 74, nameIndex := 29, descriptorIndex := 30, attributes := #[] }, { accessFlags := 74, nameIndex := 154, descriptorIndex := 155, attributes := #[] }, { accessFlags := 10, nameIndex := 217, descriptorIndex := 218, attributes := #[] }, { accessFlags := 10, nameIndex := 221, descriptorIndex := 222, attributes := #[] }, { accessFlags := 8, nameIndex := 562, descriptorIndex := 563, attributes := #[] }])
  fields := #[{ name := "in", type := (.object "java/io/InputStream"), accessFlags := 25, slot := 0, constantValue := 0 }, { name := "out", type := (.object "java/io/PrintStream"), accessFlags := 25, slot := 1, constantValue := 0 }, { name := "err", type := (.object "java/io/PrintStream"), accessFlags := 25, slot := 2, constantValue := 0 }, { name := "initialIn", type := (.object "java/io/InputStream"), accessFlags := 10, slot := 3, constantValue := 0 }, { name := "NEVER", type := .int, accessFlags := 26, slot := 4, constantValue := 0 }, { name := "MAYBE", type := .int, accessFlags := 26, slot := 5, constantValue := 0 }, { name := "allowSecurityManager", type := .int, accessFlags := 10, slot := 6, constantValue := 0 }, { name := "security", type := (.object "java/lang/SecurityManager"), accessFlags := 74, slot := 7, constantValue := 0 }, { name := "notSupportedJnuEncoding", type := (.object "java/lang/String"), accessFlags := 10, slot := 8, constantValue := 0 }, { name := "cons", type := (.object "java/io/Console"), accessFlags := 74, slot := 9, constantValue := 0 }, { name := "initialErrStream", type := (.object "java/io/PrintStream"), accessFlags := 74, slot := 10, constantValue := 0 }, { name := "props", type := (.object "java/util/Properties"), accessFlags := 10, slot := 11, constantValue := 0 }, { name := "lineSeparator", type := (.object "java/lang/String"), accessFlags := 10, slot := 12, constantValue := 0 }, { name := "bootLayer", type := (.object "java/lang/ModuleLayer"), accessFlags := 8, slot := 13, constantValue := 0 }]
  methods := #[k18m0, k18m1]
  instanceTypes := #[]
  staticTypes := #[(.object "java/io/InputStream"), (.object "java/io/PrintStream"), (.object "java/io/PrintStream"), (.object "java/io/InputStream"), .int, .int, .int, (.object "java/lang/SecurityManager"), (.object "java/lang/String"), (.object "java/io/Console"), (.object "java/io/PrintStream"), (.object "java/util/Properties"), (.object "java/lang/String"), (.object "java/lang/ModuleLayer")]
  resolved := Array.replicate 834 none
  statics := none }

def pool19 : Array CpInfo := pool [(1, .class_ 2), (0, u "java/lang/Cloneable"), (0, .class_ 4), (0, u "java/lang/Object")] 2

/-- java/lang/Cloneable -/
def k19 : Class := { plain "java/lang/Cloneable" (some 0) with
  accessFlags := 1537
  interfaces := #[]
  cf := some (fileOf pool19 1 #[] #[] 1537 3 #[] #[])
  fields := #[]
  methods := #[]
  instanceTypes := #[]
  staticTypes := #[]
  resolved := Array.replicate 7 none
  statics := none }

/-- the primitive byte -/
def k20 : Class := { plain "byte" none with kind := .primitive 'B', accessFlags := 0x411 }
/-- [B -/
def k21 : Class := { plain "[B" (some 0) with kind := .array 20 .byte, interfaces := #[19, 2], accessFlags := 1041 }

/-- the primitive char -/
def k22 : Class := { plain "char" none with kind := .primitive 'C', accessFlags := 0x411 }
/-- [C -/
def k23 : Class := { plain "[C" (some 0) with kind := .array 22 .char, interfaces := #[19, 2], accessFlags := 1041 }

/-- the primitive int -/
def k24 : Class := { plain "int" none with kind := .primitive 'I', accessFlags := 0x411 }
/-- [I -/
def k25 : Class := { plain "[I" (some 0) with kind := .array 24 .int, interfaces := #[19, 2], accessFlags := 1041 }

def heap : Heap := #[{ cls := 7, slots := #[.long 0, .int 1, .null, .int 0, .null, .int 0, .int 0], vm := .statics 7 },
  { cls := 8, slots := #[.int 0, .int 8, .int 0, .int 1], vm := .statics 8 },
  { cls := 14, slots := #[.null, .null, .null], vm := .statics 14 }]
def classes : Array Class := #[k0, k1, k2, k3, k4, k5, k6, k7, k8, k9, k10, k11, k12, k13, k14, k15, k16, k17, k18, k19, k20, k21, k22, k23, k24, k25]
def interned : List (Array UInt16 × Addr) := []
def slotsUsed : Nat := 14
def theMethod : MethodId := ⟨1, 1⟩
def args0 : Array Value := #[.int 5, .int 5, .int 5, .int 5]
def aboutOver (below : List Frame) : State where
  vm := { classes := classes, interned := interned.toArray }
  heap := heap
  slotsUsed := slotsUsed
  threads := #[{ frames := .invoking theMethod args0 :: below }]
def below0 : List Frame := [.native { method := ⟨0, 0⟩, args := #[] }]
def about1 : State := aboutOver below0
def p0 : Program := .bare "" "" ""
def e0 : Env := launch0.env 0 0 0
theorem w_frames : about1.frames = Frame.invoking theMethod args0 :: below0 := rfl
set_option maxRecDepth 65536 in
theorem w_args : argsFit about1.vm theMethod args0 = true := by decide +kernel
set_option maxRecDepth 65536 in
theorem w_heap : heapFits about1 = true := by decide +kernel
set_option maxRecDepth 65536 in
theorem w_runnable : about1.curStatus? = some .runnable := by decide +kernel
set_option maxRecDepth 65536 in
theorem w_alone : about1.alone = true := by decide +kernel
set_option maxRecDepth 65536 in
theorem w_named : about1.methodNamed? x = some theMethod := by decide +kernel
set_option maxRecDepth 65536 in
theorem w_hears : about1.hears theMethod below0 = true := by decide +kernel
set_option maxRecDepth 65536 in
theorem w_ripe : about1.ripe theMethod args0 below0 = true := by decide +kernel
theorem w_running : about1.status = .running := rfl
set_option maxRecDepth 65536 in
theorem w_room : about1.hasRoom e0.platform room_1 = true :=
  launch0.hasRoom_least _ room_1 (by decide +kernel) (by decide +kernel) (by decide +kernel) (by decide +kernel) (by decide +kernel) (by decide +kernel)
theorem allAtoms_all (ts : List Jvm.Cond) (a : Array Jvm.Value) (st : Jvm.State) : (allAtoms ts).before a st = ts.all (fun c => c.before a st) := by
  induction ts with
  | nil => rfl
  | cons c t ih =>
    show (Jvm.Cond.and c (allAtoms t)).before a st = _
    rw [Jvm.Cond.before_and, ih, List.all_cons]
def words1 : List Jvm.Cond := Jvm.Cond.code x code maxLocals ret :: tables_1
/-- a 'code' word, met by the world's own term for the bytes: nothing is compared byte by byte -/
theorem code_word {y : MethodName} {bytes : ByteArray} {mx : Nat} {rt : Option FieldType} {a : Array Value} {s : State} {m : MethodId} {meth : Method} {c : Code} (h1 : s.methodNamed? y = some m) (h2 : s.vm.method? m = some meth) (h3 : meth.code = some c) (h4 : c.code = bytes)
    (h5 : (c.maxLocals == mx && c.exceptionTable.isEmpty && decide (c.maxStack ≤ mostOperands) && decide (meth.sig.returnType = rt) && !meth.locks && decide (parseMethodDescriptor y.desc = some meth.sig)) = true) : (Jvm.Cond.code y bytes mx rt).before a s = true := by
  simp only [Bool.and_eq_true, beq_iff_eq, Bool.not_eq_true', decide_eq_true_eq] at h5
  obtain ⟨⟨⟨⟨⟨g1, g2⟩, g3⟩, g4⟩, g5⟩, g6⟩ := h5
  simp [Cond.before, Cond.holds, Cond.value, h1, h2, h3, h4, g1, g2, g3, g4, g5, g6]
def isCode : Jvm.Cond → Bool
  | .code _ _ _ _ => true
  | _ => false
theorem all_split {L : List Jvm.Cond} {P : Jvm.Cond → Bool} (h1 : L.all (fun c => isCode c || P c) = true) (h2 : ∀ c ∈ L.filter isCode, P c = true) : L.all P = true := by
  refine List.all_eq_true.mpr fun c hc => ?_
  have h := List.all_eq_true.mp h1 c hc
  rcases Bool.eq_false_or_eq_true (isCode c) with hi | hi
  · exact h2 c (List.mem_filter.mpr ⟨hc, hi⟩)
  · simpa [hi] using h
set_option maxRecDepth 65536 in
theorem w_c0 : (Jvm.Cond.code x code maxLocals ret).before args0 about1 = true := code_word (m := ⟨1, 1⟩) (meth := k1m1) (c := k1c1) (by decide +kernel) rfl rfl rfl (by decide +kernel)
set_option maxRecDepth 65536 in
theorem w_c1 : (Jvm.Cond.code ({ cls := "copperpot/web/HtmlTemplateEscapePinLaw", name := "pick", desc := "(I)C" } : Jvm.MethodName) method_3_code (2 : Nat) (Option.some Jvm.ClassFile.FieldType.char)).before args0 about1 = true := code_word (m := ⟨1, 2⟩) (meth := k1m2) (c := k1c2) (by decide +kernel) rfl rfl rfl (by decide +kernel)
set_option maxRecDepth 65536 in
theorem w_c2 : (Jvm.Cond.code ({ cls := "java/lang/String", name := "<init>", desc := "([C)V" } : Jvm.MethodName) jdk_42_method_3_code (2 : Nat) (Option.none : Option Jvm.ClassFile.FieldType)).before args0 about1 = true := code_word (m := ⟨7, 1⟩) (meth := k7m1) (c := k7c1) (by decide +kernel) rfl rfl rfl (by decide +kernel)
set_option maxRecDepth 65536 in
theorem w_c3 : (Jvm.Cond.code ({ cls := "java/lang/String", name := "<init>", desc := "([CIILjava/lang/Void;)V" } : Jvm.MethodName) jdk_42_method_149_code (6 : Nat) (Option.none : Option Jvm.ClassFile.FieldType)).before args0 about1 = true := code_word (m := ⟨7, 7⟩) (meth := k7m7) (c := k7c7) (by decide +kernel) rfl rfl rfl (by decide +kernel)
set_option maxRecDepth 65536 in
theorem w_c4 : (Jvm.Cond.code ({ cls := "java/lang/Object", name := "<init>", desc := "()V" } : Jvm.MethodName) object_method_1_code (1 : Nat) (Option.none : Option Jvm.ClassFile.FieldType)).before args0 about1 = true := code_word (m := ⟨0, 0⟩) (meth := k0m0) (c := k0c0) (by decide +kernel) rfl rfl rfl (by decide +kernel)
set_option maxRecDepth 65536 in
theorem w_c5 : (Jvm.Cond.code ({ cls := "java/lang/StringUTF16", name := "compress", desc := "([CII)[B" } : Jvm.MethodName) jdk_52_method_16_code (6 : Nat) (Option.some (Jvm.ClassFile.FieldType.array Jvm.ClassFile.FieldType.byte))).before args0 about1 = true := code_word (m := ⟨8, 8⟩) (meth := k8m8) (c := k8c8) (by decide +kernel) rfl rfl rfl (by decide +kernel)
set_option maxRecDepth 65536 in
theorem w_c6 : (Jvm.Cond.code ({ cls := "java/lang/StringUTF16", name := "compress", desc := "([CI[BII)I" } : Jvm.MethodName) jdk_52_method_21_code (7 : Nat) (Option.some Jvm.ClassFile.FieldType.int)).before args0 about1 = true := code_word (m := ⟨8, 9⟩) (meth := k8m9) (c := k8c9) (by decide +kernel) rfl rfl rfl (by decide +kernel)
set_option maxRecDepth 65536 in
theorem w_c7 : (Jvm.Cond.code ({ cls := "java/lang/StringUTF16", name := "coderFromArrayLen", desc := "([BI)B" } : Jvm.MethodName) jdk_52_method_15_code (2 : Nat) (Option.some Jvm.ClassFile.FieldType.byte)).before args0 about1 = true := code_word (m := ⟨8, 7⟩) (meth := k8m7) (c := k8c7) (by decide +kernel) rfl rfl rfl (by decide +kernel)
set_option maxRecDepth 65536 in
theorem w_c8 : (Jvm.Cond.code ({ cls := "copperpot/web/HtmlTemplate", name := "escape", desc := "(Ljava/lang/String;)Ljava/lang/String;" } : Jvm.MethodName) prog_26_method_4_code (4 : Nat) (Option.some (Jvm.ClassFile.FieldType.object "java/lang/String"))).before args0 about1 = true := code_word (m := ⟨9, 0⟩) (meth := k9m0) (c := k9c0) (by decide +kernel) rfl rfl rfl (by decide +kernel)
set_option maxRecDepth 65536 in
theorem w_c9 : (Jvm.Cond.code ({ cls := "java/lang/String", name := "length", desc := "()I" } : Jvm.MethodName) jdk_42_method_54_code (1 : Nat) (Option.some Jvm.ClassFile.FieldType.int)).before args0 about1 = true := code_word (m := ⟨7, 3⟩) (meth := k7m3) (c := k7c3) (by decide +kernel) rfl rfl rfl (by decide +kernel)
set_option maxRecDepth 65536 in
theorem w_c10 : (Jvm.Cond.code ({ cls := "java/lang/String", name := "coder", desc := "()B" } : Jvm.MethodName) jdk_42_method_152_code (1 : Nat) (Option.some Jvm.ClassFile.FieldType.byte)).before args0 about1 = true := code_word (m := ⟨7, 10⟩) (meth := k7m10) (c := k7c10) (by decide +kernel) rfl rfl rfl (by decide +kernel)
set_option maxRecDepth 65536 in
theorem w_c11 : (Jvm.Cond.code ({ cls := "java/lang/StringBuilder", name := "<init>", desc := "(I)V" } : Jvm.MethodName) jdk_67_method_2_code (2 : Nat) (Option.none : Option Jvm.ClassFile.FieldType)).before args0 about1 = true := code_word (m := ⟨12, 1⟩) (meth := k12m1) (c := k12c1) (by decide +kernel) rfl rfl rfl (by decide +kernel)
set_option maxRecDepth 65536 in
theorem w_c12 : (Jvm.Cond.code ({ cls := "java/lang/AbstractStringBuilder", name := "<init>", desc := "(I)V" } : Jvm.MethodName) jdk_68_method_2_code (2 : Nat) (Option.none : Option Jvm.ClassFile.FieldType)).before args0 about1 = true := code_word (m := ⟨11, 1⟩) (meth := k11m1) (c := k11c1) (by decide +kernel) rfl rfl rfl (by decide +kernel)
set_option maxRecDepth 65536 in
theorem w_c13 : (Jvm.Cond.code ({ cls := "java/lang/String", name := "charAt", desc := "(I)C" } : Jvm.MethodName) jdk_42_method_56_code (2 : Nat) (Option.some Jvm.ClassFile.FieldType.char)).before args0 about1 = true := code_word (m := ⟨7, 4⟩) (meth := k7m4) (c := k7c4) (by decide +kernel) rfl rfl rfl (by decide +kernel)
set_option maxRecDepth 65536 in
theorem w_c14 : (Jvm.Cond.code ({ cls := "java/lang/String", name := "isLatin1", desc := "()Z" } : Jvm.MethodName) jdk_42_method_154_code (1 : Nat) (Option.some Jvm.ClassFile.FieldType.boolean)).before args0 about1 = true := code_word (m := ⟨7, 11⟩) (meth := k7m11) (c := k7c11) (by decide +kernel) rfl rfl rfl (by decide +kernel)
set_option maxRecDepth 65536 in
theorem w_c15 : (Jvm.Cond.code ({ cls := "java/lang/StringLatin1", name := "charAt", desc := "([BI)C" } : Jvm.MethodName) jdk_43_method_2_code (2 : Nat) (Option.some Jvm.ClassFile.FieldType.char)).before args0 about1 = true := code_word (m := ⟨13, 1⟩) (meth := k13m1) (c := k13c1) (by decide +kernel) rfl rfl rfl (by decide +kernel)
set_option maxRecDepth 65536 in
theorem w_c16 : (Jvm.Cond.code ({ cls := "java/lang/String", name := "checkIndex", desc := "(II)V" } : Jvm.MethodName) jdk_42_method_155_code (2 : Nat) (Option.none : Option Jvm.ClassFile.FieldType)).before args0 about1 = true := code_word (m := ⟨7, 12⟩) (meth := k7m12) (c := k7c12) (by decide +kernel) rfl rfl rfl (by decide +kernel)
set_option maxRecDepth 65536 in
theorem w_c17 : (Jvm.Cond.code ({ cls := "jdk/internal/util/Preconditions", name := "checkIndex", desc := "(IILjava/util/function/BiFunction;)I" } : Jvm.MethodName) jdk_41_method_11_code (3 : Nat) (Option.some Jvm.ClassFile.FieldType.int)).before args0 about1 = true := code_word (m := ⟨14, 1⟩) (meth := k14m1) (c := k14c1) (by decide +kernel) rfl rfl rfl (by decide +kernel)
set_option maxRecDepth 65536 in
theorem w_c18 : (Jvm.Cond.code ({ cls := "java/lang/StringBuilder", name := "append", desc := "(Ljava/lang/String;)Ljava/lang/StringBuilder;" } : Jvm.MethodName) jdk_67_method_7_code (2 : Nat) (Option.some (Jvm.ClassFile.FieldType.object "java/lang/StringBuilder"))).before args0 about1 = true := code_word (m := ⟨12, 2⟩) (meth := k12m2) (c := k12c2) (by decide +kernel) rfl rfl rfl (by decide +kernel)
set_option maxRecDepth 65536 in
theorem w_c19 : (Jvm.Cond.code ({ cls := "java/lang/AbstractStringBuilder", name := "append", desc := "(Ljava/lang/String;)Ljava/lang/AbstractStringBuilder;" } : Jvm.MethodName) jdk_68_method_22_code (3 : Nat) (Option.some (Jvm.ClassFile.FieldType.object "java/lang/AbstractStringBuilder"))).before args0 about1 = true := code_word (m := ⟨11, 6⟩) (meth := k11m6) (c := k11c6) (by decide +kernel) rfl rfl rfl (by decide +kernel)
set_option maxRecDepth 65536 in
theorem w_c20 : (Jvm.Cond.code ({ cls := "java/lang/AbstractStringBuilder", name := "ensureCapacityInternal", desc := "(I)V" } : Jvm.MethodName) jdk_68_method_9_code (3 : Nat) (Option.none : Option Jvm.ClassFile.FieldType)).before args0 about1 = true := code_word (m := ⟨11, 3⟩) (meth := k11m3) (c := k11c3) (by decide +kernel) rfl rfl rfl (by decide +kernel)
set_option maxRecDepth 65536 in
theorem w_c21 : (Jvm.Cond.code ({ cls := "java/lang/AbstractStringBuilder", name := "newCapacity", desc := "(I)I" } : Jvm.MethodName) jdk_68_method_10_code (6 : Nat) (Option.some Jvm.ClassFile.FieldType.int)).before args0 about1 = true := code_word (m := ⟨11, 4⟩) (meth := k11m4) (c := k11c4) (by decide +kernel) rfl rfl rfl (by decide +kernel)
set_option maxRecDepth 65536 in
theorem w_c22 : (Jvm.Cond.code ({ cls := "jdk/internal/util/ArraysSupport", name := "newLength", desc := "(III)I" } : Jvm.MethodName) jdk_48_method_27_code (4 : Nat) (Option.some Jvm.ClassFile.FieldType.int)).before args0 about1 = true := code_word (m := ⟨15, 1⟩) (meth := k15m1) (c := k15c1) (by decide +kernel) rfl rfl rfl (by decide +kernel)
set_option maxRecDepth 65536 in
theorem w_c23 : (Jvm.Cond.code ({ cls := "java/lang/Math", name := "max", desc := "(II)I" } : Jvm.MethodName) jdk_29_method_65_code (2 : Nat) (Option.some Jvm.ClassFile.FieldType.int)).before args0 about1 = true := code_word (m := ⟨16, 1⟩) (meth := k16m1) (c := k16c1) (by decide +kernel) rfl rfl rfl (by decide +kernel)
set_option maxRecDepth 65536 in
theorem w_c24 : (Jvm.Cond.code ({ cls := "java/util/Arrays", name := "copyOf", desc := "([BI)[B" } : Jvm.MethodName) jdk_65_method_121_code (3 : Nat) (Option.some (Jvm.ClassFile.FieldType.array Jvm.ClassFile.FieldType.byte))).before args0 about1 = true := code_word (m := ⟨17, 1⟩) (meth := k17m1) (c := k17c1) (by decide +kernel) rfl rfl rfl (by decide +kernel)
set_option maxRecDepth 65536 in
theorem w_c25 : (Jvm.Cond.code ({ cls := "java/lang/Math", name := "min", desc := "(II)I" } : Jvm.MethodName) jdk_29_method_69_code (2 : Nat) (Option.some Jvm.ClassFile.FieldType.int)).before args0 about1 = true := code_word (m := ⟨16, 2⟩) (meth := k16m2) (c := k16c2) (by decide +kernel) rfl rfl rfl (by decide +kernel)
set_option maxRecDepth 65536 in
theorem w_c26 : (Jvm.Cond.code ({ cls := "java/lang/AbstractStringBuilder", name := "putStringAt", desc := "(ILjava/lang/String;)V" } : Jvm.MethodName) jdk_68_method_73_code (3 : Nat) (Option.none : Option Jvm.ClassFile.FieldType)).before args0 about1 = true := code_word (m := ⟨11, 11⟩) (meth := k11m11) (c := k11c11) (by decide +kernel) rfl rfl rfl (by decide +kernel)
set_option maxRecDepth 65536 in
theorem w_c27 : (Jvm.Cond.code ({ cls := "java/lang/AbstractStringBuilder", name := "inflateIfNeededFor", desc := "(Ljava/lang/String;)V" } : Jvm.MethodName) jdk_68_method_71_code (2 : Nat) (Option.none : Option Jvm.ClassFile.FieldType)).before args0 about1 = true := code_word (m := ⟨11, 10⟩) (meth := k11m10) (c := k11c10) (by decide +kernel) rfl rfl rfl (by decide +kernel)
set_option maxRecDepth 65536 in
theorem w_c28 : (Jvm.Cond.code ({ cls := "java/lang/String", name := "getBytes", desc := "([BIB)V" } : Jvm.MethodName) jdk_42_method_147_code (4 : Nat) (Option.none : Option Jvm.ClassFile.FieldType)).before args0 about1 = true := code_word (m := ⟨7, 6⟩) (meth := k7m6) (c := k7c6) (by decide +kernel) rfl rfl rfl (by decide +kernel)
set_option maxRecDepth 65536 in
theorem w_c29 : (Jvm.Cond.code ({ cls := "java/lang/StringBuilder", name := "toString", desc := "()Ljava/lang/String;" } : Jvm.MethodName) jdk_67_method_42_code (1 : Nat) (Option.some (Jvm.ClassFile.FieldType.object "java/lang/String"))).before args0 about1 = true := code_word (m := ⟨12, 4⟩) (meth := k12m4) (c := k12c4) (by decide +kernel) rfl rfl rfl (by decide +kernel)
set_option maxRecDepth 65536 in
theorem w_c30 : (Jvm.Cond.code ({ cls := "java/lang/String", name := "<init>", desc := "(Ljava/lang/StringBuilder;)V" } : Jvm.MethodName) jdk_42_method_53_code (2 : Nat) (Option.none : Option Jvm.ClassFile.FieldType)).before args0 about1 = true := code_word (m := ⟨7, 2⟩) (meth := k7m2) (c := k7c2) (by decide +kernel) rfl rfl rfl (by decide +kernel)
set_option maxRecDepth 65536 in
theorem w_c31 : (Jvm.Cond.code ({ cls := "java/lang/String", name := "<init>", desc := "(Ljava/lang/AbstractStringBuilder;Ljava/lang/Void;)V" } : Jvm.MethodName) jdk_42_method_150_code (5 : Nat) (Option.none : Option Jvm.ClassFile.FieldType)).before args0 about1 = true := code_word (m := ⟨7, 8⟩) (meth := k7m8) (c := k7c8) (by decide +kernel) rfl rfl rfl (by decide +kernel)
set_option maxRecDepth 65536 in
theorem w_c32 : (Jvm.Cond.code ({ cls := "java/lang/AbstractStringBuilder", name := "getValue", desc := "()[B" } : Jvm.MethodName) jdk_68_method_64_code (1 : Nat) (Option.some (Jvm.ClassFile.FieldType.array Jvm.ClassFile.FieldType.byte))).before args0 about1 = true := code_word (m := ⟨11, 8⟩) (meth := k11m8) (c := k11c8) (by decide +kernel) rfl rfl rfl (by decide +kernel)
set_option maxRecDepth 65536 in
theorem w_c33 : (Jvm.Cond.code ({ cls := "java/lang/StringBuilder", name := "length", desc := "()I" } : Jvm.MethodName) jdk_67_method_93_code (1 : Nat) (Option.some Jvm.ClassFile.FieldType.int)).before args0 about1 = true := code_word (m := ⟨12, 5⟩) (meth := k12m5) (c := k12c5) (by decide +kernel) rfl rfl rfl (by decide +kernel)
set_option maxRecDepth 65536 in
theorem w_c34 : (Jvm.Cond.code ({ cls := "java/lang/AbstractStringBuilder", name := "length", desc := "()I" } : Jvm.MethodName) jdk_68_method_6_code (1 : Nat) (Option.some Jvm.ClassFile.FieldType.int)).before args0 about1 = true := code_word (m := ⟨11, 2⟩) (meth := k11m2) (c := k11c2) (by decide +kernel) rfl rfl rfl (by decide +kernel)
set_option maxRecDepth 65536 in
theorem w_c35 : (Jvm.Cond.code ({ cls := "java/lang/AbstractStringBuilder", name := "isLatin1", desc := "()Z" } : Jvm.MethodName) jdk_68_method_68_code (1 : Nat) (Option.some Jvm.ClassFile.FieldType.boolean)).before args0 about1 = true := code_word (m := ⟨11, 9⟩) (meth := k11m9) (c := k11c9) (by decide +kernel) rfl rfl rfl (by decide +kernel)
set_option maxRecDepth 65536 in
theorem w_c36 : (Jvm.Cond.code ({ cls := "java/util/Arrays", name := "copyOfRange", desc := "([BII)[B" } : Jvm.MethodName) jdk_65_method_132_code (3 : Nat) (Option.some (Jvm.ClassFile.FieldType.array Jvm.ClassFile.FieldType.byte))).before args0 about1 = true := code_word (m := ⟨17, 3⟩) (meth := k17m3) (c := k17c3) (by decide +kernel) rfl rfl rfl (by decide +kernel)
set_option maxRecDepth 65536 in
theorem w_c37 : (Jvm.Cond.code ({ cls := "copperpot/web/HtmlTemplateEscapePinLaw", name := "piece", desc := "(C)Ljava/lang/String;" } : Jvm.MethodName) method_4_code (1 : Nat) (Option.some (Jvm.ClassFile.FieldType.object "java/lang/String"))).before args0 about1 = true := code_word (m := ⟨1, 3⟩) (meth := k1m3) (c := k1c3) (by decide +kernel) rfl rfl rfl (by decide +kernel)
set_option maxRecDepth 65536 in
theorem w_c38 : (Jvm.Cond.code ({ cls := "copperpot/web/HtmlTemplateEscapePinLaw", name := "at", desc := "(Ljava/lang/String;ILjava/lang/String;)Z" } : Jvm.MethodName) method_5_code (3 : Nat) (Option.some Jvm.ClassFile.FieldType.boolean)).before args0 about1 = true := code_word (m := ⟨1, 4⟩) (meth := k1m4) (c := k1c4) (by decide +kernel) rfl rfl rfl (by decide +kernel)
set_option maxRecDepth 65536 in
theorem w_c39 : (Jvm.Cond.code ({ cls := "java/util/Arrays", name := "copyOfRangeByte", desc := "([BII)[B" } : Jvm.MethodName) jdk_65_method_133_code (5 : Nat) (Option.some (Jvm.ClassFile.FieldType.array Jvm.ClassFile.FieldType.byte))).before args0 about1 = true := code_word (m := ⟨17, 4⟩) (meth := k17m4) (c := k17c4) (by decide +kernel) rfl rfl rfl (by decide +kernel)
set_option maxRecDepth 65536 in
theorem w_c40 : (Jvm.Cond.code ({ cls := "java/util/Arrays", name := "checkLength", desc := "(II)V" } : Jvm.MethodName) jdk_65_method_131_code (2 : Nat) (Option.none : Option Jvm.ClassFile.FieldType)).before args0 about1 = true := code_word (m := ⟨17, 2⟩) (meth := k17m2) (c := k17c2) (by decide +kernel) rfl rfl rfl (by decide +kernel)
set_option maxRecDepth 65536 in
theorem w_c41 : (Jvm.Cond.code ({ cls := "java/lang/StringBuilder", name := "append", desc := "(C)Ljava/lang/StringBuilder;" } : Jvm.MethodName) jdk_67_method_14_code (2 : Nat) (Option.some (Jvm.ClassFile.FieldType.object "java/lang/StringBuilder"))).before args0 about1 = true := code_word (m := ⟨12, 3⟩) (meth := k12m3) (c := k12c3) (by decide +kernel) rfl rfl rfl (by decide +kernel)
set_option maxRecDepth 65536 in
theorem w_c42 : (Jvm.Cond.code ({ cls := "java/lang/AbstractStringBuilder", name := "append", desc := "(C)Ljava/lang/AbstractStringBuilder;" } : Jvm.MethodName) jdk_68_method_31_code (2 : Nat) (Option.some (Jvm.ClassFile.FieldType.object "java/lang/AbstractStringBuilder"))).before args0 about1 = true := code_word (m := ⟨11, 7⟩) (meth := k11m7) (c := k11c7) (by decide +kernel) rfl rfl rfl (by decide +kernel)
set_option maxRecDepth 65536 in
theorem w_c43 : (Jvm.Cond.code ({ cls := "java/lang/StringLatin1", name := "canEncode", desc := "(C)Z" } : Jvm.MethodName) jdk_43_method_3_code (1 : Nat) (Option.some Jvm.ClassFile.FieldType.boolean)).before args0 about1 = true := code_word (m := ⟨13, 2⟩) (meth := k13m2) (c := k13c2) (by decide +kernel) rfl rfl rfl (by decide +kernel)
set_option maxRecDepth 65536 in
theorem w_c44 : (Jvm.Cond.code ({ cls := "java/lang/String", name := "valueOf", desc := "(C)Ljava/lang/String;" } : Jvm.MethodName) jdk_42_method_139_code (1 : Nat) (Option.some (Jvm.ClassFile.FieldType.object "java/lang/String"))).before args0 about1 = true := code_word (m := ⟨7, 5⟩) (meth := k7m5) (c := k7c5) (by decide +kernel) rfl rfl rfl (by decide +kernel)
set_option maxRecDepth 65536 in
theorem w_c45 : (Jvm.Cond.code ({ cls := "java/lang/StringLatin1", name := "toBytes", desc := "(C)[B" } : Jvm.MethodName) jdk_43_method_46_code (1 : Nat) (Option.some (Jvm.ClassFile.FieldType.array Jvm.ClassFile.FieldType.byte))).before args0 about1 = true := code_word (m := ⟨13, 3⟩) (meth := k13m3) (c := k13c3) (by decide +kernel) rfl rfl rfl (by decide +kernel)
set_option maxRecDepth 65536 in
theorem w_c46 : (Jvm.Cond.code ({ cls := "java/lang/String", name := "<init>", desc := "([BB)V" } : Jvm.MethodName) jdk_42_method_151_code (3 : Nat) (Option.none : Option Jvm.ClassFile.FieldType)).before args0 about1 = true := code_word (m := ⟨7, 9⟩) (meth := k7m9) (c := k7c9) (by decide +kernel) rfl rfl rfl (by decide +kernel)
set_option maxRecDepth 65536 in
theorem w_c47 : (Jvm.Cond.code ({ cls := "java/lang/StringUTF16", name := "toBytes", desc := "([CII)[B" } : Jvm.MethodName) jdk_52_method_14_code (5 : Nat) (Option.some (Jvm.ClassFile.FieldType.array Jvm.ClassFile.FieldType.byte))).before args0 about1 = true := code_word (m := ⟨8, 6⟩) (meth := k8m6) (c := k8c6) (by decide +kernel) rfl rfl rfl (by decide +kernel)
set_option maxRecDepth 65536 in
theorem w_c48 : (Jvm.Cond.code ({ cls := "java/lang/StringUTF16", name := "newBytesFor", desc := "(I)[B" } : Jvm.MethodName) jdk_52_method_2_code (1 : Nat) (Option.some (Jvm.ClassFile.FieldType.array Jvm.ClassFile.FieldType.byte))).before args0 about1 = true := code_word (m := ⟨8, 1⟩) (meth := k8m1) (c := k8c1) (by decide +kernel) rfl rfl rfl (by decide +kernel)
set_option maxRecDepth 65536 in
theorem w_c49 : (Jvm.Cond.code ({ cls := "java/lang/StringUTF16", name := "newBytesLength", desc := "(I)I" } : Jvm.MethodName) jdk_52_method_3_code (1 : Nat) (Option.some Jvm.ClassFile.FieldType.int)).before args0 about1 = true := code_word (m := ⟨8, 2⟩) (meth := k8m2) (c := k8c2) (by decide +kernel) rfl rfl rfl (by decide +kernel)
set_option maxRecDepth 65536 in
theorem w_c50 : (Jvm.Cond.code ({ cls := "java/lang/StringUTF16", name := "putChar", desc := "([BII)V" } : Jvm.MethodName) jdk_52_method_4_code (3 : Nat) (Option.none : Option Jvm.ClassFile.FieldType)).before args0 about1 = true := code_word (m := ⟨8, 3⟩) (meth := k8m3) (c := k8c3) (by decide +kernel) rfl rfl rfl (by decide +kernel)
set_option maxRecDepth 65536 in
theorem w_c51 : (Jvm.Cond.code ({ cls := "java/lang/StringUTF16", name := "getChar", desc := "([BI)C" } : Jvm.MethodName) jdk_52_method_5_code (2 : Nat) (Option.some Jvm.ClassFile.FieldType.char)).before args0 about1 = true := code_word (m := ⟨8, 4⟩) (meth := k8m4) (c := k8c4) (by decide +kernel) rfl rfl rfl (by decide +kernel)
set_option maxRecDepth 65536 in
theorem w_c52 : (Jvm.Cond.code ({ cls := "java/lang/StringUTF16", name := "charAt", desc := "([BI)C" } : Jvm.MethodName) jdk_52_method_83_code (2 : Nat) (Option.some Jvm.ClassFile.FieldType.char)).before args0 about1 = true := code_word (m := ⟨8, 12⟩) (meth := k8m12) (c := k8c12) (by decide +kernel) rfl rfl rfl (by decide +kernel)
set_option maxRecDepth 65536 in
theorem w_c53 : (Jvm.Cond.code ({ cls := "java/lang/StringUTF16", name := "checkIndex", desc := "(I[B)V" } : Jvm.MethodName) jdk_52_method_91_code (2 : Nat) (Option.none : Option Jvm.ClassFile.FieldType)).before args0 about1 = true := code_word (m := ⟨8, 14⟩) (meth := k8m14) (c := k8c14) (by decide +kernel) rfl rfl rfl (by decide +kernel)
set_option maxRecDepth 65536 in
theorem w_c54 : (Jvm.Cond.code ({ cls := "java/lang/StringUTF16", name := "length", desc := "([B)I" } : Jvm.MethodName) jdk_52_method_6_code (1 : Nat) (Option.some Jvm.ClassFile.FieldType.int)).before args0 about1 = true := code_word (m := ⟨8, 5⟩) (meth := k8m5) (c := k8c5) (by decide +kernel) rfl rfl rfl (by decide +kernel)
set_option maxRecDepth 65536 in
theorem w_c55 : (Jvm.Cond.code ({ cls := "java/lang/AbstractStringBuilder", name := "inflate", desc := "()V" } : Jvm.MethodName) jdk_68_method_11_code (2 : Nat) (Option.none : Option Jvm.ClassFile.FieldType)).before args0 about1 = true := code_word (m := ⟨11, 5⟩) (meth := k11m5) (c := k11c5) (by decide +kernel) rfl rfl rfl (by decide +kernel)
set_option maxRecDepth 65536 in
theorem w_c56 : (Jvm.Cond.code ({ cls := "java/lang/StringLatin1", name := "inflate", desc := "([BI[BII)V" } : Jvm.MethodName) jdk_43_method_50_code (5 : Nat) (Option.none : Option Jvm.ClassFile.FieldType)).before args0 about1 = true := code_word (m := ⟨13, 4⟩) (meth := k13m4) (c := k13c4) (by decide +kernel) rfl rfl rfl (by decide +kernel)
set_option maxRecDepth 65536 in
theorem w_c57 : (Jvm.Cond.code ({ cls := "java/lang/StringUTF16", name := "inflate", desc := "([BI[BII)V" } : Jvm.MethodName) jdk_52_method_86_code (6 : Nat) (Option.none : Option Jvm.ClassFile.FieldType)).before args0 about1 = true := code_word (m := ⟨8, 13⟩) (meth := k8m13) (c := k8c13) (by decide +kernel) rfl rfl rfl (by decide +kernel)
set_option maxRecDepth 65536 in
theorem w_c58 : (Jvm.Cond.code ({ cls := "java/lang/StringUTF16", name := "checkBoundsOffCount", desc := "(II[B)V" } : Jvm.MethodName) jdk_52_method_94_code (3 : Nat) (Option.none : Option Jvm.ClassFile.FieldType)).before args0 about1 = true := code_word (m := ⟨8, 15⟩) (meth := k8m15) (c := k8c15) (by decide +kernel) rfl rfl rfl (by decide +kernel)
set_option maxRecDepth 65536 in
theorem w_c59 : (Jvm.Cond.code ({ cls := "java/lang/String", name := "checkBoundsOffCount", desc := "(III)I" } : Jvm.MethodName) jdk_42_method_157_code (3 : Nat) (Option.some Jvm.ClassFile.FieldType.int)).before args0 about1 = true := code_word (m := ⟨7, 13⟩) (meth := k7m13) (c := k7c13) (by decide +kernel) rfl rfl rfl (by decide +kernel)
set_option maxRecDepth 65536 in
theorem w_c60 : (Jvm.Cond.code ({ cls := "jdk/internal/util/Preconditions", name := "checkFromIndexSize", desc := "(IIILjava/util/function/BiFunction;)I" } : Jvm.MethodName) jdk_41_method_13_code (4 : Nat) (Option.some Jvm.ClassFile.FieldType.int)).before args0 about1 = true := code_word (m := ⟨14, 2⟩) (meth := k14m2) (c := k14c2) (by decide +kernel) rfl rfl rfl (by decide +kernel)
set_option maxRecDepth 65536 in
theorem w_c61 : (Jvm.Cond.code ({ cls := "java/lang/StringUTF16", name := "putCharSB", desc := "([BII)V" } : Jvm.MethodName) jdk_52_method_71_code (3 : Nat) (Option.none : Option Jvm.ClassFile.FieldType)).before args0 about1 = true := code_word (m := ⟨8, 11⟩) (meth := k8m11) (c := k8c11) (by decide +kernel) rfl rfl rfl (by decide +kernel)
set_option maxRecDepth 65536 in
theorem w_c62 : (Jvm.Cond.code ({ cls := "java/lang/StringUTF16", name := "toBytes", desc := "(C)[B" } : Jvm.MethodName) jdk_52_method_24_code (2 : Nat) (Option.some (Jvm.ClassFile.FieldType.array Jvm.ClassFile.FieldType.byte))).before args0 about1 = true := code_word (m := ⟨8, 10⟩) (meth := k8m10) (c := k8c10) (by decide +kernel) rfl rfl rfl (by decide +kernel)
def codes1 : List Jvm.Cond := [Jvm.Cond.code x code maxLocals ret, Jvm.Cond.code ({ cls := "copperpot/web/HtmlTemplateEscapePinLaw", name := "pick", desc := "(I)C" } : Jvm.MethodName) method_3_code (2 : Nat) (Option.some Jvm.ClassFile.FieldType.char), Jvm.Cond.code ({ cls := "java/lang/String", name := "<init>", desc := "([C)V" } : Jvm.MethodName) jdk_42_method_3_code (2 : Nat) (Option.none : Option Jvm.ClassFile.FieldType), Jvm.Cond.code ({ cls := "java/lang/String", name := "<init>", desc := "([CIILjava/lang/Void;)V" } : Jvm.MethodName) jdk_42_method_149_code (6 : Nat) (Option.none : Option Jvm.ClassFile.FieldType), Jvm.Cond.code ({ cls := "java/lang/Object", name := "<init>", desc := "()V" } : Jvm.MethodName) object_method_1_code (1 : Nat) (Option.none : Option Jvm.ClassFile.FieldType), Jvm.Cond.code ({ cls := "java/lang/StringUTF16", name := "compress", desc := "([CII)[B" } : Jvm.MethodName) jdk_52_method_16_code (6 : Nat) (Option.some (Jvm.ClassFile.FieldType.array Jvm.ClassFile.FieldType.byte)), Jvm.Cond.code ({ cls := "java/lang/StringUTF16", name := "compress", desc := "([CI[BII)I" } : Jvm.MethodName) jdk_52_method_21_code (7 : Nat) (Option.some Jvm.ClassFile.FieldType.int), Jvm.Cond.code ({ cls := "java/lang/StringUTF16", name := "coderFromArrayLen", desc := "([BI)B" } : Jvm.MethodName) jdk_52_method_15_code (2 : Nat) (Option.some Jvm.ClassFile.FieldType.byte), Jvm.Cond.code ({ cls := "copperpot/web/HtmlTemplate", name := "escape", desc := "(Ljava/lang/String;)Ljava/lang/String;" } : Jvm.MethodName) prog_26_method_4_code (4 : Nat) (Option.some (Jvm.ClassFile.FieldType.object "java/lang/String")), Jvm.Cond.code ({ cls := "java/lang/String", name := "length", desc := "()I" } : Jvm.MethodName) jdk_42_method_54_code (1 : Nat) (Option.some Jvm.ClassFile.FieldType.int), Jvm.Cond.code ({ cls := "java/lang/String", name := "coder", desc := "()B" } : Jvm.MethodName) jdk_42_method_152_code (1 : Nat) (Option.some Jvm.ClassFile.FieldType.byte), Jvm.Cond.code ({ cls := "java/lang/StringBuilder", name := "<init>", desc := "(I)V" } : Jvm.MethodName) jdk_67_method_2_code (2 : Nat) (Option.none : Option Jvm.ClassFile.FieldType), Jvm.Cond.code ({ cls := "java/lang/AbstractStringBuilder", name := "<init>", desc := "(I)V" } : Jvm.MethodName) jdk_68_method_2_code (2 : Nat) (Option.none : Option Jvm.ClassFile.FieldType), Jvm.Cond.code ({ cls := "java/lang/String", name := "charAt", desc := "(I)C" } : Jvm.MethodName) jdk_42_method_56_code (2 : Nat) (Option.some Jvm.ClassFile.FieldType.char), Jvm.Cond.code ({ cls := "java/lang/String", name := "isLatin1", desc := "()Z" } : Jvm.MethodName) jdk_42_method_154_code (1 : Nat) (Option.some Jvm.ClassFile.FieldType.boolean), Jvm.Cond.code ({ cls := "java/lang/StringLatin1", name := "charAt", desc := "([BI)C" } : Jvm.MethodName) jdk_43_method_2_code (2 : Nat) (Option.some Jvm.ClassFile.FieldType.char), Jvm.Cond.code ({ cls := "java/lang/String", name := "checkIndex", desc := "(II)V" } : Jvm.MethodName) jdk_42_method_155_code (2 : Nat) (Option.none : Option Jvm.ClassFile.FieldType), Jvm.Cond.code ({ cls := "jdk/internal/util/Preconditions", name := "checkIndex", desc := "(IILjava/util/function/BiFunction;)I" } : Jvm.MethodName) jdk_41_method_11_code (3 : Nat) (Option.some Jvm.ClassFile.FieldType.int), Jvm.Cond.code ({ cls := "java/lang/StringBuilder", name := "append", desc := "(Ljava/lang/String;)Ljava/lang/StringBuilder;" } : Jvm.MethodName) jdk_67_method_7_code (2 : Nat) (Option.some (Jvm.ClassFile.FieldType.object "java/lang/StringBuilder")), Jvm.Cond.code ({ cls := "java/lang/AbstractStringBuilder", name := "append", desc := "(Ljava/lang/String;)Ljava/lang/AbstractStringBuilder;" } : Jvm.MethodName) jdk_68_method_22_code (3 : Nat) (Option.some (Jvm.ClassFile.FieldType.object "java/lang/AbstractStringBuilder")), Jvm.Cond.code ({ cls := "java/lang/AbstractStringBuilder", name := "ensureCapacityInternal", desc := "(I)V" } : Jvm.MethodName) jdk_68_method_9_code (3 : Nat) (Option.none : Option Jvm.ClassFile.FieldType), Jvm.Cond.code ({ cls := "java/lang/AbstractStringBuilder", name := "newCapacity", desc := "(I)I" } : Jvm.MethodName) jdk_68_method_10_code (6 : Nat) (Option.some Jvm.ClassFile.FieldType.int), Jvm.Cond.code ({ cls := "jdk/internal/util/ArraysSupport", name := "newLength", desc := "(III)I" } : Jvm.MethodName) jdk_48_method_27_code (4 : Nat) (Option.some Jvm.ClassFile.FieldType.int), Jvm.Cond.code ({ cls := "java/lang/Math", name := "max", desc := "(II)I" } : Jvm.MethodName) jdk_29_method_65_code (2 : Nat) (Option.some Jvm.ClassFile.FieldType.int), Jvm.Cond.code ({ cls := "java/util/Arrays", name := "copyOf", desc := "([BI)[B" } : Jvm.MethodName) jdk_65_method_121_code (3 : Nat) (Option.some (Jvm.ClassFile.FieldType.array Jvm.ClassFile.FieldType.byte)), Jvm.Cond.code ({ cls := "java/lang/Math", name := "min", desc := "(II)I" } : Jvm.MethodName) jdk_29_method_69_code (2 : Nat) (Option.some Jvm.ClassFile.FieldType.int), Jvm.Cond.code ({ cls := "java/lang/AbstractStringBuilder", name := "putStringAt", desc := "(ILjava/lang/String;)V" } : Jvm.MethodName) jdk_68_method_73_code (3 : Nat) (Option.none : Option Jvm.ClassFile.FieldType), Jvm.Cond.code ({ cls := "java/lang/AbstractStringBuilder", name := "inflateIfNeededFor", desc := "(Ljava/lang/String;)V" } : Jvm.MethodName) jdk_68_method_71_code (2 : Nat) (Option.none : Option Jvm.ClassFile.FieldType), Jvm.Cond.code ({ cls := "java/lang/String", name := "getBytes", desc := "([BIB)V" } : Jvm.MethodName) jdk_42_method_147_code (4 : Nat) (Option.none : Option Jvm.ClassFile.FieldType), Jvm.Cond.code ({ cls := "java/lang/StringBuilder", name := "toString", desc := "()Ljava/lang/String;" } : Jvm.MethodName) jdk_67_method_42_code (1 : Nat) (Option.some (Jvm.ClassFile.FieldType.object "java/lang/String")), Jvm.Cond.code ({ cls := "java/lang/String", name := "<init>", desc := "(Ljava/lang/StringBuilder;)V" } : Jvm.MethodName) jdk_42_method_53_code (2 : Nat) (Option.none : Option Jvm.ClassFile.FieldType), Jvm.Cond.code ({ cls := "java/lang/String", name := "<init>", desc := "(Ljava/lang/AbstractStringBuilder;Ljava/lang/Void;)V" } : Jvm.MethodName) jdk_42_method_150_code (5 : Nat) (Option.none : Option Jvm.ClassFile.FieldType), Jvm.Cond.code ({ cls := "java/lang/AbstractStringBuilder", name := "getValue", desc := "()[B" } : Jvm.MethodName) jdk_68_method_64_code (1 : Nat) (Option.some (Jvm.ClassFile.FieldType.array Jvm.ClassFile.FieldType.byte)), Jvm.Cond.code ({ cls := "java/lang/StringBuilder", name := "length", desc := "()I" } : Jvm.MethodName) jdk_67_method_93_code (1 : Nat) (Option.some Jvm.ClassFile.FieldType.int), Jvm.Cond.code ({ cls := "java/lang/AbstractStringBuilder", name := "length", desc := "()I" } : Jvm.MethodName) jdk_68_method_6_code (1 : Nat) (Option.some Jvm.ClassFile.FieldType.int), Jvm.Cond.code ({ cls := "java/lang/AbstractStringBuilder", name := "isLatin1", desc := "()Z" } : Jvm.MethodName) jdk_68_method_68_code (1 : Nat) (Option.some Jvm.ClassFile.FieldType.boolean), Jvm.Cond.code ({ cls := "java/util/Arrays", name := "copyOfRange", desc := "([BII)[B" } : Jvm.MethodName) jdk_65_method_132_code (3 : Nat) (Option.some (Jvm.ClassFile.FieldType.array Jvm.ClassFile.FieldType.byte)), Jvm.Cond.code ({ cls := "copperpot/web/HtmlTemplateEscapePinLaw", name := "piece", desc := "(C)Ljava/lang/String;" } : Jvm.MethodName) method_4_code (1 : Nat) (Option.some (Jvm.ClassFile.FieldType.object "java/lang/String")), Jvm.Cond.code ({ cls := "copperpot/web/HtmlTemplateEscapePinLaw", name := "at", desc := "(Ljava/lang/String;ILjava/lang/String;)Z" } : Jvm.MethodName) method_5_code (3 : Nat) (Option.some Jvm.ClassFile.FieldType.boolean), Jvm.Cond.code ({ cls := "java/util/Arrays", name := "copyOfRangeByte", desc := "([BII)[B" } : Jvm.MethodName) jdk_65_method_133_code (5 : Nat) (Option.some (Jvm.ClassFile.FieldType.array Jvm.ClassFile.FieldType.byte)), Jvm.Cond.code ({ cls := "java/util/Arrays", name := "checkLength", desc := "(II)V" } : Jvm.MethodName) jdk_65_method_131_code (2 : Nat) (Option.none : Option Jvm.ClassFile.FieldType), Jvm.Cond.code ({ cls := "java/lang/StringBuilder", name := "append", desc := "(C)Ljava/lang/StringBuilder;" } : Jvm.MethodName) jdk_67_method_14_code (2 : Nat) (Option.some (Jvm.ClassFile.FieldType.object "java/lang/StringBuilder")), Jvm.Cond.code ({ cls := "java/lang/AbstractStringBuilder", name := "append", desc := "(C)Ljava/lang/AbstractStringBuilder;" } : Jvm.MethodName) jdk_68_method_31_code (2 : Nat) (Option.some (Jvm.ClassFile.FieldType.object "java/lang/AbstractStringBuilder")), Jvm.Cond.code ({ cls := "java/lang/StringLatin1", name := "canEncode", desc := "(C)Z" } : Jvm.MethodName) jdk_43_method_3_code (1 : Nat) (Option.some Jvm.ClassFile.FieldType.boolean), Jvm.Cond.code ({ cls := "java/lang/String", name := "valueOf", desc := "(C)Ljava/lang/String;" } : Jvm.MethodName) jdk_42_method_139_code (1 : Nat) (Option.some (Jvm.ClassFile.FieldType.object "java/lang/String")), Jvm.Cond.code ({ cls := "java/lang/StringLatin1", name := "toBytes", desc := "(C)[B" } : Jvm.MethodName) jdk_43_method_46_code (1 : Nat) (Option.some (Jvm.ClassFile.FieldType.array Jvm.ClassFile.FieldType.byte)), Jvm.Cond.code ({ cls := "java/lang/String", name := "<init>", desc := "([BB)V" } : Jvm.MethodName) jdk_42_method_151_code (3 : Nat) (Option.none : Option Jvm.ClassFile.FieldType), Jvm.Cond.code ({ cls := "java/lang/StringUTF16", name := "toBytes", desc := "([CII)[B" } : Jvm.MethodName) jdk_52_method_14_code (5 : Nat) (Option.some (Jvm.ClassFile.FieldType.array Jvm.ClassFile.FieldType.byte)), Jvm.Cond.code ({ cls := "java/lang/StringUTF16", name := "newBytesFor", desc := "(I)[B" } : Jvm.MethodName) jdk_52_method_2_code (1 : Nat) (Option.some (Jvm.ClassFile.FieldType.array Jvm.ClassFile.FieldType.byte)), Jvm.Cond.code ({ cls := "java/lang/StringUTF16", name := "newBytesLength", desc := "(I)I" } : Jvm.MethodName) jdk_52_method_3_code (1 : Nat) (Option.some Jvm.ClassFile.FieldType.int), Jvm.Cond.code ({ cls := "java/lang/StringUTF16", name := "putChar", desc := "([BII)V" } : Jvm.MethodName) jdk_52_method_4_code (3 : Nat) (Option.none : Option Jvm.ClassFile.FieldType), Jvm.Cond.code ({ cls := "java/lang/StringUTF16", name := "getChar", desc := "([BI)C" } : Jvm.MethodName) jdk_52_method_5_code (2 : Nat) (Option.some Jvm.ClassFile.FieldType.char), Jvm.Cond.code ({ cls := "java/lang/StringUTF16", name := "charAt", desc := "([BI)C" } : Jvm.MethodName) jdk_52_method_83_code (2 : Nat) (Option.some Jvm.ClassFile.FieldType.char), Jvm.Cond.code ({ cls := "java/lang/StringUTF16", name := "checkIndex", desc := "(I[B)V" } : Jvm.MethodName) jdk_52_method_91_code (2 : Nat) (Option.none : Option Jvm.ClassFile.FieldType), Jvm.Cond.code ({ cls := "java/lang/StringUTF16", name := "length", desc := "([B)I" } : Jvm.MethodName) jdk_52_method_6_code (1 : Nat) (Option.some Jvm.ClassFile.FieldType.int), Jvm.Cond.code ({ cls := "java/lang/AbstractStringBuilder", name := "inflate", desc := "()V" } : Jvm.MethodName) jdk_68_method_11_code (2 : Nat) (Option.none : Option Jvm.ClassFile.FieldType), Jvm.Cond.code ({ cls := "java/lang/StringLatin1", name := "inflate", desc := "([BI[BII)V" } : Jvm.MethodName) jdk_43_method_50_code (5 : Nat) (Option.none : Option Jvm.ClassFile.FieldType), Jvm.Cond.code ({ cls := "java/lang/StringUTF16", name := "inflate", desc := "([BI[BII)V" } : Jvm.MethodName) jdk_52_method_86_code (6 : Nat) (Option.none : Option Jvm.ClassFile.FieldType), Jvm.Cond.code ({ cls := "java/lang/StringUTF16", name := "checkBoundsOffCount", desc := "(II[B)V" } : Jvm.MethodName) jdk_52_method_94_code (3 : Nat) (Option.none : Option Jvm.ClassFile.FieldType), Jvm.Cond.code ({ cls := "java/lang/String", name := "checkBoundsOffCount", desc := "(III)I" } : Jvm.MethodName) jdk_42_method_157_code (3 : Nat) (Option.some Jvm.ClassFile.FieldType.int), Jvm.Cond.code ({ cls := "jdk/internal/util/Preconditions", name := "checkFromIndexSize", desc := "(IIILjava/util/function/BiFunction;)I" } : Jvm.MethodName) jdk_41_method_13_code (4 : Nat) (Option.some Jvm.ClassFile.FieldType.int), Jvm.Cond.code ({ cls := "java/lang/StringUTF16", name := "putCharSB", desc := "([BII)V" } : Jvm.MethodName) jdk_52_method_71_code (3 : Nat) (Option.none : Option Jvm.ClassFile.FieldType), Jvm.Cond.code ({ cls := "java/lang/StringUTF16", name := "toBytes", desc := "(C)[B" } : Jvm.MethodName) jdk_52_method_24_code (2 : Nat) (Option.some (Jvm.ClassFile.FieldType.array Jvm.ClassFile.FieldType.byte))]
set_option maxRecDepth 65536 in
theorem codes_eq : words1.filter isCode = codes1 := rfl
theorem w_codes : ∀ c ∈ words1.filter isCode, c.before args0 about1 = true := by
  rw [codes_eq]
  intro c hc
  simp only [codes1, List.mem_cons, List.not_mem_nil, or_false] at hc
  rcases hc with rfl | rfl | rfl | rfl | rfl | rfl | rfl | rfl | rfl | rfl | rfl | rfl | rfl | rfl | rfl | rfl | rfl | rfl | rfl | rfl | rfl | rfl | rfl | rfl | rfl | rfl | rfl | rfl | rfl | rfl | rfl | rfl | rfl | rfl | rfl | rfl | rfl | rfl | rfl | rfl | rfl | rfl | rfl | rfl | rfl | rfl | rfl | rfl | rfl | rfl | rfl | rfl | rfl | rfl | rfl | rfl | rfl | rfl | rfl | rfl | rfl | rfl | rfl
  · exact w_c0
  · exact w_c1
  · exact w_c2
  · exact w_c3
  · exact w_c4
  · exact w_c5
  · exact w_c6
  · exact w_c7
  · exact w_c8
  · exact w_c9
  · exact w_c10
  · exact w_c11
  · exact w_c12
  · exact w_c13
  · exact w_c14
  · exact w_c15
  · exact w_c16
  · exact w_c17
  · exact w_c18
  · exact w_c19
  · exact w_c20
  · exact w_c21
  · exact w_c22
  · exact w_c23
  · exact w_c24
  · exact w_c25
  · exact w_c26
  · exact w_c27
  · exact w_c28
  · exact w_c29
  · exact w_c30
  · exact w_c31
  · exact w_c32
  · exact w_c33
  · exact w_c34
  · exact w_c35
  · exact w_c36
  · exact w_c37
  · exact w_c38
  · exact w_c39
  · exact w_c40
  · exact w_c41
  · exact w_c42
  · exact w_c43
  · exact w_c44
  · exact w_c45
  · exact w_c46
  · exact w_c47
  · exact w_c48
  · exact w_c49
  · exact w_c50
  · exact w_c51
  · exact w_c52
  · exact w_c53
  · exact w_c54
  · exact w_c55
  · exact w_c56
  · exact w_c57
  · exact w_c58
  · exact w_c59
  · exact w_c60
  · exact w_c61
  · exact w_c62
set_option maxRecDepth 65536 in
theorem w_t1 : (words1.take 24).all (fun c => isCode c || c.before args0 about1) = true := by decide +kernel
set_option maxRecDepth 65536 in
theorem w_t2 : ((words1.drop 24).take 24).all (fun c => isCode c || c.before args0 about1) = true := by decide +kernel
set_option maxRecDepth 65536 in
theorem w_t3 : (((words1.drop 24).drop 24).take 24).all (fun c => isCode c || c.before args0 about1) = true := by decide +kernel
set_option maxRecDepth 65536 in
theorem w_t4 : ((((words1.drop 24).drop 24).drop 24).take 24).all (fun c => isCode c || c.before args0 about1) = true := by decide +kernel
set_option maxRecDepth 65536 in
theorem w_t5 : (((((words1.drop 24).drop 24).drop 24).drop 24).take 24).all (fun c => isCode c || c.before args0 about1) = true := by decide +kernel
set_option maxRecDepth 65536 in
theorem w_t6 : ((((((words1.drop 24).drop 24).drop 24).drop 24).drop 24).take 24).all (fun c => isCode c || c.before args0 about1) = true := by decide +kernel
set_option maxRecDepth 65536 in
theorem w_t7 : (((((((words1.drop 24).drop 24).drop 24).drop 24).drop 24).drop 24).take 24).all (fun c => isCode c || c.before args0 about1) = true := by decide +kernel
set_option maxRecDepth 65536 in
theorem w_t8 : ((((((((words1.drop 24).drop 24).drop 24).drop 24).drop 24).drop 24).drop 24).take 24).all (fun c => isCode c || c.before args0 about1) = true := by decide +kernel
set_option maxRecDepth 65536 in
theorem w_t9 : (((((((((words1.drop 24).drop 24).drop 24).drop 24).drop 24).drop 24).drop 24).drop 24).take 24).all (fun c => isCode c || c.before args0 about1) = true := by decide +kernel
set_option maxRecDepth 65536 in
theorem w_t10 : ((((((((((words1.drop 24).drop 24).drop 24).drop 24).drop 24).drop 24).drop 24).drop 24).drop 24).take 24).all (fun c => isCode c || c.before args0 about1) = true := by decide +kernel
set_option maxRecDepth 65536 in
theorem w_t11 : (((((((((((words1.drop 24).drop 24).drop 24).drop 24).drop 24).drop 24).drop 24).drop 24).drop 24).drop 24).take 24).all (fun c => isCode c || c.before args0 about1) = true := by decide +kernel
set_option maxRecDepth 65536 in
theorem w_t12 : ((((((((((((words1.drop 24).drop 24).drop 24).drop 24).drop 24).drop 24).drop 24).drop 24).drop 24).drop 24).drop 24).take 24).all (fun c => isCode c || c.before args0 about1) = true := by decide +kernel
set_option maxRecDepth 65536 in
theorem w_t13 : ((((((((((((words1.drop 24).drop 24).drop 24).drop 24).drop 24).drop 24).drop 24).drop 24).drop 24).drop 24).drop 24).drop 24).all (fun c => isCode c || c.before args0 about1) = true := by decide +kernel
theorem w_tables : (allAtoms (Jvm.Cond.code x code maxLocals ret :: tables_1)).before args0 about1 = true := by
  rw [allAtoms_all]
  show words1.all (fun c => c.before args0 about1) = true
  refine all_split ?_ w_codes
  rw [← List.take_append_drop 24 words1, List.all_append, w_t1, ← List.take_append_drop 24 (words1.drop 24), List.all_append, w_t2, ← List.take_append_drop 24 ((words1.drop 24).drop 24), List.all_append, w_t3, ← List.take_append_drop 24 (((words1.drop 24).drop 24).drop 24), List.all_append, w_t4, ← List.take_append_drop 24 ((((words1.drop 24).drop 24).drop 24).drop 24), List.all_append, w_t5, ← List.take_append_drop 24 (((((words1.drop 24).drop 24).drop 24).drop 24).drop 24), List.all_append, w_t6, ← List.take_append_drop 24 ((((((words1.drop 24).drop 24).drop 24).drop 24).drop 24).drop 24), List.all_append, w_t7, ← List.take_append_drop 24 (((((((words1.drop 24).drop 24).drop 24).drop 24).drop 24).drop 24).drop 24), List.all_append, w_t8, ← List.take_append_drop 24 ((((((((words1.drop 24).drop 24).drop 24).drop 24).drop 24).drop 24).drop 24).drop 24), List.all_append, w_t9, ← List.take_append_drop 24 (((((((((words1.drop 24).drop 24).drop 24).drop 24).drop 24).drop 24).drop 24).drop 24).drop 24), List.all_append, w_t10, ← List.take_append_drop 24 ((((((((((words1.drop 24).drop 24).drop 24).drop 24).drop 24).drop 24).drop 24).drop 24).drop 24).drop 24), List.all_append, w_t11, ← List.take_append_drop 24 (((((((((((words1.drop 24).drop 24).drop 24).drop 24).drop 24).drop 24).drop 24).drop 24).drop 24).drop 24).drop 24), List.all_append, w_t12, w_t13]
  rfl
set_option maxRecDepth 65536 in
theorem w_rest : rest_1_c.before args0 about1 = true := by decide +kernel
set_option maxRecDepth 65536 in
theorem w_case : (Jvm.Cond.and given_1 narrow_1).before args0 about1 = true := by decide +kernel
set_option maxRecDepth 65536 in
theorem w_consts : constsHeld consts_1 about1 := Jvm.Lit.constsHeldB_iff.mp (by decide +kernel)
theorem w_applies : (headSpec (Jvm.Cond.code x code maxLocals ret :: tables_1) room_1).applies x e0.platform about1 = true :=
  (Spec.applies_iff w_frames).mpr ⟨w_running, w_runnable, w_alone, w_named, w_hears, w_ripe, w_room, w_tables⟩
theorem atStart : AtStart classFile x code maxLocals ret World_1 tables_1 room_1 Calls_1 rest_1 Pre_1 launch0 p0 e0 about1 theMethod args0 below0 :=
  ⟨lists_1, trivial, launch0.admits_env _ _ _, launch0.least_env, fairChoices_fair.cas, fairChoices_fair.clock, w_frames, w_args, w_heap, w_applies, ⟨w_consts, trivial⟩, w_rest, w_case⟩
end start1
theorem witness_1 : WitnessClaimed_1 := ⟨start1.p0, start1.e0, start1.about1, start1.theMethod, start1.args0, start1.below0, start1.atStart⟩
end Jvm.Pilot.@@N@@
