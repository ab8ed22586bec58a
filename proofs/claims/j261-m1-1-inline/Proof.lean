import JvmDerived
import JvmDerived.Pilot.@@N@@Statement
import JvmDerived.Pilot.@@N@@Code
set_option linter.unusedVariables false
set_option linter.unusedSimpArgs false
/-! The walk's calculus (own text): W says: from any state that stands in this method with heap h (k cells, n slots made, the addresses in M still to be written), the frame (pc, L, S) runs to a good end. -/
namespace Jvm.Pilot.@@N@@.Wk
open Jvm Jvm.ClassFile Sem Op Lib Jvm.Free Jvm.Stand Jvm.LawKit Jvm.RoadKit Bundle Jvm.Free.SB Jvm.Free.SBG
/-! ### the intern table's texts, apart from what is still written -/
def SlM (M : List Addr) (U : State) (a : Addr) (units : Array UInt16) : Prop :=
  ∃ (q : SQ) (cS : ClassId), q.sa = a ∧ Sl q cS U ∧ (∃ kS : Class, U.vm.classes[cS]? = some kS ∧ kS.kind = .ordinary ∧ q.sC.slots.size = kS.instanceTypes.size) ∧ U.vm.findClass "[B" = some q.SA.cls ∧ q.SA.slots = stringBytes units ∧ q.sa ∉ M ∧ q.sd ∉ M
theorem SlM.mono {M M' : List Addr} {U : State} {a : Addr} {u : Array UInt16} (h : SlM M U a u) (hM : ∀ b ∈ M', b ∈ M ∨ U.heap.size ≤ b) : SlM M' U a u := by
  obtain ⟨q, cS, h1, h2, h3, h4, h5, h6, h7⟩ := h
  have l1 := (Array.getElem?_eq_some_iff.mp h2.1.1).1
  have l2 := (Array.getElem?_eq_some_iff.mp h2.1.2.2.2.2.2.2.2.2.2.1).1
  exact ⟨q, cS, h1, h2, h3, h4, h5, fun r => (hM _ r).elim h6 fun z => absurd l1 (Nat.not_lt.mpr z), fun r => (hM _ r).elim h7 fun z => absurd l2 (Nat.not_lt.mpr z)⟩
theorem SlM.move {M : List Addr} {U U' : State} {a : Addr} {u : Array UInt16} (h : SlM M U a u) (hal : U.vm.Alike U'.vm) (hk : ∀ (b : Addr) (c : Cell), U.heap[b]? = some c → b ∉ M → U'.heap[b]? = some c) : SlM M U' a u := by
  obtain ⟨q, cS, h1, h2, ⟨kS, k1, k2, k3⟩, h4, h5, h6, h7⟩ := h
  obtain ⟨kS', hk', ek⟩ := hal.2.2 _ _ k1
  exact ⟨q, cS, h1, h2.carry hal (hk _ _ h2.1.1 h6) (hk _ _ h2.1.2.2.2.2.2.2.2.2.2.1 h7), ⟨kS', hk', by rw [ek]; exact k2, by rw [ek]; exact k3⟩, by rw [hal.findClass]; exact h4, h5, h6, h7⟩
def IOk (Z : State) (M : List Addr) (U : State) : Prop := ∀ (units : Array UInt16) (a : Addr), units.all (· < 256) = true → U.vm.interned.find? (fun p => p.1 == units) = some (units, a) → Z.vm.interned.find? (fun p => p.1 == units) = some (units, a) ∨ SlM M U a units
/-- what every method finds and leaves: the tables warmed, the texts sound, the first heap as it was -/
def Bg (Z : State) (M : List Addr) (U : State) : Prop := Z.Warmed39 U.vm ∧ IOk Z M U ∧ Ext Z.heap U.heap ∧ (∀ b ∈ M, Z.heap.size ≤ b) ∧ ∀ b ∈ M, b < U.heap.size
def Kept (M : List Addr) (h h' : Heap) : Prop := h.size ≤ h'.size ∧ ∀ (b : Addr) (c : Cell), h[b]? = some c → b ∉ M → h'[b]? = some c
theorem Kept.refl (M : List Addr) (h : Heap) : Kept M h h := ⟨Nat.le_refl _, fun _ _ q _ => q⟩
theorem Kept.ext {M : List Addr} {h h' : Heap} (E : Ext h h') : Kept M h h' := ⟨E.1, fun b c q _ => E.2 b c q⟩
theorem Kept.keep {M ws : List Addr} {h h' : Heap} (K : Keep h h' ws) (hw : ∀ w ∈ ws, w ∈ M) : Kept M h h' := ⟨K.1, fun b c q r => K.2.1 b c q fun z => r (hw b z)⟩
theorem Kept.wr {M : List Addr} {h h' : Heap} {a : Addr} {sl : Nat} {v : Value} (W : Wr h h' a sl v) (ha : a ∈ M) : Kept M h h' := Kept.keep (Keep.of_wr W) (fun w hw => by cases List.mem_singleton.mp hw; exact ha)
theorem Bg.move {Z : State} {M : List Addr} {U U' : State} (b : Bg Z M U) (hW : Z.Warmed39 U'.vm) (hi : U'.vm.interned = U.vm.interned) (hk : Kept M U.heap U'.heap) : Bg Z M U' := by
  obtain ⟨b1, b2, b3, b4, b5⟩ := b
  have hal : U.vm.Alike U'.vm := b1.alike.symm.trans hW.alike
  refine ⟨hW, fun units a hl hf => ?_, ⟨Nat.le_trans b3.1 hk.1, fun x c q => hk.2 x c (b3.2 x c q) fun z => absurd (Array.getElem?_eq_some_iff.mp q).1 (Nat.not_lt.mpr (b4 x z))⟩, b4, fun x z => Nat.lt_of_lt_of_le (b5 x z) hk.1⟩
  rw [hi] at hf
  exact (b2 units a hl hf).imp id fun s => s.move hal hk.2
theorem Bg.shrink {Z : State} {M M' : List Addr} {U : State} (b : Bg Z M U) (hM : ∀ x ∈ M', x ∈ M) : Bg Z M' U :=
  ⟨b.1, fun units a hl hf => (b.2.1 units a hl hf).imp id fun s => s.mono fun x hx => Or.inl (hM x hx), b.2.2.1, fun x hx => b.2.2.2.1 x (hM x hx), fun x hx => b.2.2.2.2 x (hM x hx)⟩
/-- a new address may be written: it was not there when b held -/
theorem Bg.grow {Z : State} {M M' : List Addr} {U U' : State} (b : Bg Z M U) (hW : Z.Warmed39 U'.vm) (hi : U'.vm.interned = U.vm.interned) (hk : Kept M U.heap U'.heap) (hM : ∀ x ∈ M', x ∈ M ∨ (U.heap.size ≤ x ∧ x < U'.heap.size)) : Bg Z M' U' := by
  obtain ⟨b1, b2, b3, b4, b5⟩ := b
  have hal : U.vm.Alike U'.vm := b1.alike.symm.trans hW.alike
  refine ⟨hW, fun units a hl hf => ?_, ⟨Nat.le_trans b3.1 hk.1, fun x c q => hk.2 x c (b3.2 x c q) fun z => absurd (Array.getElem?_eq_some_iff.mp q).1 (Nat.not_lt.mpr (b4 x z))⟩, fun x z => (hM x z).elim (b4 x) fun q => Nat.le_trans b3.1 q.1, fun x z => (hM x z).elim (fun q => Nat.lt_of_lt_of_le (b5 x q) hk.1) fun q => q.2⟩
  rw [hi] at hf
  refine (b2 units a hl hf).imp id fun s => ?_
  have s' : SlM M' U a units := s.mono fun x hx => (hM x hx).imp id fun q => q.1
  obtain ⟨q, cS, h1, h2, ⟨kS, k1, k2, k3⟩, h4, h5, h6, h7⟩ := s
  obtain ⟨kS', hk', ek⟩ := hal.2.2 _ _ k1
  have l1 := (Array.getElem?_eq_some_iff.mp h2.1.1).1
  have l2 := (Array.getElem?_eq_some_iff.mp h2.1.2.2.2.2.2.2.2.2.2.1).1
  exact ⟨q, cS, h1, h2.carry hal (hk.2 _ _ h2.1.1 h6) (hk.2 _ _ h2.1.2.2.2.2.2.2.2.2.2.1 h7), ⟨kS', hk', by rw [ek]; exact k2, by rw [ek]; exact k3⟩, by rw [hal.findClass]; exact h4, h5, fun r => (hM _ r).elim h6 fun z => absurd l1 (Nat.not_lt.mpr z.1), fun r => (hM _ r).elim h7 fun z => absurd l2 (Nat.not_lt.mpr z.1)⟩
/-! ### the context of a walk -/
abbrev Cx : Type _ := Program × Launch × Env × Room × State × MethodId × Array Value × List Frame × Method × Code × State × Bool × List Addr × List Addr × Bool × (List Addr → Option Value → Heap → Prop)
abbrev Cx.p (B : Cx) : Program := B.1
abbrev Cx.l (B : Cx) : Launch := B.2.1
abbrev Cx.e (B : Cx) : Env := B.2.2.1
abbrev Cx.R (B : Cx) : Room := B.2.2.2.1
abbrev Cx.s (B : Cx) : State := B.2.2.2.2.1
abbrev Cx.m (B : Cx) : MethodId := B.2.2.2.2.2.1
abbrev Cx.args (B : Cx) : Array Value := B.2.2.2.2.2.2.1
abbrev Cx.below (B : Cx) : List Frame := B.2.2.2.2.2.2.2.1
abbrev Cx.meth (B : Cx) : Method := B.2.2.2.2.2.2.2.2.1
abbrev Cx.c (B : Cx) : Code := B.2.2.2.2.2.2.2.2.2.1
abbrev Cx.Z (B : Cx) : State := B.2.2.2.2.2.2.2.2.2.2.1
abbrev Cx.nar (B : Cx) : Bool := B.2.2.2.2.2.2.2.2.2.2.2.1
abbrev Cx.ws (B : Cx) : List Addr := B.2.2.2.2.2.2.2.2.2.2.2.2.1
abbrev Cx.Me (B : Cx) : List Addr := B.2.2.2.2.2.2.2.2.2.2.2.2.2.1
abbrev Cx.fr (B : Cx) : Bool := B.2.2.2.2.2.2.2.2.2.2.2.2.2.2.1
abbrev Cx.Q (B : Cx) : List Addr → Option Value → Heap → Prop := B.2.2.2.2.2.2.2.2.2.2.2.2.2.2.2
def refs (fr : Bool) (v : Option Value) : List Addr := match fr, v with
  | true, some (.ref a) => [a]
  | _, _ => []
/-- the plain posts: what is made and may still be written is the result alone (fr), or nothing -/
def OldQ (fr : Bool) (Q : Option Value → Heap → Prop) : List Addr → Option Value → Heap → Prop := fun N v h => N = refs fr v ∧ Q v h
/-- cl.1: no cell that stood at the method's start has been written; cl.2: String entries that are resolved -/
abbrev Cl : Type := Bool × List (String × Nat)
def Pos (B : Cx) (T : State) (h : Heap) (k n : Nat) (M : List Addr) (cl : Cl) : Prop :=
  ∃ (vm0 : Vm) (k0 : Nat) (locs : List Loc), Stand B.p B.l B.e B.R (B.s.setVm vm0) B.m B.args B.below B.meth B.c T locs k n ∧ B.s.Since vm0 k0 ∧ k0 ≤ T.heap.size ∧ (B.nar = true → B.s.WarmedH vm0) ∧
    (∀ y ∈ locs, y.base ∈ B.ws ∨ B.s.heap.size ≤ y.base) ∧ (cl.1 = true → ∀ y ∈ locs, B.s.heap.size ≤ y.base) ∧ (∀ e ∈ cl.2, ∃ a, Lit (B.s.setVm vm0) e.1 e.2 a) ∧ T.heap = h ∧ Bg B.Z M T
def Gd (B : Cx) (U : State) : Prop :=
  ∃ t o, Steps B.p.tables B.e B.below U t ∧ t.status = .running ∧ Ended t B.below o ∧ ∃ v L N, o = .returned v ∧ B.Q N v t.heap ∧ Keep B.s.heap t.heap B.ws ∧ Bg B.Z (N ++ B.Me) t ∧ (∀ y ∈ L, y.base ∈ B.ws ∨ B.s.heap.size ≤ y.base) ∧ ReturnedEndW B.s o t L B.R.cells B.R.slots ∧ (B.nar = true → B.s.WarmedH t.vm)
theorem Gd.step {B : Cx} {U U' : State} (st : ∀ t, Steps B.p.tables B.e B.below U' t → Steps B.p.tables B.e B.below U t) (g : Gd B U') : Gd B U := by
  obtain ⟨t, o, q, r⟩ := g
  exact ⟨t, o, st t q, r⟩
def W (B : Cx) (h : Heap) (k n : Nat) (M : List Addr) (cl : Cl) (pc : Nat) (L : Array Slot) (S : List Value) : Prop := ∀ T, Pos B T h k n M cl → Gd B (T.setTop (mkF B.m pc L S))
def Ok (B : Cx) (l : Launch) (Z : State) (nar : Bool) (own nm : String) (code : ByteArray) (ml : Nat) (ret : Option FieldType) (R : Room) (h0 : Heap) (ws : List Addr) (fr : Bool) (Q : List Addr → Option Value → Heap → Prop) (M : List Addr) : Prop :=
  B.p.tables.exec = Jvm.exec ∧ B.c.code = code ∧ B.c.maxLocals = ml ∧ B.s.vm.findClass own = some B.m.cls ∧ B.meth.name = nm ∧ B.meth.sig.returnType = ret ∧ B.meth.locks = false ∧ Z.Warmed39 B.s.vm ∧ B.l = l ∧ B.R = R ∧ B.Z = Z ∧ B.nar = nar ∧ B.ws = ws ∧ B.Me = M ∧ B.fr = fr ∧ B.Q = Q ∧ B.s.heap = h0
section Acc
variable {B : Cx} {l : Launch} {Z : State} {nar : Bool} {own nm : String} {code : ByteArray} {ml : Nat} {ret : Option FieldType} {R : Room} {h0 : Heap} {ws : List Addr} {fr : Bool} {Q : List Addr → Option Value → Heap → Prop} {Me : List Addr}
theorem Ok.x (ok : Ok B l Z nar own nm code ml ret R h0 ws fr Q Me) : B.p.tables.exec = Jvm.exec := ok.1
theorem Ok.by_ (ok : Ok B l Z nar own nm code ml ret R h0 ws fr Q Me) : B.c.code = code := ok.2.1
theorem Ok.ml_ (ok : Ok B l Z nar own nm code ml ret R h0 ws fr Q Me) : B.c.maxLocals = ml := ok.2.2.1
theorem Ok.own_ (ok : Ok B l Z nar own nm code ml ret R h0 ws fr Q Me) : B.s.vm.findClass own = some B.m.cls := ok.2.2.2.1
theorem Ok.nm_ (ok : Ok B l Z nar own nm code ml ret R h0 ws fr Q Me) : B.meth.name = nm := ok.2.2.2.2.1
theorem Ok.ret_ (ok : Ok B l Z nar own nm code ml ret R h0 ws fr Q Me) : B.meth.sig.returnType = ret := ok.2.2.2.2.2.1
theorem Ok.lk (ok : Ok B l Z nar own nm code ml ret R h0 ws fr Q Me) : B.meth.locks = false := ok.2.2.2.2.2.2.1
theorem Ok.zs (ok : Ok B l Z nar own nm code ml ret R h0 ws fr Q Me) : Z.Warmed39 B.s.vm := ok.2.2.2.2.2.2.2.1
theorem Ok.l_ (ok : Ok B l Z nar own nm code ml ret R h0 ws fr Q Me) : B.l = l := ok.2.2.2.2.2.2.2.2.1
theorem Ok.R_ (ok : Ok B l Z nar own nm code ml ret R h0 ws fr Q Me) : B.R = R := ok.2.2.2.2.2.2.2.2.2.1
theorem Ok.Z_ (ok : Ok B l Z nar own nm code ml ret R h0 ws fr Q Me) : B.Z = Z := ok.2.2.2.2.2.2.2.2.2.2.1
theorem Ok.nar_ (ok : Ok B l Z nar own nm code ml ret R h0 ws fr Q Me) : B.nar = nar := ok.2.2.2.2.2.2.2.2.2.2.2.1
theorem Ok.ws_ (ok : Ok B l Z nar own nm code ml ret R h0 ws fr Q Me) : B.ws = ws := ok.2.2.2.2.2.2.2.2.2.2.2.2.1
theorem Ok.Me_ (ok : Ok B l Z nar own nm code ml ret R h0 ws fr Q Me) : B.Me = Me := ok.2.2.2.2.2.2.2.2.2.2.2.2.2.1
theorem Ok.fr_ (ok : Ok B l Z nar own nm code ml ret R h0 ws fr Q Me) : B.fr = fr := ok.2.2.2.2.2.2.2.2.2.2.2.2.2.2.1
theorem Ok.Q_ (ok : Ok B l Z nar own nm code ml ret R h0 ws fr Q Me) : B.Q = Q := ok.2.2.2.2.2.2.2.2.2.2.2.2.2.2.2.1
theorem Ok.h_ (ok : Ok B l Z nar own nm code ml ret R h0 ws fr Q Me) : B.s.heap = h0 := ok.2.2.2.2.2.2.2.2.2.2.2.2.2.2.2.2
theorem Ok.zv (ok : Ok B l Z nar own nm code ml ret R h0 ws fr Q Me) {vm0 : Vm} {k0 : Nat} (hS : B.s.Since vm0 k0) : Z.Warmed39 (B.s.setVm vm0).vm := State.Warmed39.trans (t := B.s) ok.zs hS.1
theorem Ok.ownv (ok : Ok B l Z nar own nm code ml ret R h0 ws fr Q Me) {vm0 : Vm} {k0 : Nat} (hS : B.s.Since vm0 k0) : (B.s.setVm vm0).vm.findClass own = some B.m.cls := (hS.1.alike.findClass _ _).trans ok.own_
end Acc
/-- behind a step that leaves the start's tables narrow-warm -/
theorem Bg.next {p : Program} {l : Launch} {e : Env} {R : Room} {s : State} {m : MethodId} {args : Array Value} {below : List Frame} {meth : Method} {c : Code} {T T' Z : State} {locs locs' : List Loc} {k n k' n' : Nat} {M : List Addr}
    (bg : Bg Z M T) (hZ : Z.Warmed39 s.vm) (X : Stand p l e R s m args below meth c T locs k n) (X' : Stand p l e R s m args below meth c T' locs' k' n') (hk : Kept M T.heap T'.heap) : Bg Z M T' :=
  bg.move (wtrans hZ X'.warmed) ((X'.warmed.interned_eq).trans X.warmed.interned_eq.symm) hk
theorem Bg.nextN {p : Program} {l : Launch} {e : Env} {R : Room} {s : State} {m : MethodId} {args : Array Value} {below : List Frame} {meth : Method} {c : Code} {T T' Z : State} {locs locs' : List Loc} {k n k' n' : Nat} {M M' : List Addr}
    (bg : Bg Z M T) (hZ : Z.Warmed39 s.vm) (X : Stand p l e R s m args below meth c T locs k n) (X' : Stand p l e R s m args below meth c T' locs' k' n') (hk : Kept M T.heap T'.heap) (hM : ∀ x ∈ M', x ∈ M ∨ (T.heap.size ≤ x ∧ x < T'.heap.size)) : Bg Z M' T' :=
  bg.grow (wtrans hZ X'.warmed) ((X'.warmed.interned_eq).trans X.warmed.interned_eq.symm) hk hM
end Jvm.Pilot.@@N@@.Wk
namespace Jvm.Pilot.@@N@@.Wk
open Jvm Jvm.ClassFile Sem Op Lib Jvm.Free Jvm.Stand Jvm.LawKit Jvm.RoadKit Bundle
section Pure
variable {B : Cx} {l : Launch} {Z : State} {nar : Bool} {own nm : String} {code : ByteArray} {ml : Nat} {ret : Option FieldType} {R : Room} {h0 : Heap} {ws : List Addr} {fr : Bool} {Q : List Addr → Option Value → Heap → Prop} {Me : List Addr}
variable {h : Heap} {k n : Nat} {M : List Addr} {cl : Cl} {pc pc' : Nat} {L L' : Array Slot} {S S' : List Value}
/-- Java's (char) x -/
def c16 (x : Int32) : Int32 := x.toUInt32.toUInt16.toUInt32.toInt32
/-- Java's (byte) x -/
def b8 (x : Int32) : Int32 := x.toInt8.toInt32
theorem W.pure (st : ∀ (T target : State), At T B.m B.c B.below → Steps B.p.tables B.e B.below (T.setTop (mkF B.m pc' L' S')) target → Steps B.p.tables B.e B.below (T.setTop (mkF B.m pc L S)) target) (K : W B h k n M cl pc' L' S') : W B h k n M cl pc L S :=
  fun T P => Gd.step (fun t q => st T t (by obtain ⟨_, _, _, X, _⟩ := P; exact X.here) q) (K T P)
theorem W.aload (ok : Ok B l Z nar own nm code ml ret R h0 ws fr Q Me) {i : Nat} {v : Value} (hd : decode code pc = .ok (.aload i, 2)) (hp : pc + 2 = pc') (hl : L[i]? = some (.val v)) (hv : v.isRef = true) (K : W B h k n M cl pc' L (v :: S)) : W B h k n M cl pc L S := by
  subst hp; exact W.pure (fun T t hA q => XS.aload hA ok.x rfl (hb ok.by_ hd) hl hv q) K
theorem W.aloadN (ok : Ok B l Z nar own nm code ml ret R h0 ws fr Q Me) {i : Fin 4} {v : Value} (hd : decode code pc = .ok (.aload_n i, 1)) (hp : pc + 1 = pc') (hl : L[i.val]? = some (.val v)) (hv : v.isRef = true) (K : W B h k n M cl pc' L (v :: S)) : W B h k n M cl pc L S := by
  subst hp; exact W.pure (fun T t hA q => XS.aloadN hA ok.x rfl (hb ok.by_ hd) hl hv q) K
theorem W.iload (ok : Ok B l Z nar own nm code ml ret R h0 ws fr Q Me) {i : Nat} {v : Int32} (hd : decode code pc = .ok (.iload i, 2)) (hp : pc + 2 = pc') (hl : L[i]? = some (.val (.int v))) (K : W B h k n M cl pc' L (.int v :: S)) : W B h k n M cl pc L S := by
  subst hp; exact W.pure (fun T t hA q => XS.iload hA ok.x rfl (hb ok.by_ hd) hl q) K
theorem W.iloadN (ok : Ok B l Z nar own nm code ml ret R h0 ws fr Q Me) {i : Fin 4} {v : Int32} (hd : decode code pc = .ok (.iload_n i, 1)) (hp : pc + 1 = pc') (hl : L[i.val]? = some (.val (.int v))) (K : W B h k n M cl pc' L (.int v :: S)) : W B h k n M cl pc L S := by
  subst hp; exact W.pure (fun T t hA q => XS.iloadN hA ok.x rfl (hb ok.by_ hd) hl q) K
theorem W.lload (ok : Ok B l Z nar own nm code ml ret R h0 ws fr Q Me) {i : Nat} {v : Int64} (hd : decode code pc = .ok (.lload i, 2)) (hp : pc + 2 = pc') (hl : L[i]? = some (.val (.long v))) (K : W B h k n M cl pc' L (.long v :: S)) : W B h k n M cl pc L S := by
  subst hp; exact W.pure (fun T t hA q => XT.lload hA ok.x rfl (hb ok.by_ hd) hl q) K
theorem W.lloadN (ok : Ok B l Z nar own nm code ml ret R h0 ws fr Q Me) {i : Fin 4} {v : Int64} (hd : decode code pc = .ok (.lload_n i, 1)) (hp : pc + 1 = pc') (hl : L[i.val]? = some (.val (.long v))) (K : W B h k n M cl pc' L (.long v :: S)) : W B h k n M cl pc L S := by
  subst hp; exact W.pure (fun T t hA q => XT.lloadN hA ok.x rfl (hb ok.by_ hd) hl q) K
theorem W.iconst (ok : Ok B l Z nar own nm code ml ret R h0 ws fr Q Me) {i : Int} (v : Int32) (hd : decode code pc = .ok (.iconst i, 1)) (hp : pc + 1 = pc') (hv : Int32.ofInt i = v) (K : W B h k n M cl pc' L (.int v :: S)) : W B h k n M cl pc L S := by
  subst hp; exact W.pure (fun T t hA q => XT.iconstV hA ok.x rfl v (hb ok.by_ hd) hv q) K
theorem W.bipush (ok : Ok B l Z nar own nm code ml ret R h0 ws fr Q Me) {i : Int} (v : Int32) (hd : decode code pc = .ok (.bipush i, 2)) (hp : pc + 2 = pc') (hv : (Int8.ofInt i).toInt32 = v) (K : W B h k n M cl pc' L (.int v :: S)) : W B h k n M cl pc L S := by
  subst hp; exact W.pure (fun T t hA q => XT.bipushV hA ok.x rfl v (hb ok.by_ hd) hv q) K
theorem W.sipush (ok : Ok B l Z nar own nm code ml ret R h0 ws fr Q Me) {i : Int} (v : Int32) (hd : decode code pc = .ok (.sipush i, 3)) (hp : pc + 3 = pc') (hv : (Int16.ofInt i).toInt32 = v) (K : W B h k n M cl pc' L (.int v :: S)) : W B h k n M cl pc L S := by
  subst hp; exact W.pure (fun T t hA q => XT.sipushV hA ok.x rfl v (hb ok.by_ hd) hv q) K
theorem W.lconst (ok : Ok B l Z nar own nm code ml ret R h0 ws fr Q Me) {i : Fin 2} (v : Int64) (hd : decode code pc = .ok (.lconst i, 1)) (hp : pc + 1 = pc') (hv : Int64.ofNat i = v) (K : W B h k n M cl pc' L (.long v :: S)) : W B h k n M cl pc L S := by
  subst hp; exact W.pure (fun T t hA q => XT.lconstV hA ok.x rfl v (hb ok.by_ hd) hv q) K
theorem W.aconstNull (ok : Ok B l Z nar own nm code ml ret R h0 ws fr Q Me)  (hd : decode code pc = .ok (.aconst_null, 1)) (hp : pc + 1 = pc')  (K : W B h k n M cl pc' L (.null :: S)) : W B h k n M cl pc L S := by
  subst hp; exact W.pure (fun T t hA q => XS.aconstNull hA ok.x rfl (hb ok.by_ hd) q) K
theorem W.iadd (ok : Ok B l Z nar own nm code ml ret R h0 ws fr Q Me) {x y : Int32} (hd : decode code pc = .ok (.iadd, 1)) (hp : pc + 1 = pc')  (K : W B h k n M cl pc' L (.int (x + y) :: S)) : W B h k n M cl pc L (.int y :: .int x :: S) := by
  subst hp; exact W.pure (fun T t hA q => XS.iadd hA ok.x rfl (hb ok.by_ hd) rfl q) K
theorem W.isub (ok : Ok B l Z nar own nm code ml ret R h0 ws fr Q Me) {x y : Int32} (hd : decode code pc = .ok (.isub, 1)) (hp : pc + 1 = pc')  (K : W B h k n M cl pc' L (.int (x - y) :: S)) : W B h k n M cl pc L (.int y :: .int x :: S) := by
  subst hp; exact W.pure (fun T t hA q => XS.isub hA ok.x rfl (hb ok.by_ hd) rfl q) K
theorem W.iand (ok : Ok B l Z nar own nm code ml ret R h0 ws fr Q Me) {x y : Int32} (hd : decode code pc = .ok (.iand, 1)) (hp : pc + 1 = pc')  (K : W B h k n M cl pc' L (.int (x &&& y) :: S)) : W B h k n M cl pc L (.int y :: .int x :: S) := by
  subst hp; exact W.pure (fun T t hA q => XS.iand hA ok.x rfl (hb ok.by_ hd) rfl q) K
theorem W.imul (ok : Ok B l Z nar own nm code ml ret R h0 ws fr Q Me) {x y : Int32} (hd : decode code pc = .ok (.imul, 1)) (hp : pc + 1 = pc')  (K : W B h k n M cl pc' L (.int (x * y) :: S)) : W B h k n M cl pc L (.int y :: .int x :: S) := by
  subst hp; exact W.pure (fun T t hA q => XS.imul hA ok.x rfl (hb ok.by_ hd) rfl q) K
theorem W.ior (ok : Ok B l Z nar own nm code ml ret R h0 ws fr Q Me) {x y : Int32} (hd : decode code pc = .ok (.ior, 1)) (hp : pc + 1 = pc')  (K : W B h k n M cl pc' L (.int (x ||| y) :: S)) : W B h k n M cl pc L (.int y :: .int x :: S) := by
  subst hp; exact W.pure (fun T t hA q => XT.ior hA ok.x rfl (hb ok.by_ hd) rfl q) K
theorem W.ixor (ok : Ok B l Z nar own nm code ml ret R h0 ws fr Q Me) {x y : Int32} (hd : decode code pc = .ok (.ixor, 1)) (hp : pc + 1 = pc')  (K : W B h k n M cl pc' L (.int (x ^^^ y) :: S)) : W B h k n M cl pc L (.int y :: .int x :: S) := by
  subst hp; exact W.pure (fun T t hA q => XT.ixor hA ok.x rfl (hb ok.by_ hd) rfl q) K
theorem W.ishl (ok : Ok B l Z nar own nm code ml ret R h0 ws fr Q Me) {x y : Int32} (hd : decode code pc = .ok (.ishl, 1)) (hp : pc + 1 = pc')  (K : W B h k n M cl pc' L (.int (x <<< (y &&& 31)) :: S)) : W B h k n M cl pc L (.int y :: .int x :: S) := by
  subst hp; exact W.pure (fun T t hA q => XT.ishl hA ok.x rfl (hb ok.by_ hd) rfl q) K
theorem W.ishr (ok : Ok B l Z nar own nm code ml ret R h0 ws fr Q Me) {x y : Int32} (hd : decode code pc = .ok (.ishr, 1)) (hp : pc + 1 = pc')  (K : W B h k n M cl pc' L (.int (x >>> (y &&& 31)) :: S)) : W B h k n M cl pc L (.int y :: .int x :: S) := by
  subst hp; exact W.pure (fun T t hA q => XT.ishr hA ok.x rfl (hb ok.by_ hd) rfl q) K
theorem W.iushr (ok : Ok B l Z nar own nm code ml ret R h0 ws fr Q Me) {x y : Int32} (hd : decode code pc = .ok (.iushr, 1)) (hp : pc + 1 = pc')  (K : W B h k n M cl pc' L (.int (XT.ushr x y) :: S)) : W B h k n M cl pc L (.int y :: .int x :: S) := by
  subst hp; exact W.pure (fun T t hA q => XT.iushr hA ok.x rfl (hb ok.by_ hd) rfl q) K
theorem W.irem (ok : Ok B l Z nar own nm code ml ret R h0 ws fr Q Me) {x y : Int32} (hd : decode code pc = .ok (.irem, 1)) (hp : pc + 1 = pc') (hy : y ≠ 0) (K : W B h k n M cl pc' L (.int (x % y) :: S)) : W B h k n M cl pc L (.int y :: .int x :: S) := by
  subst hp; exact W.pure (fun T t hA q => XS.irem hA ok.x rfl (hb ok.by_ hd) rfl hy (by rw [show x - x / y * y = x % y from irem_eq_mod x y]; exact q)) K
theorem W.idiv (ok : Ok B l Z nar own nm code ml ret R h0 ws fr Q Me) {x y : Int32} (hd : decode code pc = .ok (.idiv, 1)) (hp : pc + 1 = pc') (hy : y ≠ 0) (K : W B h k n M cl pc' L (.int (x / y) :: S)) : W B h k n M cl pc L (.int y :: .int x :: S) := by
  subst hp; exact W.pure (fun T t hA q => XS.idiv hA ok.x rfl (hb ok.by_ hd) rfl hy q) K
theorem W.ineg (ok : Ok B l Z nar own nm code ml ret R h0 ws fr Q Me) {x : Int32} (hd : decode code pc = .ok (.ineg, 1)) (hp : pc + 1 = pc')  (K : W B h k n M cl pc' L (.int (-x) :: S)) : W B h k n M cl pc L (.int x :: S) := by
  subst hp; exact W.pure (fun T t hA q => XS.ineg hA ok.x rfl (hb ok.by_ hd) rfl q) K
theorem W.land (ok : Ok B l Z nar own nm code ml ret R h0 ws fr Q Me) {x y : Int64} (hd : decode code pc = .ok (.land, 1)) (hp : pc + 1 = pc')  (K : W B h k n M cl pc' L (.long (x &&& y) :: S)) : W B h k n M cl pc L (.long y :: .long x :: S) := by
  subst hp; exact W.pure (fun T t hA q => XT.land hA ok.x rfl (hb ok.by_ hd) rfl q) K
theorem W.lor (ok : Ok B l Z nar own nm code ml ret R h0 ws fr Q Me) {x y : Int64} (hd : decode code pc = .ok (.lor, 1)) (hp : pc + 1 = pc')  (K : W B h k n M cl pc' L (.long (x ||| y) :: S)) : W B h k n M cl pc L (.long y :: .long x :: S) := by
  subst hp; exact W.pure (fun T t hA q => XT.lor hA ok.x rfl (hb ok.by_ hd) rfl q) K
theorem W.lxor (ok : Ok B l Z nar own nm code ml ret R h0 ws fr Q Me) {x y : Int64} (hd : decode code pc = .ok (.lxor, 1)) (hp : pc + 1 = pc')  (K : W B h k n M cl pc' L (.long (x ^^^ y) :: S)) : W B h k n M cl pc L (.long y :: .long x :: S) := by
  subst hp; exact W.pure (fun T t hA q => XT.lxor hA ok.x rfl (hb ok.by_ hd) rfl q) K
theorem W.ladd (ok : Ok B l Z nar own nm code ml ret R h0 ws fr Q Me) {x y : Int64} (hd : decode code pc = .ok (.ladd, 1)) (hp : pc + 1 = pc')  (K : W B h k n M cl pc' L (.long (x + y) :: S)) : W B h k n M cl pc L (.long y :: .long x :: S) := by
  subst hp; exact W.pure (fun T t hA q => XT.ladd hA ok.x rfl (hb ok.by_ hd) rfl q) K
theorem W.lsub (ok : Ok B l Z nar own nm code ml ret R h0 ws fr Q Me) {x y : Int64} (hd : decode code pc = .ok (.lsub, 1)) (hp : pc + 1 = pc')  (K : W B h k n M cl pc' L (.long (x - y) :: S)) : W B h k n M cl pc L (.long y :: .long x :: S) := by
  subst hp; exact W.pure (fun T t hA q => XT.lsub hA ok.x rfl (hb ok.by_ hd) rfl q) K
theorem W.lushr (ok : Ok B l Z nar own nm code ml ret R h0 ws fr Q Me) {x : Int64} {y : Int32} (hd : decode code pc = .ok (.lushr, 1)) (hp : pc + 1 = pc')  (K : W B h k n M cl pc' L (.long (XT.ushrL x y) :: S)) : W B h k n M cl pc L (.int y :: .long x :: S) := by
  subst hp; exact W.pure (fun T t hA q => XT.lushr hA ok.x rfl (hb ok.by_ hd) rfl q) K
theorem W.lshr (ok : Ok B l Z nar own nm code ml ret R h0 ws fr Q Me) {x : Int64} {y : Int32} (hd : decode code pc = .ok (.lshr, 1)) (hp : pc + 1 = pc')  (K : W B h k n M cl pc' L (.long (x >>> (y.toInt64 &&& 63)) :: S)) : W B h k n M cl pc L (.int y :: .long x :: S) := by
  subst hp; exact W.pure (fun T t hA q => XT.lshr hA ok.x rfl (hb ok.by_ hd) rfl q) K
theorem W.lshl (ok : Ok B l Z nar own nm code ml ret R h0 ws fr Q Me) {x : Int64} {y : Int32} (hd : decode code pc = .ok (.lshl, 1)) (hp : pc + 1 = pc')  (K : W B h k n M cl pc' L (.long (x <<< (y.toInt64 &&& 63)) :: S)) : W B h k n M cl pc L (.int y :: .long x :: S) := by
  subst hp; exact W.pure (fun T t hA q => XT.lshl hA ok.x rfl (hb ok.by_ hd) rfl q) K
theorem W.i2l (ok : Ok B l Z nar own nm code ml ret R h0 ws fr Q Me) {x : Int32} (hd : decode code pc = .ok (.i2l, 1)) (hp : pc + 1 = pc')  (K : W B h k n M cl pc' L (.long x.toInt64 :: S)) : W B h k n M cl pc L (.int x :: S) := by
  subst hp; exact W.pure (fun T t hA q => XT.i2l hA ok.x rfl (hb ok.by_ hd) rfl q) K
theorem W.l2i (ok : Ok B l Z nar own nm code ml ret R h0 ws fr Q Me) {x : Int64} (hd : decode code pc = .ok (.l2i, 1)) (hp : pc + 1 = pc')  (K : W B h k n M cl pc' L (.int x.toInt32 :: S)) : W B h k n M cl pc L (.long x :: S) := by
  subst hp; exact W.pure (fun T t hA q => XT.l2i hA ok.x rfl (hb ok.by_ hd) rfl q) K
theorem W.i2b (ok : Ok B l Z nar own nm code ml ret R h0 ws fr Q Me) {x : Int32} (hd : decode code pc = .ok (.i2b, 1)) (hp : pc + 1 = pc')  (K : W B h k n M cl pc' L (.int (b8 x) :: S)) : W B h k n M cl pc L (.int x :: S) := by
  subst hp; exact W.pure (fun T t hA q => XT.i2b hA ok.x rfl (hb ok.by_ hd) rfl q) K
theorem W.i2c (ok : Ok B l Z nar own nm code ml ret R h0 ws fr Q Me) {x : Int32} (hd : decode code pc = .ok (.i2c, 1)) (hp : pc + 1 = pc')  (K : W B h k n M cl pc' L (.int (c16 x) :: S)) : W B h k n M cl pc L (.int x :: S) := by
  subst hp; exact W.pure (fun T t hA q => XT.i2c hA ok.x rfl (hb ok.by_ hd) rfl q) K
theorem W.dup (ok : Ok B l Z nar own nm code ml ret R h0 ws fr Q Me) {x : Value} (hd : decode code pc = .ok (.dup, 1)) (hp : pc + 1 = pc') (hc : x.category = 1) (K : W B h k n M cl pc' L (x :: x :: S)) : W B h k n M cl pc L (x :: S) := by
  subst hp; exact W.pure (fun T t hA q => XS.dup hA ok.x rfl (hb ok.by_ hd) rfl hc q) K
theorem W.dup2 (ok : Ok B l Z nar own nm code ml ret R h0 ws fr Q Me) {x y : Value} (hd : decode code pc = .ok (.dup2, 1)) (hp : pc + 1 = pc') (hc : x.category = 1) (hc' : y.category = 1) (K : W B h k n M cl pc' L (x :: y :: x :: y :: S)) : W B h k n M cl pc L (x :: y :: S) := by
  subst hp; exact W.pure (fun T t hA q => XT.dup2 hA ok.x rfl (hb ok.by_ hd) rfl hc hc' q) K
theorem W.dupX1 (ok : Ok B l Z nar own nm code ml ret R h0 ws fr Q Me) {x y : Value} (hd : decode code pc = .ok (.dup_x1, 1)) (hp : pc + 1 = pc') (hc : x.category = 1) (hc' : y.category = 1) (K : W B h k n M cl pc' L (x :: y :: x :: S)) : W B h k n M cl pc L (x :: y :: S) := by
  subst hp; exact W.pure (fun T t hA q => XT.dupX1 hA ok.x rfl (hb ok.by_ hd) rfl hc hc' q) K
theorem W.pop1 (ok : Ok B l Z nar own nm code ml ret R h0 ws fr Q Me) {x : Value} (hd : decode code pc = .ok (.pop, 1)) (hp : pc + 1 = pc') (hc : x.category = 1) (K : W B h k n M cl pc' L S) : W B h k n M cl pc L (x :: S) := by
  subst hp; exact W.pure (fun T t hA q => XT.pop hA ok.x rfl (hb ok.by_ hd) rfl hc q) K
theorem W.istore (ok : Ok B l Z nar own nm code ml ret R h0 ws fr Q Me) {i : Nat} {v : Int32} (hd : decode code pc = .ok (.istore i, 2)) (hp : pc + 2 = pc') (hl : storeLocals L i (.int v) = some L') (K : W B h k n M cl pc' L' S) : W B h k n M cl pc L (.int v :: S) := by
  subst hp; exact W.pure (fun T t hA q => XS.istore hA ok.x rfl (hb ok.by_ hd) rfl hl q) K
theorem W.istoreN (ok : Ok B l Z nar own nm code ml ret R h0 ws fr Q Me) {i : Fin 4} {v : Int32} (hd : decode code pc = .ok (.istore_n i, 1)) (hp : pc + 1 = pc') (hl : storeLocals L i.val (.int v) = some L') (K : W B h k n M cl pc' L' S) : W B h k n M cl pc L (.int v :: S) := by
  subst hp; exact W.pure (fun T t hA q => XS.istoreN hA ok.x rfl (hb ok.by_ hd) rfl hl q) K
theorem W.astore (ok : Ok B l Z nar own nm code ml ret R h0 ws fr Q Me) {i : Nat} {v : Value} (hd : decode code pc = .ok (.astore i, 2)) (hp : pc + 2 = pc') (hv : v.isRef = true) (hl : storeLocals L i v = some L') (K : W B h k n M cl pc' L' S) : W B h k n M cl pc L (v :: S) := by
  subst hp; exact W.pure (fun T t hA q => XS.astore hA ok.x rfl (hb ok.by_ hd) rfl hv hl q) K
theorem W.astoreN (ok : Ok B l Z nar own nm code ml ret R h0 ws fr Q Me) {i : Fin 4} {v : Value} (hd : decode code pc = .ok (.astore_n i, 1)) (hp : pc + 1 = pc') (hv : v.isRef = true) (hl : storeLocals L i.val v = some L') (K : W B h k n M cl pc' L' S) : W B h k n M cl pc L (v :: S) := by
  subst hp; exact W.pure (fun T t hA q => XS.astoreN hA ok.x rfl (hb ok.by_ hd) rfl hv hl q) K
theorem W.lstore (ok : Ok B l Z nar own nm code ml ret R h0 ws fr Q Me) {i : Nat} {v : Int64} (hd : decode code pc = .ok (.lstore i, 2)) (hp : pc + 2 = pc') (hl : storeLocals L i (.long v) = some L') (K : W B h k n M cl pc' L' S) : W B h k n M cl pc L (.long v :: S) := by
  subst hp; exact W.pure (fun T t hA q => XT.lstore hA ok.x rfl (hb ok.by_ hd) rfl hl q) K
theorem W.lstoreN (ok : Ok B l Z nar own nm code ml ret R h0 ws fr Q Me) {i : Fin 4} {v : Int64} (hd : decode code pc = .ok (.lstore_n i, 1)) (hp : pc + 1 = pc') (hl : storeLocals L i.val (.long v) = some L') (K : W B h k n M cl pc' L' S) : W B h k n M cl pc L (.long v :: S) := by
  subst hp; exact W.pure (fun T t hA q => XT.lstoreN hA ok.x rfl (hb ok.by_ hd) rfl hl q) K
theorem W.astoreS (ok : Ok B l Z nar own nm code ml ret R h0 ws fr Q Me) {i : Nat} {v : Value} {o : Slot} (hd : decode code pc = .ok (.astore i, 2)) (hp : pc + 2 = pc') (hv : v.isRef = true) (hl : L[i]? = some o) (ho : One o) (e : L.setIfInBounds i (.val v) = L') (K : W B h k n M cl pc' L' S) : W B h k n M cl pc L (v :: S) := by
  subst hp; exact W.pure (fun T t hA q => XS.astore hA ok.x rfl (hb ok.by_ hd) rfl hv ((XS.store1 hl ho (XT.cat1 hv)).trans (congrArg some e)) q) K
theorem W.astoreNS (ok : Ok B l Z nar own nm code ml ret R h0 ws fr Q Me) {i : Fin 4} {v : Value} {o : Slot} (hd : decode code pc = .ok (.astore_n i, 1)) (hp : pc + 1 = pc') (hv : v.isRef = true) (hl : L[i.val]? = some o) (ho : One o) (e : L.setIfInBounds i.val (.val v) = L') (K : W B h k n M cl pc' L' S) : W B h k n M cl pc L (v :: S) := by
  subst hp; exact W.pure (fun T t hA q => XS.astoreN hA ok.x rfl (hb ok.by_ hd) rfl hv ((XS.store1 hl ho (XT.cat1 hv)).trans (congrArg some e)) q) K
theorem W.istoreS (ok : Ok B l Z nar own nm code ml ret R h0 ws fr Q Me) {i : Nat} {v : Int32} {o : Slot} (hd : decode code pc = .ok (.istore i, 2)) (hp : pc + 2 = pc') (hl : L[i]? = some o) (ho : One o) (e : L.setIfInBounds i (.val (.int v)) = L') (K : W B h k n M cl pc' L' S) : W B h k n M cl pc L (.int v :: S) := by
  subst hp; exact W.pure (fun T t hA q => XS.istore hA ok.x rfl (hb ok.by_ hd) rfl ((XS.store1 hl ho rfl).trans (congrArg some e)) q) K
theorem W.istoreNS (ok : Ok B l Z nar own nm code ml ret R h0 ws fr Q Me) {i : Fin 4} {v : Int32} {o : Slot} (hd : decode code pc = .ok (.istore_n i, 1)) (hp : pc + 1 = pc') (hl : L[i.val]? = some o) (ho : One o) (e : L.setIfInBounds i.val (.val (.int v)) = L') (K : W B h k n M cl pc' L' S) : W B h k n M cl pc L (.int v :: S) := by
  subst hp; exact W.pure (fun T t hA q => XS.istoreN hA ok.x rfl (hb ok.by_ hd) rfl ((XS.store1 hl ho rfl).trans (congrArg some e)) q) K
theorem W.iinc (ok : Ok B l Z nar own nm code ml ret R h0 ws fr Q Me) {i : Nat} {cst : Int} {x : Int32} (v : Int32) (hd : decode code pc = .ok (.iinc i cst, 3)) (hp : pc + 3 = pc') (hv : Int32.ofInt cst = v) (hl : L[i]? = some (.val (.int x))) (hl' : storeLocals L i (.int (x + v)) = some L') (K : W B h k n M cl pc' L' S) : W B h k n M cl pc L S := by
  subst hp; exact W.pure (fun T t hA q => XT.iincV hA ok.x rfl v (hb ok.by_ hd) hv hl hl' q) K
theorem W.goto (ok : Ok B l Z nar own nm code ml ret R h0 ws fr Q Me) {o : Int} (hd : decode code pc = .ok (.goto o, 3)) (ho : 0 ≤ (pc : Int) + o) (hp : ((pc : Int) + o).toNat = pc') (K : W B h k n M cl pc' L S) : W B h k n M cl pc L S :=
  W.pure (fun T t hA q => XS.goto hA ok.x rfl (pc0 := pc) rfl (hb ok.by_ hd) ho hp q) K
theorem W.ifeq (ok : Ok B l Z nar own nm code ml ret R h0 ws fr Q Me) {x : Int32} {o : Int} {pcY pcN : Nat} (hd : decode code pc = .ok (.ifCond .eq o, 3)) (hp : pc + 3 = pcN) (ho : 0 ≤ (pc : Int) + o) (hj : ((pc : Int) + o).toNat = pcY) (KT : x = 0 → W B h k n M cl pcY L S) (KF : ¬ x = 0 → W B h k n M cl pcN L S) : W B h k n M cl pc L (.int x :: S) := by
  subst hp; by_cases c : x = 0
  · exact W.pure (fun T t hA q => XS.ifYes hA ok.x rfl (pc0 := pc) rfl (hb ok.by_ hd) rfl (XT.i0_eq_t c) ho hj q) (KT c)
  · exact W.pure (fun T t hA q => XS.ifNo hA ok.x rfl (hb ok.by_ hd) rfl (XT.i0_eq_f c) q) (KF c)
theorem W.ifne (ok : Ok B l Z nar own nm code ml ret R h0 ws fr Q Me) {x : Int32} {o : Int} {pcY pcN : Nat} (hd : decode code pc = .ok (.ifCond .ne o, 3)) (hp : pc + 3 = pcN) (ho : 0 ≤ (pc : Int) + o) (hj : ((pc : Int) + o).toNat = pcY) (KT : x = 0 → W B h k n M cl pcN L S) (KF : ¬ x = 0 → W B h k n M cl pcY L S) : W B h k n M cl pc L (.int x :: S) := by
  subst hp; by_cases c : x = 0
  · exact W.pure (fun T t hA q => XS.ifNo hA ok.x rfl (hb ok.by_ hd) rfl (XT.i0_ne_f c) q) (KT c)
  · exact W.pure (fun T t hA q => XS.ifYes hA ok.x rfl (pc0 := pc) rfl (hb ok.by_ hd) rfl (XT.i0_ne_t c) ho hj q) (KF c)
theorem W.iflt (ok : Ok B l Z nar own nm code ml ret R h0 ws fr Q Me) {x : Int32} {o : Int} {pcY pcN : Nat} (hd : decode code pc = .ok (.ifCond .lt o, 3)) (hp : pc + 3 = pcN) (ho : 0 ≤ (pc : Int) + o) (hj : ((pc : Int) + o).toNat = pcY) (KT : x < 0 → W B h k n M cl pcY L S) (KF : ¬ x < 0 → W B h k n M cl pcN L S) : W B h k n M cl pc L (.int x :: S) := by
  subst hp; by_cases c : x < 0
  · exact W.pure (fun T t hA q => XS.ifYes hA ok.x rfl (pc0 := pc) rfl (hb ok.by_ hd) rfl (XT.i0_lt_t c) ho hj q) (KT c)
  · exact W.pure (fun T t hA q => XS.ifNo hA ok.x rfl (hb ok.by_ hd) rfl (XT.i0_lt_f c) q) (KF c)
theorem W.ifge (ok : Ok B l Z nar own nm code ml ret R h0 ws fr Q Me) {x : Int32} {o : Int} {pcY pcN : Nat} (hd : decode code pc = .ok (.ifCond .ge o, 3)) (hp : pc + 3 = pcN) (ho : 0 ≤ (pc : Int) + o) (hj : ((pc : Int) + o).toNat = pcY) (KT : x < 0 → W B h k n M cl pcN L S) (KF : ¬ x < 0 → W B h k n M cl pcY L S) : W B h k n M cl pc L (.int x :: S) := by
  subst hp; by_cases c : x < 0
  · exact W.pure (fun T t hA q => XS.ifNo hA ok.x rfl (hb ok.by_ hd) rfl (XT.i0_ge_f c) q) (KT c)
  · exact W.pure (fun T t hA q => XS.ifYes hA ok.x rfl (pc0 := pc) rfl (hb ok.by_ hd) rfl (XT.i0_ge_t c) ho hj q) (KF c)
theorem W.ifgt (ok : Ok B l Z nar own nm code ml ret R h0 ws fr Q Me) {x : Int32} {o : Int} {pcY pcN : Nat} (hd : decode code pc = .ok (.ifCond .gt o, 3)) (hp : pc + 3 = pcN) (ho : 0 ≤ (pc : Int) + o) (hj : ((pc : Int) + o).toNat = pcY) (KT : 0 < x → W B h k n M cl pcY L S) (KF : ¬ 0 < x → W B h k n M cl pcN L S) : W B h k n M cl pc L (.int x :: S) := by
  subst hp; by_cases c : 0 < x
  · exact W.pure (fun T t hA q => XS.ifYes hA ok.x rfl (pc0 := pc) rfl (hb ok.by_ hd) rfl (XT.i0_gt_t c) ho hj q) (KT c)
  · exact W.pure (fun T t hA q => XS.ifNo hA ok.x rfl (hb ok.by_ hd) rfl (XT.i0_gt_f c) q) (KF c)
theorem W.ifle (ok : Ok B l Z nar own nm code ml ret R h0 ws fr Q Me) {x : Int32} {o : Int} {pcY pcN : Nat} (hd : decode code pc = .ok (.ifCond .le o, 3)) (hp : pc + 3 = pcN) (ho : 0 ≤ (pc : Int) + o) (hj : ((pc : Int) + o).toNat = pcY) (KT : 0 < x → W B h k n M cl pcN L S) (KF : ¬ 0 < x → W B h k n M cl pcY L S) : W B h k n M cl pc L (.int x :: S) := by
  subst hp; by_cases c : 0 < x
  · exact W.pure (fun T t hA q => XS.ifNo hA ok.x rfl (hb ok.by_ hd) rfl (XT.i0_le_f c) q) (KT c)
  · exact W.pure (fun T t hA q => XS.ifYes hA ok.x rfl (pc0 := pc) rfl (hb ok.by_ hd) rfl (XT.i0_le_t c) ho hj q) (KF c)
theorem W.icmpeq (ok : Ok B l Z nar own nm code ml ret R h0 ws fr Q Me) {x y : Int32} {o : Int} {pcY pcN : Nat} (hd : decode code pc = .ok (.if_icmp .eq o, 3)) (hp : pc + 3 = pcN) (ho : 0 ≤ (pc : Int) + o) (hj : ((pc : Int) + o).toNat = pcY) (KT : x = y → W B h k n M cl pcY L S) (KF : ¬ x = y → W B h k n M cl pcN L S) : W B h k n M cl pc L (.int y :: .int x :: S) := by
  subst hp; by_cases c : x = y
  · exact W.pure (fun T t hA q => XS.icmpYes hA ok.x rfl (pc0 := pc) rfl (hb ok.by_ hd) rfl (XT.ii_eq_t c) ho hj q) (KT c)
  · exact W.pure (fun T t hA q => XS.icmpNo hA ok.x rfl (hb ok.by_ hd) rfl (XT.ii_eq_f c) q) (KF c)
theorem W.icmpne (ok : Ok B l Z nar own nm code ml ret R h0 ws fr Q Me) {x y : Int32} {o : Int} {pcY pcN : Nat} (hd : decode code pc = .ok (.if_icmp .ne o, 3)) (hp : pc + 3 = pcN) (ho : 0 ≤ (pc : Int) + o) (hj : ((pc : Int) + o).toNat = pcY) (KT : x = y → W B h k n M cl pcN L S) (KF : ¬ x = y → W B h k n M cl pcY L S) : W B h k n M cl pc L (.int y :: .int x :: S) := by
  subst hp; by_cases c : x = y
  · exact W.pure (fun T t hA q => XS.icmpNo hA ok.x rfl (hb ok.by_ hd) rfl (XT.ii_ne_f c) q) (KT c)
  · exact W.pure (fun T t hA q => XS.icmpYes hA ok.x rfl (pc0 := pc) rfl (hb ok.by_ hd) rfl (XT.ii_ne_t c) ho hj q) (KF c)
theorem W.icmplt (ok : Ok B l Z nar own nm code ml ret R h0 ws fr Q Me) {x y : Int32} {o : Int} {pcY pcN : Nat} (hd : decode code pc = .ok (.if_icmp .lt o, 3)) (hp : pc + 3 = pcN) (ho : 0 ≤ (pc : Int) + o) (hj : ((pc : Int) + o).toNat = pcY) (KT : x < y → W B h k n M cl pcY L S) (KF : ¬ x < y → W B h k n M cl pcN L S) : W B h k n M cl pc L (.int y :: .int x :: S) := by
  subst hp; by_cases c : x < y
  · exact W.pure (fun T t hA q => XS.icmpYes hA ok.x rfl (pc0 := pc) rfl (hb ok.by_ hd) rfl (XT.ii_lt_t c) ho hj q) (KT c)
  · exact W.pure (fun T t hA q => XS.icmpNo hA ok.x rfl (hb ok.by_ hd) rfl (XT.ii_lt_f c) q) (KF c)
theorem W.icmpge (ok : Ok B l Z nar own nm code ml ret R h0 ws fr Q Me) {x y : Int32} {o : Int} {pcY pcN : Nat} (hd : decode code pc = .ok (.if_icmp .ge o, 3)) (hp : pc + 3 = pcN) (ho : 0 ≤ (pc : Int) + o) (hj : ((pc : Int) + o).toNat = pcY) (KT : x < y → W B h k n M cl pcN L S) (KF : ¬ x < y → W B h k n M cl pcY L S) : W B h k n M cl pc L (.int y :: .int x :: S) := by
  subst hp; by_cases c : x < y
  · exact W.pure (fun T t hA q => XS.icmpNo hA ok.x rfl (hb ok.by_ hd) rfl (XT.ii_ge_f c) q) (KT c)
  · exact W.pure (fun T t hA q => XS.icmpYes hA ok.x rfl (pc0 := pc) rfl (hb ok.by_ hd) rfl (XT.ii_ge_t c) ho hj q) (KF c)
theorem W.icmpgt (ok : Ok B l Z nar own nm code ml ret R h0 ws fr Q Me) {x y : Int32} {o : Int} {pcY pcN : Nat} (hd : decode code pc = .ok (.if_icmp .gt o, 3)) (hp : pc + 3 = pcN) (ho : 0 ≤ (pc : Int) + o) (hj : ((pc : Int) + o).toNat = pcY) (KT : y < x → W B h k n M cl pcY L S) (KF : ¬ y < x → W B h k n M cl pcN L S) : W B h k n M cl pc L (.int y :: .int x :: S) := by
  subst hp; by_cases c : y < x
  · exact W.pure (fun T t hA q => XS.icmpYes hA ok.x rfl (pc0 := pc) rfl (hb ok.by_ hd) rfl (XT.ii_gt_t c) ho hj q) (KT c)
  · exact W.pure (fun T t hA q => XS.icmpNo hA ok.x rfl (hb ok.by_ hd) rfl (XT.ii_gt_f c) q) (KF c)
theorem W.icmple (ok : Ok B l Z nar own nm code ml ret R h0 ws fr Q Me) {x y : Int32} {o : Int} {pcY pcN : Nat} (hd : decode code pc = .ok (.if_icmp .le o, 3)) (hp : pc + 3 = pcN) (ho : 0 ≤ (pc : Int) + o) (hj : ((pc : Int) + o).toNat = pcY) (KT : y < x → W B h k n M cl pcN L S) (KF : ¬ y < x → W B h k n M cl pcY L S) : W B h k n M cl pc L (.int y :: .int x :: S) := by
  subst hp; by_cases c : y < x
  · exact W.pure (fun T t hA q => XS.icmpNo hA ok.x rfl (hb ok.by_ hd) rfl (XT.ii_le_f c) q) (KT c)
  · exact W.pure (fun T t hA q => XS.icmpYes hA ok.x rfl (pc0 := pc) rfl (hb ok.by_ hd) rfl (XT.ii_le_t c) ho hj q) (KF c)
theorem W.acmpeq (ok : Ok B l Z nar own nm code ml ret R h0 ws fr Q Me) {x y : Value} {o : Int} {pcY pcN : Nat} (hd : decode code pc = .ok (.if_acmp .eq o, 3)) (hp : pc + 3 = pcN) (hx : x.isRef = true) (hy : y.isRef = true) (ho : 0 ≤ (pc : Int) + o) (hj : ((pc : Int) + o).toNat = pcY) (KT : x = y → W B h k n M cl pcY L S) (KF : ¬ x = y → W B h k n M cl pcN L S) : W B h k n M cl pc L (y :: x :: S) := by
  subst hp; by_cases c : x = y
  · exact W.pure (fun T t hA q => XT.acmpYes hA ok.x rfl (pc0 := pc) rfl (hb ok.by_ hd) rfl hx hy (XT.aa_eq_t c) ho hj q) (KT c)
  · exact W.pure (fun T t hA q => XT.acmpNo hA ok.x rfl (hb ok.by_ hd) rfl hx hy (XT.aa_eq_f c) q) (KF c)
theorem W.acmpne (ok : Ok B l Z nar own nm code ml ret R h0 ws fr Q Me) {x y : Value} {o : Int} {pcY pcN : Nat} (hd : decode code pc = .ok (.if_acmp .ne o, 3)) (hp : pc + 3 = pcN) (hx : x.isRef = true) (hy : y.isRef = true) (ho : 0 ≤ (pc : Int) + o) (hj : ((pc : Int) + o).toNat = pcY) (KT : x = y → W B h k n M cl pcN L S) (KF : ¬ x = y → W B h k n M cl pcY L S) : W B h k n M cl pc L (y :: x :: S) := by
  subst hp; by_cases c : x = y
  · exact W.pure (fun T t hA q => XT.acmpNo hA ok.x rfl (hb ok.by_ hd) rfl hx hy (XT.aa_ne_f c) q) (KT c)
  · exact W.pure (fun T t hA q => XT.acmpYes hA ok.x rfl (pc0 := pc) rfl (hb ok.by_ hd) rfl hx hy (XT.aa_ne_t c) ho hj q) (KF c)
theorem W.ifnull (ok : Ok B l Z nar own nm code ml ret R h0 ws fr Q Me) {v : Value} {o : Int} {pcY pcN : Nat} (hd : decode code pc = .ok (.ifnull o, 3)) (hp : pc + 3 = pcN) (hv : v.isRef = true) (ho : 0 ≤ (pc : Int) + o) (hj : ((pc : Int) + o).toNat = pcY) (KT : v = .null → W B h k n M cl pcY L S) (KF : ¬ v = .null → W B h k n M cl pcN L S) : W B h k n M cl pc L (v :: S) := by
  subst hp; by_cases c : v = .null
  · exact W.pure (fun T t hA q => XT.nullYes hA ok.x rfl (pc0 := pc) rfl (hb ok.by_ hd) rfl c ho hj q) (KT c)
  · exact W.pure (fun T t hA q => XT.nullNo hA ok.x rfl (hb ok.by_ hd) rfl hv c q) (KF c)
theorem W.ifnonnull (ok : Ok B l Z nar own nm code ml ret R h0 ws fr Q Me) {v : Value} {o : Int} {pcY pcN : Nat} (hd : decode code pc = .ok (.ifnonnull o, 3)) (hp : pc + 3 = pcN) (hv : v.isRef = true) (ho : 0 ≤ (pc : Int) + o) (hj : ((pc : Int) + o).toNat = pcY) (KT : v = .null → W B h k n M cl pcN L S) (KF : ¬ v = .null → W B h k n M cl pcY L S) : W B h k n M cl pc L (v :: S) := by
  subst hp; by_cases c : v = .null
  · exact W.pure (fun T t hA q => XT.nonnullNo hA ok.x rfl (hb ok.by_ hd) rfl c q) (KT c)
  · exact W.pure (fun T t hA q => XT.nonnullYes hA ok.x rfl (pc0 := pc) rfl (hb ok.by_ hd) rfl hv c ho hj q) (KF c)
end Pure
end Jvm.Pilot.@@N@@.Wk
namespace Jvm.Pilot.@@N@@.Wk
open Jvm Jvm.ClassFile Sem Op Lib Jvm.Free Jvm.Stand Jvm.LawKit Jvm.RoadKit Bundle
/-! ### arrays of int-like things, all components known -/
def ArI (Z : State) (h : Heap) (a : Addr) (ty : FieldType) (cs : List Int32) : Prop := ∃ c : Cell, Arr Z h a c ty ∧ c.slots = (cs.map Value.int).toArray ∧ ∀ x ∈ cs, fits ty (.int x) = true
theorem ArI.ext {Z : State} {h h' : Heap} {a : Addr} {ty : FieldType} {cs : List Int32} (F : ArI Z h a ty cs) (E : Ext h h') : ArI Z h' a ty cs := by obtain ⟨c, A, r⟩ := F; exact ⟨c, A.ext E, r⟩
theorem ArI.keep {Z : State} {h h' : Heap} {a : Addr} {ty : FieldType} {cs : List Int32} {ws : List Addr} (F : ArI Z h a ty cs) (K : Keep h h' ws) (q : a ∉ ws) : ArI Z h' a ty cs := by obtain ⟨c, A, r⟩ := F; exact ⟨c, ⟨K.2.1 a c A.1 q, A.2⟩, r⟩
theorem ArI.kept {Z : State} {h h' : Heap} {a : Addr} {ty : FieldType} {cs : List Int32} {M : List Addr} (F : ArI Z h a ty cs) (K : Kept M h h') (q : a ∉ M) : ArI Z h' a ty cs := by obtain ⟨c, A, r⟩ := F; exact ⟨c, ⟨K.2 a c A.1 q, A.2⟩, r⟩
theorem ArI.other {Z : State} {h h' : Heap} {a b : Addr} {ty : FieldType} {cs : List Int32} {sl : Nat} {v : Value} (F : ArI Z h b ty cs) (W : Wr h h' a sl v) (q : b ≠ a) : ArI Z h' b ty cs := by obtain ⟨c, A, r⟩ := F; exact ⟨c, A.other W q, r⟩
theorem ArI.lt {Z : State} {h : Heap} {a : Addr} {ty : FieldType} {cs : List Int32} (F : ArI Z h a ty cs) : a < h.size := by obtain ⟨c, A, -⟩ := F; exact A.lt
theorem ArI.gt {Z : State} {h : Heap} {a : Addr} {ty : FieldType} {cs : List Int32} (F : ArI Z h a ty cs) : h.size > a := F.lt
theorem gtE {Z : State} {h : Heap} {a : Addr} {C : String} (F : Exa Z h a C) : h.size > a := F.lt
theorem ArI.fit {Z : State} {h : Heap} {a : Addr} {ty : FieldType} {cs : List Int32} (F : ArI Z h a ty cs) : ∀ x ∈ cs, fits ty (.int x) = true := by obtain ⟨c, A, -, r⟩ := F; exact r
theorem ArI.cast {Z : State} {h : Heap} {a : Addr} {ty : FieldType} {cs cs' : List Int32} (F : ArI Z h a ty cs) (e : cs = cs') : ArI Z h a ty cs' := e ▸ F
theorem ArI.new {Z : State} {h : Heap} {a : Addr} {ty : FieldType} {cA : ClassId} {z : Int32} (A : Arr Z h a (newA cA ty z) ty) (hd : defaultValue ty = .int 0) (hf : fits ty (.int 0) = true) : ArI Z h a ty (List.replicate z.toNatClampNeg 0) := by
  refine ⟨_, A, ?_, fun x hx => ?_⟩
  · simp [newA, hd]
  · rw [List.eq_of_mem_replicate hx]; exact hf
theorem ArI.set {Z : State} {h h' : Heap} {a : Addr} {ty : FieldType} {cs : List Int32} {j : Nat} {x : Int32} (F : ArI Z h a ty cs) (W : Wr h h' a j (.int x)) (hx : fits ty (.int x) = true) : ArI Z h' a ty (cs.set j x) := by
  obtain ⟨c, A, e, r⟩ := F
  refine ⟨_, A.same W, ?_, fun y hy => ?_⟩
  · simp only [Cell.setSlot, e]
    apply Array.ext_getElem?
    intro i
    simp [List.map_set]
  · rcases List.mem_or_eq_of_mem_set hy with q | q
    · exact r y q
    · exact q ▸ hx
theorem Fld.kept {Z : State} {h h' : Heap} {a : Addr} {C f d : String} {v : Value} {M : List Addr} (F : Fld Z h a C f d v) (K : Kept M h h') (q : a ∉ M) : Fld Z h' a C f d v := by
  obtain ⟨cell, cf, k, i, f, h1, r⟩ := F; exact ⟨cell, cf, k, i, f, K.2 a cell h1 q, r⟩
theorem Exa.kept {Z : State} {h h' : Heap} {a : Addr} {C : String} {M : List Addr} (F : Exa Z h a C) (K : Kept M h h') (q : a ∉ M) : Exa Z h' a C := by
  obtain ⟨cell, k, h1, r⟩ := F; exact ⟨cell, k, K.2 a cell h1 q, r⟩
theorem ane {a b : Nat} (h : a < b ∨ b < a) : a ≠ b := by omega
theorem nin1 {a b : Nat} (h : a < b ∨ b < a) : a ∉ [b] := by simp; omega
theorem nin2 {a b c : Nat} (h : a < b ∨ b < a) (h2 : a < c ∨ c < a) : a ∉ [b, c] := by simp; omega
theorem ExtT {h h1 h2 : Heap} (E : Ext h h1) (E' : Ext h1 h2) : Ext h h2 := ⟨Nat.le_trans E.1 E'.1, fun a c q => E'.2 a c (E.2 a c q)⟩
theorem ExtK {h h1 h2 : Heap} {ws : List Addr} (E : Ext h h1) (K : Keep h1 h2 ws) (hw : ∀ w ∈ ws, h.size ≤ w) : Ext h h2 :=
  ⟨Nat.le_trans E.1 K.1, fun a c q => K.2.1 a c (E.2 a c q) fun z => absurd (Array.getElem?_eq_some_iff.mp q).1 (Nat.not_lt.mpr (hw a z))⟩
theorem ExtW {h h1 h2 : Heap} {b : Addr} {sl : Nat} {v : Value} (E : Ext h h1) (W : Wr h1 h2 b sl v) (hb : h.size ≤ b) : Ext h h2 := ExtK E (Keep.of_wr W) fun w hw => by cases List.mem_singleton.mp hw; exact hb
theorem ExtR (h : Heap) : Ext h h := ⟨Nat.le_refl _, fun _ _ q => q⟩
theorem Exa.neArI {Z : State} {h : Heap} {a b : Addr} {C : String} {ty : FieldType} {cs : List Int32} {a0 : Array Value} {k : Nat} (E : Exa Z h a C) (w : (Cond.instantiable C k).before a0 Z = true) (A : ArI Z h b ty cs) : a ≠ b := by
  obtain ⟨c, A, -⟩ := A
  exact ne_arr E w A
/-! ### one W-lemma a step that reads or turns the heap -/
section Heap
variable {B : Cx} {l : Launch} {Z : State} {nar : Bool} {own nm : String} {code : ByteArray} {ml : Nat} {ret : Option FieldType} {R : Room} {h0 : Heap} {ws : List Addr} {fr : Bool} {Q : List Addr → Option Value → Heap → Prop} {Me : List Addr}
variable {h : Heap} {k n : Nat} {M : List Addr} {cl : Cl} {pc pc' : Nat} {L L' : Array Slot} {S S' : List Value} {a0 : Array Value}
theorem W.heap {Φ : Heap → Prop} {k' n' : Nat} {M' : List Addr} {cl' : Cl} (ok : Ok B l Z nar own nm code ml ret R h0 ws fr Q Me)
    (st : ∀ (T : State) (vm0 : Vm) (locs : List Loc), Stand B.p B.l B.e B.R (B.s.setVm vm0) B.m B.args B.below B.meth B.c T locs k n → Z.Warmed39 (B.s.setVm vm0).vm → (B.s.setVm vm0).vm.findClass own = some B.m.cls → T.heap = h → Ext Z.heap h → h0.size ≤ h.size →
      ∃ (T' : State) (locs2 : List Loc), Stand B.p B.l B.e B.R (B.s.setVm vm0) B.m B.args B.below B.meth B.c T' (locs ++ locs2) k' n' ∧ Kept M h T'.heap ∧ (∀ y ∈ locs2, y.base ∈ ws ∨ h0.size ≤ y.base) ∧ (cl'.1 = true → cl.1 = true ∧ ∀ y ∈ locs2, h0.size ≤ y.base) ∧ (∀ x ∈ M', x ∈ M ∨ (h.size ≤ x ∧ x < T'.heap.size)) ∧ Φ T'.heap ∧
        ∀ t, Steps B.p.tables B.e B.below (T'.setTop (mkF B.m pc' L' S')) t → Steps B.p.tables B.e B.below (T.setTop (mkF B.m pc L S)) t)
    (hcs : cl'.2 = cl.2) (K : ∀ h', Φ h' → W B h' k' n' M' cl' pc' L' S') : W B h k n M cl pc L S := by
  intro T P
  obtain ⟨vm0, k0, locs, X, hS, hk0, hnar, hL, hcl, hlt, eT, bg⟩ := P
  have eZ := ok.Z_
  have hsz : h0.size ≤ h.size := by rw [← ok.h_, ← eT]; exact X.same.2.1
  obtain ⟨T', locs2, X', hk, hl2, hc2, hM, hΦ, hst⟩ := st T vm0 locs X (ok.zv hS) (ok.ownv hS) eT (by rw [← eT, ← eZ]; exact bg.2.2.1) hsz
  rw [← eT] at hk hM
  refine Gd.step hst (K _ hΦ T' ⟨vm0, k0, locs ++ locs2, X', hS, Nat.le_trans hk0 hk.1, hnar, fun y hy => ?_, fun hc y hy => ?_, by rw [hcs]; exact hlt, rfl, by rw [eZ] at bg ⊢; exact bg.nextN (ok.zv hS) X X' hk hM⟩)
  · rcases List.mem_append.mp hy with q | q
    · exact hL y q
    · rw [ok.ws_, ok.h_]; exact hl2 y q
  · rcases List.mem_append.mp hy with q | q
    · exact hcl (hc2 hc).1 y q
    · rw [ok.h_]; exact (hc2 hc).2 y q
/-- a step that moves no cell -/
theorem W.still (ok : Ok B l Z nar own nm code ml ret R h0 ws fr Q Me)
    (st : ∀ (T : State) (vm0 : Vm) (locs : List Loc), Stand B.p B.l B.e B.R (B.s.setVm vm0) B.m B.args B.below B.meth B.c T locs k n → Z.Warmed39 (B.s.setVm vm0).vm → (B.s.setVm vm0).vm.findClass own = some B.m.cls → T.heap = h → Ext Z.heap h →
      ∃ (T' : State), Stand B.p B.l B.e B.R (B.s.setVm vm0) B.m B.args B.below B.meth B.c T' locs k n ∧ T'.heap = h ∧ ∀ t, Steps B.p.tables B.e B.below (T'.setTop (mkF B.m pc' L' S')) t → Steps B.p.tables B.e B.below (T.setTop (mkF B.m pc L S)) t)
    (K : W B h k n M cl pc' L' S') : W B h k n M cl pc L S := by
  refine W.heap (Φ := fun h' => h' = h) ok (fun T vm0 locs X hz ho eT hE hsz => ?_) rfl (fun h' e => e ▸ K)
  obtain ⟨T', X', e', hst⟩ := st T vm0 locs X hz ho eT hE
  exact ⟨T', [], by rw [List.append_nil]; exact X', by rw [e']; exact Kept.refl _ _, fun _ q => (nomatch q), fun q => ⟨q, fun _ q => (nomatch q)⟩, fun x q => Or.inl q, e', hst⟩
theorem W.getF (ok : Ok B l Z nar own nm code ml ret R h0 ws fr Q Me) {idx : Nat} {R0 O f d : String} {a : Addr} {v : Value} (w : (Cond.fieldLink own idx R0 f d).before a0 Z = true) (via : Via Z R0 O f d) (F : Fld Z h a O f d v)
    (hd : decode code pc = .ok (.getfield idx, 3)) (hp : pc + 3 = pc') (K : W B h k n M cl pc' L (v :: S)) : W B h k n M cl pc L (.ref a :: S) := by
  subst hp
  refine W.still ok (fun T vm0 locs X hz ho eT _ => ?_) K
  exact RoadKit.getF X ok.x hz ho (host := "") (Or.inl w) via eT F (g := mkF B.m pc L (.ref a :: S)) rfl rfl (hb ok.by_ hd)
theorem W.getS (ok : Ok B l Z nar own nm code ml ret R h0 ws fr Q Me) {idx : Nat} {R0 O f d : String} {v : Value} (w : (Cond.fieldLink own idx R0 f d).before a0 Z = true) (via : Via Z R0 O f d) (F : Sta Z Z.heap O f d v)
    (hd : decode code pc = .ok (.getstatic idx, 3)) (hp : pc + 3 = pc') (K : W B h k n M cl pc' L (v :: S)) : W B h k n M cl pc L S := by
  subst hp
  refine W.still ok (fun T vm0 locs X hz ho eT hE => ?_) K
  exact RoadKit.getS X ok.x hz ho (host := "") w via eT (F.ext hE) (g := mkF B.m pc L S) rfl (hb ok.by_ hd)
theorem W.cast (ok : Ok B l Z nar own nm code ml ret R h0 ws fr Q Me) {idx : Nat} {C : String} {a : Addr} (w : (Cond.classLink own idx C).before a0 Z = true) (F : Ins Z h a C true)
    (hd : decode code pc = .ok (.checkcast idx, 3)) (hp : pc + 3 = pc') (K : W B h k n M cl pc' L (.ref a :: S)) : W B h k n M cl pc L (.ref a :: S) := by
  subst hp
  refine W.still ok (fun T vm0 locs X hz ho eT hE => ?_) K
  exact castY X ok.x hz ho w eT F (g := mkF B.m pc L (.ref a :: S)) rfl rfl (hb ok.by_ hd)
theorem W.instY (ok : Ok B l Z nar own nm code ml ret R h0 ws fr Q Me) {idx : Nat} {C : String} {a : Addr} (w : (Cond.classLink own idx C).before a0 Z = true) (F : Ins Z h a C true)
    (hd : decode code pc = .ok (.instanceof idx, 3)) (hp : pc + 3 = pc') (K : W B h k n M cl pc' L (.int 1 :: S)) : W B h k n M cl pc L (.ref a :: S) := by
  subst hp
  refine W.still ok (fun T vm0 locs X hz ho eT hE => ?_) K
  exact RoadKit.instY X ok.x hz ho w eT F (g := mkF B.m pc L (.ref a :: S)) rfl rfl (hb ok.by_ hd)
theorem W.instNull (ok : Ok B l Z nar own nm code ml ret R h0 ws fr Q Me) {idx : Nat} (hd : decode code pc = .ok (.instanceof idx, 3)) (hp : pc + 3 = pc') (K : W B h k n M cl pc' L (.int 0 :: S)) : W B h k n M cl pc L (.null :: S) := by
  subst hp
  refine W.still ok (fun T vm0 locs X hz ho eT hE => ⟨T, X, eT, fun t q => ?_⟩) K
  exact X.instanceofNull ok.x (g := mkF B.m pc L (.null :: S)) rfl rfl (hb ok.by_ hd) t q
theorem W.arraylength (ok : Ok B l Z nar own nm code ml ret R h0 ws fr Q Me) {a : Addr} {c : Cell} {ty : FieldType} (A : Arr Z h a c ty) (v : Int32) (hv : c.slots.size.toInt32 = v)
    (hd : decode code pc = .ok (.arraylength, 1)) (hp : pc + 1 = pc') (K : W B h k n M cl pc' L (.int v :: S)) : W B h k n M cl pc L (.ref a :: S) := by
  subst hp; subst hv
  refine W.still ok (fun T vm0 locs X hz ho eT hE => ⟨T, X, eT, fun t q => ?_⟩) K
  exact X.arraylength ok.x (by rw [eT]; exact A.1) (State.isArrayOf_alike hz.alike A.2.1) (g := mkF B.m pc L (.ref a :: S)) rfl rfl (hb ok.by_ hd) t q
theorem W.lenI (ok : Ok B l Z nar own nm code ml ret R h0 ws fr Q Me) {a : Addr} {cs : List Int32} {ty : FieldType} (A : ArI Z h a ty cs) (v : Int32) (hv : cs.length.toInt32 = v)
    (hd : decode code pc = .ok (.arraylength, 1)) (hp : pc + 1 = pc') (K : W B h k n M cl pc' L (.int v :: S)) : W B h k n M cl pc L (.ref a :: S) := by
  obtain ⟨c, A, e, -⟩ := A
  exact W.arraylength ok A v (by rw [e]; simpa using hv) hd hp K
theorem inb {c : Cell} {cs : List Int32} {j x : Int32} (e : c.slots = (cs.map Value.int).toArray) (h0 : ¬ j < 0) (hx : cs[j.toNatClampNeg]? = some x) : ¬ (j < 0 ∨ c.slots.size ≤ j.toNatClampNeg) := by
  rintro (q | q)
  · exact h0 q
  · have := (List.getElem?_eq_some_iff.mp hx).1
    rw [e] at q; simp at q; omega
theorem inbL {c : Cell} {cs : List Int32} {j : Int32} (e : c.slots = (cs.map Value.int).toArray) (h0 : ¬ j < 0) (hl : j.toNatClampNeg < cs.length) : ¬ (j < 0 ∨ c.slots.size ≤ j.toNatClampNeg) := by
  rintro (q | q)
  · exact h0 q
  · rw [e] at q; simp at q; omega
theorem W.caload (ok : Ok B l Z nar own nm code ml ret R h0 ws fr Q Me) {a : Addr} {cs : List Int32} {j : Int32} (A : ArI Z h a .char cs) (x : Int32) (hj : ¬ j < 0) (hx : cs[j.toNatClampNeg]? = some x)
    (hd : decode code pc = .ok (.caload, 1)) (hp : pc + 1 = pc') (K : W B h k n M cl pc' L (.int x :: S)) : W B h k n M cl pc L (.int j :: .ref a :: S) := by
  subst hp
  obtain ⟨c, A, e, -⟩ := A
  refine W.still ok (fun T vm0 locs X hz ho eT hE => ⟨T, X, eT, fun t q => ?_⟩) K
  exact X.caload ok.x (j := j) (v := .int x) (by rw [eT]; exact A.1) (State.isArrayOf_alike hz.alike A.2.1) A.2.2 (inb e hj hx) (by rw [e]; simp [hx]) (g := mkF B.m pc L (.int j :: .ref a :: S)) rfl rfl (hb ok.by_ hd) t q
theorem W.baload (ok : Ok B l Z nar own nm code ml ret R h0 ws fr Q Me) {a : Addr} {cs : List Int32} {j : Int32} (A : ArI Z h a .byte cs) (x : Int32) (hj : ¬ j < 0) (hx : cs[j.toNatClampNeg]? = some x)
    (hd : decode code pc = .ok (.baload, 1)) (hp : pc + 1 = pc') (K : W B h k n M cl pc' L (.int x :: S)) : W B h k n M cl pc L (.int j :: .ref a :: S) := by
  subst hp
  obtain ⟨c, A, e, -⟩ := A
  refine W.still ok (fun T vm0 locs X hz ho eT hE => ⟨T, X, eT, fun t q => ?_⟩) K
  exact X.baloadBytes ok.x (j := j) (v := .int x) (by rw [eT]; exact A.1) (State.isArrayOf_alike hz.alike A.2.1) A.2.2 (inb e hj hx) (by rw [e]; simp [hx]) (g := mkF B.m pc L (.int j :: .ref a :: S)) rfl rfl (hb ok.by_ hd) t q
/-- 'new C': the fields at their first values by D -/
theorem W.new (ok : Ok B l Z nar own nm code ml ret R h0 ws fr Q Me) {idx sz : Nat} {C : String} (w : (Cond.classLink own idx C).before a0 Z = true) (wi : (Cond.instantiable C sz).before a0 Z = true) (wz : (Cond.initialized C).before a0 Z = true)
    (hd : decode code pc = .ok (.new idx, 3)) (hp : pc + 3 = pc') (hc : k + 1 ≤ R.cells) (hn : n + sz ≤ R.slots)
    (K : ∀ (a : Addr) (h' : Heap), h0.size ≤ a → h.size = a → Ext h h' → Exa Z h' a C → (∀ {O f d : String} {ty : FieldType}, Laid Z a0 C O f d → parseFieldDescriptor d = some ty → Fld Z h' a O f d (defaultValue ty)) → Unt h' a → W B h' (k + 1) (n + sz) (a :: M) cl pc' L (.ref a :: S)) : W B h k n M cl pc L S := by
  subst hp
  refine W.heap (Φ := fun h' => h0.size ≤ h.size ∧ Ext h h' ∧ Exa Z h' h.size C ∧ (∀ {O f d : String} {ty : FieldType}, Laid Z a0 C O f d → parseFieldDescriptor d = some ty → Fld Z h' h.size O f d (defaultValue ty)) ∧ Unt h' h.size) (k' := k + 1) (n' := n + sz) (M' := h.size :: M) (cl' := cl) (L' := L) (S' := .ref h.size :: S) ok (fun T vm0 locs X hz ho eT hE hsz => ?_) rfl (fun h' ⟨p0, p1, p2, p3, p4⟩ => K _ h' p0 rfl p1 p2 p3 p4)
  have eR := ok.R_
  subst eR
  obtain ⟨T', h', X', e', E', A', D', U', st⟩ := newO X ok.x hz ho w wi wz eT (g := mkF B.m pc L S) rfl (hb ok.by_ hd) hc hn
  subst e'
  exact ⟨T', [], by rw [List.append_nil]; exact X', Kept.ext E', fun _ q => (nomatch q), fun q => ⟨q, fun _ q => (nomatch q)⟩, fun x q => (List.mem_cons.mp q).elim (fun q => Or.inr ⟨Nat.le_of_eq q.symm, q ▸ A'.lt⟩) Or.inl, ⟨hsz, E', A', D', U'⟩, st⟩
theorem W.newarray (ok : Ok B l Z nar own nm code ml ret R h0 ws fr Q Me) {aty : ArrayType} (w : (Cond.arrayClass (newarray.typeOf aty)).before a0 Z = true) {z : Int32} {cap : Nat} (hz0 : ¬ z < 0) (hcap : z.toNatClampNeg ≤ cap) (hb8 : cap * 8 ≤ 536870912)
    (hd : decode code pc = .ok (.newarray aty, 2)) (hp : pc + 2 = pc') (hc : k + 1 ≤ R.cells) (hn : n + cap ≤ R.slots)
    (K : ∀ (a : Addr) (h' : Heap) (cA : ClassId), h0.size ≤ a → h.size = a → Ext h h' → Arr Z h' a (newA cA (newarray.typeOf aty) z) (newarray.typeOf aty) → W B h' (k + 1) (n + cap) (a :: M) cl pc' L (.ref a :: S)) : W B h k n M cl pc L (.int z :: S) := by
  subst hp
  refine W.heap (Φ := fun h' => h0.size ≤ h.size ∧ Ext h h' ∧ ∃ cA, Arr Z h' h.size (newA cA (newarray.typeOf aty) z) (newarray.typeOf aty)) (k' := k + 1) (n' := n + cap) (M' := h.size :: M) (cl' := cl) (L' := L) (S' := .ref h.size :: S) ok (fun T vm0 locs X hz ho eT hE hsz => ?_) rfl (fun h' ⟨p0, p1, cA, p2⟩ => K _ h' cA p0 rfl p1 p2)
  have eR := ok.R_
  subst eR
  obtain ⟨T', h', cA, X', e', E', A', st⟩ := newP X ok.x hz w eT (g := mkF B.m pc L (.int z :: S)) rfl (hb ok.by_ hd) rfl hz0 hcap hb8 hc hn
  subst e'
  exact ⟨T', [], by rw [List.append_nil]; exact X', Kept.ext E', fun _ q => (nomatch q), fun q => ⟨q, fun _ q => (nomatch q)⟩, fun x q => (List.mem_cons.mp q).elim (fun q => Or.inr ⟨Nat.le_of_eq q.symm, q ▸ A'.lt⟩) Or.inl, ⟨hsz, E', cA, A'⟩, st⟩
theorem W.newC (ok : Ok B l Z nar own nm code ml ret R h0 ws fr Q Me) (w : (Cond.arrayClass .char).before a0 Z = true) {z : Int32} {cap : Nat} (hz0 : ¬ z < 0) (hcap : z.toNatClampNeg ≤ cap) (hb8 : cap * 8 ≤ 536870912)
    (hd : decode code pc = .ok (.newarray .char, 2)) (hp : pc + 2 = pc') (hc : k + 1 ≤ R.cells) (hn : n + cap ≤ R.slots)
    (K : ∀ (a : Addr) (h' : Heap), h0.size ≤ a → h.size = a → Ext h h' → ArI Z h' a .char (List.replicate z.toNatClampNeg 0) → W B h' (k + 1) (n + cap) (a :: M) cl pc' L (.ref a :: S)) : W B h k n M cl pc L (.int z :: S) :=
  W.newarray ok (aty := .char) w hz0 hcap hb8 hd hp hc hn fun a h' cA p0 p1 p2 p3 => K a h' p0 p1 p2 (ArI.new p3 rfl rfl)
theorem W.newB (ok : Ok B l Z nar own nm code ml ret R h0 ws fr Q Me) (w : (Cond.arrayClass .byte).before a0 Z = true) {z : Int32} {cap : Nat} (hz0 : ¬ z < 0) (hcap : z.toNatClampNeg ≤ cap) (hb8 : cap * 8 ≤ 536870912)
    (hd : decode code pc = .ok (.newarray .byte, 2)) (hp : pc + 2 = pc') (hc : k + 1 ≤ R.cells) (hn : n + cap ≤ R.slots)
    (K : ∀ (a : Addr) (h' : Heap), h0.size ≤ a → h.size = a → Ext h h' → ArI Z h' a .byte (List.replicate z.toNatClampNeg 0) → W B h' (k + 1) (n + cap) (a :: M) cl pc' L (.ref a :: S)) : W B h k n M cl pc L (.int z :: S) :=
  W.newarray ok (aty := .byte) w hz0 hcap hb8 hd hp hc hn fun a h' cA p0 p1 p2 p3 => K a h' p0 p1 p2 (ArI.new p3 rfl rfl)
/-- a store into an array that is still to be written: hold: cl' says whether old cells are untouched behind it -/
theorem W.castore (ok : Ok B l Z nar own nm code ml ret R h0 ws fr Q Me) {a : Addr} {cs : List Int32} {j x : Int32} {cl' : Cl} (A : ArI Z h a .char cs) (hj : ¬ j < 0) (hl : j.toNatClampNeg < cs.length) (ha : a ∈ M) (hw : a ∈ ws ∨ h0.size ≤ a) (hcl : cl'.1 = true → cl.1 = true ∧ h0.size ≤ a) (hcs : cl'.2 = cl.2)
    (hd : decode code pc = .ok (.castore, 1)) (hp : pc + 1 = pc') (K : ∀ h' : Heap, Wr h h' a j.toNatClampNeg (.int (c16 x)) → ArI Z h' a .char (cs.set j.toNatClampNeg (c16 x)) → W B h' k n M cl' pc' L S) : W B h k n M cl pc L (.int x :: .int j :: .ref a :: S) := by
  subst hp
  refine W.heap (Φ := fun h' => Wr h h' a j.toNatClampNeg (.int (c16 x))) (k' := k) (n' := n) (M' := M) (cl' := cl') (L' := L) (S' := S) ok (fun T vm0 locs X hz ho eT hE hsz => ?_) hcs (fun h' q => K h' q (A.set q (fits_nar_char x)))
  obtain ⟨c, A1, e, r⟩ := A
  obtain ⟨T', h', X', e', W', st⟩ := stC X ok.x hz eT A1 (j := j) (x := x) (inbL e hj hl) (g := mkF B.m pc L (.int x :: .int j :: .ref a :: S)) rfl rfl (hb ok.by_ hd)
  subst e'
  exact ⟨T', _, X', Kept.wr W' ha, fun y hy => by cases List.mem_singleton.mp hy; exact hw, fun q => ⟨(hcl q).1, fun y hy => by cases List.mem_singleton.mp hy; exact (hcl q).2⟩, fun x q => Or.inl q, W', st⟩
theorem W.bastore (ok : Ok B l Z nar own nm code ml ret R h0 ws fr Q Me) {a : Addr} {cs : List Int32} {j x : Int32} {cl' : Cl} (A : ArI Z h a .byte cs) (hj : ¬ j < 0) (hl : j.toNatClampNeg < cs.length) (ha : a ∈ M) (hw : a ∈ ws ∨ h0.size ≤ a) (hcl : cl'.1 = true → cl.1 = true ∧ h0.size ≤ a) (hcs : cl'.2 = cl.2)
    (hd : decode code pc = .ok (.bastore, 1)) (hp : pc + 1 = pc') (K : ∀ h' : Heap, Wr h h' a j.toNatClampNeg (.int (b8 x)) → ArI Z h' a .byte (cs.set j.toNatClampNeg (b8 x)) → W B h' k n M cl' pc' L S) : W B h k n M cl pc L (.int x :: .int j :: .ref a :: S) := by
  subst hp
  refine W.heap (Φ := fun h' => Wr h h' a j.toNatClampNeg (.int (b8 x))) (k' := k) (n' := n) (M' := M) (cl' := cl') (L' := L) (S' := S) ok (fun T vm0 locs X hz ho eT hE hsz => ?_) hcs (fun h' q => K h' q (A.set q (fits_nar_byte x)))
  obtain ⟨c, A1, e, r⟩ := A
  obtain ⟨T', h', X', e', W', st⟩ := stB X ok.x hz eT A1 (j := j) (x := x) (inbL e hj hl) (g := mkF B.m pc L (.int x :: .int j :: .ref a :: S)) rfl rfl (hb ok.by_ hd)
  subst e'
  exact ⟨T', _, X', Kept.wr W' ha, fun y hy => by cases List.mem_singleton.mp hy; exact hw, fun q => ⟨(hcl q).1, fun y hy => by cases List.mem_singleton.mp hy; exact (hcl q).2⟩, fun x q => Or.inl q, W', st⟩
theorem W.putF (ok : Ok B l Z nar own nm code ml ret R h0 ws fr Q Me) {idx kk : Nat} {R0 O f d C : String} {ty : FieldType} {a : Addr} {v v0 : Value} {cl' : Cl} (w : (Cond.fieldLink own idx R0 f d).before a0 Z = true) (via : Via Z R0 O f d) (F : Fld Z h a O f d v0) (E : Exa Z h a C)
    (La : (Cond.lays C O f d).before a0 Z = true ∨ ((Cond.laysFinal C O f d).before a0 Z = true ∧ own = O ∧ nm = "<init>")) (wi : (Cond.instantiable C kk).before a0 Z = true) (hty : parseFieldDescriptor d = some ty) (hnr : narrow ty v = v) (hf : fits ty v = true)
    (ha : a ∈ M) (hw : a ∈ ws ∨ h0.size ≤ a) (hcl : cl'.1 = true → cl.1 = true ∧ h0.size ≤ a) (hcs : cl'.2 = cl.2)
    (hd : decode code pc = .ok (.putfield idx, 3)) (hp : pc + 3 = pc') (K : ∀ h' : Heap, Wr h h' a (RoadKit.slotOf Z O f d) v → W B h' k n M cl' pc' L S) : W B h k n M cl pc L (v :: .ref a :: S) := by
  subst hp
  refine W.heap (Φ := fun h' => Wr h h' a (RoadKit.slotOf Z O f d) v) (k' := k) (n' := n) (M' := M) (cl' := cl') (L' := L) (S' := S) ok (fun T vm0 locs X hz ho eT hE hsz => ?_) hcs (fun h' q => K h' q)
  obtain ⟨T', h', X', e', W', st⟩ := RoadKit.putF X ok.x hz ho (host := "") (Or.inl w) via eT F E (La.imp id fun q => ⟨q.1, q.2.1, ok.nm_.trans q.2.2⟩) wi hty hnr hf (g := mkF B.m pc L (v :: .ref a :: S)) rfl rfl (hb ok.by_ hd)
  subst e'
  exact ⟨T', _, X', Kept.wr W' ha, fun y hy => by cases List.mem_singleton.mp hy; exact hw, fun q => ⟨(hcl q).1, fun y hy => by cases List.mem_singleton.mp hy; exact (hcl q).2⟩, fun x q => Or.inl q, W', st⟩
theorem W.initO (ok : Ok B l Z nar own nm code ml ret R h0 ws fr Q Me) {idx : Nat} {a : Addr} (w1 : (Cond.methodLink own idx Lib.objectInit).before a0 Z = true) (w2 : (Cond.instanceMethod Lib.objectInit).before a0 Z = true) (w3 : (Cond.code Lib.objectInit ⟨#[0xb1]⟩ 1 none).before a0 Z = true)
    (hL : L.size = ml) (hfr : 1 ≤ R.frames) (hlo : (S.map fun v => v.category).sum + 12 ≤ R.locals) (hd : decode code pc = .ok (.invokespecial idx, 3)) (hp : pc + 3 = pc') (K : W B h k n M cl pc' L S) : W B h k n M cl pc L (.ref a :: S) := by
  subst hp
  refine W.still ok (fun T vm0 locs X hz ho eT hE => ?_) K
  have eR := ok.R_
  subst eR
  exact RoadKit.initO X ok.x hz ho w1 w2 w3 eT (g := mkF B.m pc L (.ref a :: S)) rfl (by rw [ok.ml_]; exact hL) rfl (hb ok.by_ hd) hfr (W := (S.map fun v => v.category).sum) (by show 2 * 0 + _ ≤ _; omega) hlo
theorem W.ldcI (ok : Ok B l Z nar own nm code ml ret R h0 ws fr Q Me) {idx : Nat} {v : Int32} (w : (Cond.constant own idx v).before a0 Z = true) (hd : decode code pc = .ok (.ldc idx, 2)) (hp : pc + 2 = pc') (K : W B h k n M cl pc' L (.int v :: S)) : W B h k n M cl pc L S := by
  subst hp
  refine W.still ok (fun T vm0 locs X hz ho eT hE => ⟨T, X, eT, fun t q => ?_⟩) K
  exact X.ldcI ok.x ho (mv hz w) (g := mkF B.m pc L S) rfl (hb ok.by_ hd) q
theorem W.ldc2J (ok : Ok B l Z nar own nm code ml ret R h0 ws fr Q Me) {idx : Nat} {v : Int64} (w : (Cond.constantLong own idx v).before a0 Z = true) (hd : decode code pc = .ok (.ldc2_w idx, 3)) (hp : pc + 3 = pc') (K : W B h k n M cl pc' L (.long v :: S)) : W B h k n M cl pc L S := by
  subst hp
  refine W.still ok (fun T vm0 locs X hz ho eT hE => ⟨T, X, eT, fun t q => ?_⟩) K
  exact X.ldc2J ok.x ho (mv hz w) (g := mkF B.m pc L S) rfl (hb ok.by_ hd) q
/-! ### the end -/
theorem keep_of {p : Program} {l : Launch} {e : Env} {R : Room} {s : State} {m : MethodId} {args : Array Value} {below : List Frame} {meth : Method} {c : Code} {T : State} {locs : List Loc} {k n : Nat} {ws : List Addr}
    (X : Stand p l e R s m args below meth c T locs k n) (hL : ∀ y ∈ locs, y.base ∈ ws ∨ s.heap.size ≤ y.base) : Keep s.heap T.heap ws := by
  refine ⟨X.same.2.1, fun b c hb hn => ?_, fun b c hb => ?_⟩
  · obtain ⟨c', h1, h2, -, h4⟩ := X.same.2.2.2.2.2 b c hb
    have hlt := (Array.getElem?_eq_some_iff.mp hb).1
    have hsl : c'.slots = c.slots := Array.ext_getElem? fun i => h4 i fun hm => (hL _ hm).elim hn fun q => absurd hlt (Nat.not_lt.mpr q)
    have hcc : c' = c := by rw [h2, hsl]
    rw [← hcc]; exact h1
  · obtain ⟨c', h1, h2, h3, -⟩ := X.same.2.2.2.2.2 b c hb
    exact ⟨c', h1, by rw [h2], by rw [h2], h3⟩
theorem W.end_ (ok : Ok B l Z nar own nm code ml ret R h0 ws fr Q Me) {v : Option Value} (hv : ret = none → v = none) (hk : k ≤ R.cells) (hn : n ≤ R.slots) {N : List Addr} (hM : ∀ x ∈ N ++ Me, x ∈ M) (hQ : Keep h0 h ws → Q N v h)
    (st : ∀ (T : State) (vm0 : Vm) (locs : List Loc) (fs : List Frame), Stand B.p B.l B.e B.R (B.s.setVm vm0) B.m B.args B.below B.meth B.c T locs k n → (∀ (f : JFrame) (acts : List Action), f.method = B.m → f.locked = none → f.entered = [] → (doReturn B.e (T.setTop f) acts v).1 = T.setFrames fs) → Steps B.p.tables B.e B.below (T.setTop (mkF B.m pc L S)) (T.setFrames fs)) : W B h k n M cl pc L S := by
  intro T P
  obtain ⟨vm0, k0, locs, X, hS, hk0, hnar, hL, hcl, hlt, eT, bg⟩ := P
  obtain ⟨fs, hr, hrun, hend, hW⟩ := X.leaveW hS hk0 (v := v) (fun q => hv (ok.ret_ ▸ q)) ok.lk
  have kp : Keep B.s.heap T.heap B.ws := keep_of (s := B.s.setVm vm0) X hL
  refine ⟨_, _, st T vm0 locs fs X hr, hrun, hend, v, locs, N, rfl, ?_, kp, ?_, hL, ⟨hW.1, hW.2.1, hW.2.2.1, hW.2.2.2.mono (by rw [ok.R_]; exact hk) (by rw [ok.R_]; exact hn)⟩, fun q => ?_⟩
  · rw [ok.Q_]
    show Q N v T.heap
    rw [eT]
    rw [ok.h_, ok.ws_, eT] at kp
    exact hQ kp
  · rw [ok.Me_]
    exact (bg.shrink hM).move (U' := T.setFrames fs) bg.1 rfl (Kept.refl _ _)
  · exact State.WarmedH.trans (t := B.s.setVm vm0) (hnar q) X.warmed
theorem W.retW (ok : Ok B l Z nar own nm code ml ret R h0 ws fr Q Me) {w : Value} {t : FieldType} {i : Instr} (hret : ret = some t) (hd : decode code pc = .ok (i, 1)) (hnw : narrow t w = w)
    (hi : (i = .ireturn ∧ (t = .int ∨ t = .boolean ∨ t = .byte ∨ t = .char ∨ t = .short) ∧ ∃ z, w = .int z) ∨ (i = .lreturn ∧ t = .long ∧ ∃ z, w = .long z) ∨ (i = .dreturn ∧ t = .double ∧ ∃ z, w = .double z) ∨ (i = .freturn ∧ t = .float ∧ ∃ z, w = .float z) ∨ (i = .areturn ∧ t.isReference = true ∧ w.isRef = true))
    (hk : k ≤ R.cells) (hn : n ≤ R.slots) {N : List Addr} (hM : ∀ x ∈ N ++ Me, x ∈ M) (hQ : Keep h0 h ws → Q N (some w) h) : W B h k n M cl pc L (w :: S) :=
  W.end_ ok (fun q => by rw [hret] at q; cases q) hk hn hM hQ fun T vm0 locs fs X hr => retOut X ok.x (ok.ret_.trans hret) hnw hi (hb ok.by_ hd) hr
theorem W.retI {Q0 : Option Value → Heap → Prop} (ok : Ok B l Z nar own nm code ml (some .int) R h0 ws fr (OldQ fr Q0) Me) {z : Int32} (hd : decode code pc = .ok (.ireturn, 1)) (hk : k ≤ R.cells) (hn : n ≤ R.slots) (hM : ∀ x ∈ Me, x ∈ M) (hQ : Keep h0 h ws → Q0 (some (.int z)) h) : W B h k n M cl pc L (.int z :: S) :=
  W.retW ok rfl hd rfl (Or.inl ⟨rfl, Or.inl rfl, z, rfl⟩) hk hn (N := refs fr _) (by cases fr <;> exact hM) (fun q => ⟨rfl, hQ q⟩)
theorem W.retZ {Q0 : Option Value → Heap → Prop} (ok : Ok B l Z nar own nm code ml (some .boolean) R h0 ws fr (OldQ fr Q0) Me) {z : Int32} (hd : decode code pc = .ok (.ireturn, 1)) (hz : z &&& 1 = z) (hk : k ≤ R.cells) (hn : n ≤ R.slots) (hM : ∀ x ∈ Me, x ∈ M) (hQ : Keep h0 h ws → Q0 (some (.int z)) h) : W B h k n M cl pc L (.int z :: S) :=
  W.retW ok rfl hd (by show Value.int (z &&& 1) = _; rw [hz]) (Or.inl ⟨rfl, Or.inr (Or.inl rfl), z, rfl⟩) hk hn (N := refs fr _) (by cases fr <;> exact hM) (fun q => ⟨rfl, hQ q⟩)
theorem W.retB {Q0 : Option Value → Heap → Prop} (ok : Ok B l Z nar own nm code ml (some .byte) R h0 ws fr (OldQ fr Q0) Me) {z : Int32} (hd : decode code pc = .ok (.ireturn, 1)) (hz : b8 z = z) (hk : k ≤ R.cells) (hn : n ≤ R.slots) (hM : ∀ x ∈ Me, x ∈ M) (hQ : Keep h0 h ws → Q0 (some (.int z)) h) : W B h k n M cl pc L (.int z :: S) :=
  W.retW ok rfl hd (by show Value.int (b8 z) = _; rw [hz]) (Or.inl ⟨rfl, Or.inr (Or.inr (Or.inl rfl)), z, rfl⟩) hk hn (N := refs fr _) (by cases fr <;> exact hM) (fun q => ⟨rfl, hQ q⟩)
theorem W.retC {Q0 : Option Value → Heap → Prop} (ok : Ok B l Z nar own nm code ml (some .char) R h0 ws fr (OldQ fr Q0) Me) {z : Int32} (hd : decode code pc = .ok (.ireturn, 1)) (hz : c16 z = z) (hk : k ≤ R.cells) (hn : n ≤ R.slots) (hM : ∀ x ∈ Me, x ∈ M) (hQ : Keep h0 h ws → Q0 (some (.int z)) h) : W B h k n M cl pc L (.int z :: S) :=
  W.retW ok rfl hd (by show Value.int (c16 z) = _; rw [hz]) (Or.inl ⟨rfl, Or.inr (Or.inr (Or.inr (Or.inl rfl))), z, rfl⟩) hk hn (N := refs fr _) (by cases fr <;> exact hM) (fun q => ⟨rfl, hQ q⟩)
theorem W.retA {Q0 : Option Value → Heap → Prop} {t : FieldType} (ok : Ok B l Z nar own nm code ml (some t) R h0 ws fr (OldQ fr Q0) Me) {w : Value} (hd : decode code pc = .ok (.areturn, 1)) (ht : t.isReference = true) (hw : w.isRef = true) (hk : k ≤ R.cells) (hn : n ≤ R.slots) (hM : ∀ x ∈ refs fr (some w) ++ Me, x ∈ M) (hQ : Keep h0 h ws → Q0 (some w) h) : W B h k n M cl pc L (w :: S) :=
  W.retW ok rfl hd (by cases w <;> simp [Value.isRef] at hw <;> cases t <;> simp [FieldType.isReference] at ht <;> rfl) (Or.inr (Or.inr (Or.inr (Or.inr ⟨rfl, ht, hw⟩)))) hk hn (N := refs fr _) hM (fun q => ⟨rfl, hQ q⟩)
theorem W.retV {Q0 : Option Value → Heap → Prop} (ok : Ok B l Z nar own nm code ml none R h0 ws fr (OldQ fr Q0) Me) (hd : decode code pc = .ok (.return_, 1)) (hk : k ≤ R.cells) (hn : n ≤ R.slots) (hM : ∀ x ∈ Me, x ∈ M) (hQ : Keep h0 h ws → Q0 none h) : W B h k n M cl pc L [] :=
  W.end_ ok (fun _ => rfl) hk hn (N := refs fr _) (by cases fr <;> exact hM) (fun q => ⟨rfl, hQ q⟩) fun T vm0 locs fs X hr => X.returnOut ok.x ok.ret_ (hb ok.by_ hd) hr
/-- the wide ends: N, what is made and may still be written -/
theorem W.retAN {t : FieldType} (ok : Ok B l Z nar own nm code ml (some t) R h0 ws fr Q Me) {w : Value} (N : List Addr) (hd : decode code pc = .ok (.areturn, 1)) (ht : t.isReference = true) (hw : w.isRef = true) (hk : k ≤ R.cells) (hn : n ≤ R.slots) (hM : ∀ x ∈ N ++ Me, x ∈ M) (hQ : Keep h0 h ws → Q N (some w) h) : W B h k n M cl pc L (w :: S) :=
  W.retW ok rfl hd (by cases w <;> simp [Value.isRef] at hw <;> cases t <;> simp [FieldType.isReference] at ht <;> rfl) (Or.inr (Or.inr (Or.inr (Or.inr ⟨rfl, ht, hw⟩)))) hk hn hM hQ
theorem W.retVN (ok : Ok B l Z nar own nm code ml none R h0 ws fr Q Me) (N : List Addr) (hd : decode code pc = .ok (.return_, 1)) (hk : k ≤ R.cells) (hn : n ≤ R.slots) (hM : ∀ x ∈ N ++ Me, x ∈ M) (hQ : Keep h0 h ws → Q N none h) : W B h k n M cl pc L [] :=
  W.end_ ok (fun _ => rfl) hk hn hM hQ fun T vm0 locs fs X hr => X.returnOut ok.x ok.ret_ (hb ok.by_ hd) hr
end Heap
end Jvm.Pilot.@@N@@.Wk
namespace Jvm.Pilot.@@N@@.Wk
open Jvm Jvm.ClassFile Sem Op Lib Jvm.Free Jvm.Stand Jvm.LawKit Jvm.RoadKit Bundle
/-! ### a method's contract, and how a call spends it -/
def Con2 (l : Launch) (Z : State) (nar : Bool) (y : MethodName) (bytes : ByteArray) (maxL : Nat) (ret : Option FieldType) (rm : Room) (as' : List Value) (h : Heap) (ws : List Addr) (Q : List Addr → List Addr → Option Value → Heap → Prop) : Prop :=
  ∀ (ws0 : List Jvm.Cond) (M : List Addr), (∀ w ∈ ws, w ∈ M) → MetFree l y (head1 (Jvm.Cond.code y bytes maxL ret :: ws0) rm) (fun a U => a = as'.toArray ∧ U.heap = h ∧ Bg Z M U) (fun _ _ _ _ _ => True)
    (fun _ U o U' => ∃ v Lc N, o = .returned v ∧ Q M N v U'.heap ∧ Keep h U'.heap ws ∧ Bg Z (N ++ M) U' ∧ (∀ y ∈ Lc, y.base ∈ ws ∨ h.size ≤ y.base) ∧ ReturnedEndW U o U' Lc rm.cells rm.slots ∧ (nar = true → U.WarmedH U'.vm))
/-- a plain contract -/
def Con (l : Launch) (Z : State) (nar : Bool) (y : MethodName) (bytes : ByteArray) (maxL : Nat) (ret : Option FieldType) (rm : Room) (as' : List Value) (h : Heap) (ws : List Addr) (fr : Bool) (Q : List Addr → Option Value → Heap → Prop) : Prop := Con2 l Z nar y bytes maxL ret rm as' h ws (fun M => OldQ fr (Q M))
theorem ef_of {m : MethodId} {as' : List Value} {n : Nat} {Ls : Array Slot} (h : Jvm.Sym.laidSlots as' ++ List.replicate (n - (Jvm.Sym.laidSlots as').length) .unset = Ls.toList) : entryFrame m as'.toArray n = mkF m 0 Ls [] := by
  have e : argsToLocals as'.toArray n = Ls := Array.toList_inj.mp (by rw [Jvm.Sym.argsToLocals_toList]; exact h)
  exact (rfl : entryFrame m as'.toArray n = mkF m 0 (argsToLocals as'.toArray n) []).trans (congrArg (fun L => mkF m 0 L []) e)
theorem Con2.intro {l : Launch} {Z : State} {nar : Bool} {y : MethodName} {bytes : ByteArray} {maxL : Nat} {ret : Option FieldType} {rm : Room} {as' : List Value} {h : Heap} {ws : List Addr} {Q : List Addr → List Addr → Option Value → Heap → Prop} {L0 : Array Slot}
    (hpl : plainFor y = true) (hef : ∀ m, entryFrame m as'.toArray maxL = mkF m 0 L0 []) (body : ∀ (B : Cx) (M : List Addr), (∀ w ∈ ws, w ∈ M) → Ok B l Z nar y.cls y.name bytes maxL ret rm h ws false (Q M) M → W B h 0 0 M (true, []) 0 L0 []) : Con2 l Z nar y bytes maxL ret rm as' h ws Q := by
  intro ws0 M hM
  refine MetFree.of_bodySF hpl hisR ?_
  intro p e s m args below meth c s₁ Bd hml hP hK
  obtain ⟨rfl, hh, bg⟩ := hP
  have X : Stand p l e rm s m as'.toArray below meth c s₁ [] 0 0 := Stand.of_body Bd
  obtain ⟨t, o, g1, g2, g3, v, Lc, N, g4, g5, g6, g7, g8, g9, g10⟩ := body (p, l, e, rm, s, m, as'.toArray, below, meth, c, Z, nar, ws, M, false, Q M) M hM
    ⟨Bd.exec, Bd.bytes, hml, findClass_of_methodNamed Bd.named, (name_of_methodNamed Bd.named Bd.method).1, Bd.returns, Bd.notSynchronized, bg.1, rfl, rfl, rfl, rfl, rfl, rfl, rfl, rfl, hh⟩ s₁
    ⟨s.vm, s.heap.size, [], by rw [State.setVm_self]; exact X, (State.WarmedH.refl s).since _, by rw [Bd.state]; exact Nat.le_refl _, fun _ => State.WarmedH.refl s, fun _ q => (nomatch q), fun _ _ q => (nomatch q), fun _ q => (nomatch q), by rw [Bd.state]; exact hh, by rw [Bd.state]; exact bg.move bg.1 rfl (Kept.refl _ _)⟩
  refine ⟨t, o, by rw [hef]; exact g1, g2, g3, v, Lc, N, g4, g5, ?_, g7, ?_, g9, g10⟩
  · rw [← hh]; exact g6
  · rw [← hh]; exact g8
theorem Con.intro {l : Launch} {Z : State} {nar : Bool} {y : MethodName} {bytes : ByteArray} {maxL : Nat} {ret : Option FieldType} {rm : Room} {as' : List Value} {h : Heap} {ws : List Addr} {fr : Bool} {Q : List Addr → Option Value → Heap → Prop} {L0 : Array Slot}
    (hpl : plainFor y = true) (hef : ∀ m, entryFrame m as'.toArray maxL = mkF m 0 L0 []) (body : ∀ (B : Cx) (M : List Addr), (∀ w ∈ ws, w ∈ M) → Ok B l Z nar y.cls y.name bytes maxL ret rm h ws fr (OldQ fr (Q M)) M → W B h 0 0 M (true, []) 0 L0 []) : Con l Z nar y bytes maxL ret rm as' h ws fr Q :=
  Con2.intro hpl hef fun B M hM ok => body (B.1, B.2.1, B.2.2.1, B.2.2.2.1, B.2.2.2.2.1, B.2.2.2.2.2.1, B.2.2.2.2.2.2.1, B.2.2.2.2.2.2.2.1, B.2.2.2.2.2.2.2.2.1, B.2.2.2.2.2.2.2.2.2.1, B.2.2.2.2.2.2.2.2.2.2.1, B.2.2.2.2.2.2.2.2.2.2.2.1, B.2.2.2.2.2.2.2.2.2.2.2.2.1, B.2.2.2.2.2.2.2.2.2.2.2.2.2.1, fr, B.2.2.2.2.2.2.2.2.2.2.2.2.2.2.2) M hM ⟨ok.1, ok.2.1, ok.2.2.1, ok.2.2.2.1, ok.2.2.2.2.1, ok.2.2.2.2.2.1, ok.2.2.2.2.2.2.1, ok.2.2.2.2.2.2.2.1, ok.2.2.2.2.2.2.2.2.1, ok.2.2.2.2.2.2.2.2.2.1, ok.2.2.2.2.2.2.2.2.2.2.1, ok.2.2.2.2.2.2.2.2.2.2.2.1, ok.2.2.2.2.2.2.2.2.2.2.2.2.1, ok.2.2.2.2.2.2.2.2.2.2.2.2.2.1, rfl, ok.2.2.2.2.2.2.2.2.2.2.2.2.2.2.2.1, ok.2.2.2.2.2.2.2.2.2.2.2.2.2.2.2.2⟩
theorem Con2.back {l : Launch} {Z : State} {nar : Bool} {y : MethodName} {bytes : ByteArray} {maxL : Nat} {ret : Option FieldType} {rm : Room} {as' : List Value} {h : Heap} {ws : List Addr} {Q : List Addr → List Addr → Option Value → Heap → Prop} {M : List Addr} {a0 : Array Value}
    (C : Con2 l Z nar y bytes maxL ret rm as' h ws Q) (hM : ∀ w ∈ ws, w ∈ M) {p : Program} {e : Env} {below : List Frame} {s : State} {args : Array Value} {R : Room} {len Wd : Nat} (hZ : Z.Warmed39 s.vm)
    (wc : (Jvm.Cond.code y bytes maxL ret).before a0 Z = true) (wz : (Jvm.Cond.initialized y.cls).before a0 Z = true) (hf : rm.frames + 1 ≤ R.frames) (hl : Wd + (maxL + 11) + rm.locals ≤ R.locals) :
    BackS l R p e below s args y len Wd (fun A a => a = as'.toArray ∧ A.U.heap = h ∧ Bg Z M A.U ∧ A.cells + rm.cells ≤ R.cells ∧ A.slots + rm.slots ≤ R.slots)
      (fun A _ v B => ∃ Lc N, Q M N v B.U.heap ∧ Keep h B.U.heap ws ∧ Bg Z (N ++ M) B.U ∧ (∀ y ∈ Lc, y.base ∈ ws ∨ h.size ≤ y.base) ∧ B.locs = A.locs ++ Lc ∧ B.cells = A.cells + rm.cells ∧ B.slots = A.slots + rm.slots ∧ (nar = true → A.U.WarmedH B.U.vm)) :=
  BackS.of_freeW (bytes := bytes) (maxL := maxL) (ret := ret) (E := fun _ U o t Lc k n => k = rm.cells ∧ n = rm.slots ∧ ∃ v N, o = .returned v ∧ Q M N v t.heap ∧ Keep h t.heap ws ∧ Bg Z (N ++ M) t ∧ (∀ y ∈ Lc, y.base ∈ ws ∨ h.size ≤ y.base) ∧ (nar = true → U.WarmedH t.vm)) (C [] M hM) hf hl
    (fun m meth c A a Y hp => have hU : Z.Warmed39 A.U.vm := wtrans hZ Y.warmed
      ⟨by show (Jvm.Cond.and _ .tt).before a A.U = true; rw [Cond.before_and, mv hU wc]; rfl, mv hU wc, mv hU wz, hp.2.2.2.1, hp.2.2.2.2⟩)
    (fun m meth c A a g mk Y hp => ⟨hp.1, hp.2.1, hp.2.2.1.move (U' := A.U.calling g mk a) hp.2.2.1.1 rfl (Kept.refl _ _)⟩) (fun _ _ _ _ _ _ _ _ _ => trivial)
    (fun _ _ _ _ ⟨v, Lc, N, h1, h2, h3, h4, h5, h6, h7⟩ => ⟨Lc, _, _, h6, rfl, rfl, v, N, h1, h2, h3, h4, h5, h7⟩)
    (fun m meth c A a g mk v t Lc k n Y hp _ _ ⟨e1, e2, v', N, e3, e4, e5, e6, e7, e8⟩ => by
      cases e3; subst e1 e2
      exact ⟨Lc, N, e4, e5, e6.move (U' := ({ A.U with heap := t.heap, slotsUsed := t.slotsUsed } : State).setVm t.vm) e6.1 rfl (Kept.refl _ _), e7, rfl, rfl, rfl, e8⟩)
section Calls
variable {B : Cx} {l : Launch} {Z : State} {nar : Bool} {own nm : String} {code : ByteArray} {ml : Nat} {ret : Option FieldType} {R : Room} {h0 : Heap} {ws : List Addr} {fr : Bool} {Q : List Addr → Option Value → Heap → Prop} {Me : List Addr}
variable {h : Heap} {k n : Nat} {M : List Addr} {cl : Cl} {pc pc' : Nat} {L : Array Slot} {S : List Value} {a0 : Array Value}
variable {idx : Nat} {y : MethodName} {bytes : ByteArray} {maxL : Nat} {ret' : Option FieldType} {rm' : Room} {as' rest : List Value} {ws' : List Addr} {Q' : List Addr → List Addr → Option Value → Heap → Prop} {ps : List FieldType} {r : Option FieldType} {cl' : Cl}
theorem W.call {len : Nat} (ok : Ok B l Z nar own nm code ml ret R h0 ws fr Q Me) (wc : (Jvm.Cond.code y bytes maxL ret').before a0 Z = true) (wz : (Jvm.Cond.initialized y.cls).before a0 Z = true) (C : Con2 l Z nar y bytes maxL ret' rm' as' h ws' Q')
    (hws : ∀ w ∈ ws', w ∈ M ∧ (w ∈ ws ∨ h0.size ≤ w)) (hcl : cl'.1 = true → cl.1 = true ∧ ∀ w ∈ ws', h0.size ≤ w) (hcs : cl'.2 = cl.2) (hf : rm'.frames + 1 ≤ R.frames) (hlo : (rest.map fun v => v.category).sum + (maxL + 11) + rm'.locals ≤ R.locals) (hcc : k + rm'.cells ≤ R.cells) (hnn : n + rm'.slots ≤ R.slots)
    (core : ∀ (T : State) (vm0 : Vm) (locs : List Loc), Stand B.p B.l B.e B.R (B.s.setVm vm0) B.m B.args B.below B.meth B.c T locs k n → Z.Warmed39 (B.s.setVm vm0).vm → (B.s.setVm vm0).vm.findClass own = some B.m.cls → T.heap = h →
      ∀ {Pre : Pt → Array Value → Prop} {Post : Pt → Array Value → Option Value → Pt → Prop}, BackS B.l B.R B.p B.e B.below (B.s.setVm vm0) B.args y len (rest.map fun v => v.category).sum Pre Post → (∀ vm₁, (B.s.setVm vm0).WarmedH vm₁ → Pre ⟨T.setVm vm₁, locs, k, n⟩ as'.toArray) →
      ∃ (v : Option Value) (vm₁ : Vm) (A : Pt), (B.s.setVm vm0).WarmedH vm₁ ∧ Stand B.p B.l B.e B.R ((B.s.setVm vm0).setVm A.U.vm) B.m B.args B.below B.meth B.c A.U A.locs A.cells A.slots ∧ (B.s.setVm vm0).Since A.U.vm A.U.heap.size ∧ T.heap.size ≤ A.U.heap.size ∧ Post ⟨T.setVm vm₁, locs, k, n⟩ as'.toArray v A ∧
        Steps B.p.tables B.e B.below (T.setTop (mkF B.m pc L S)) (A.U.setTop (mkF B.m pc' L (v.toList ++ rest))))
    (K : ∀ (N : List Addr) (v : Option Value) (h' : Heap), Q' M N v h' → Keep h h' ws' → W B h' (k + rm'.cells) (n + rm'.slots) (N ++ M) cl' pc' L (v.toList ++ rest)) : W B h k n M cl pc L S := by
  intro T P
  obtain ⟨vm0, k0, locs, X, hS, hk0, hnar, hL, hc, hlt, eT, bg⟩ := P
  have eZ := ok.Z_
  subst eZ
  have eR := ok.R_
  subst eR
  have el := ok.l_
  subst el
  have hsz : h0.size ≤ h.size := by rw [← ok.h_, ← eT]; exact X.same.2.1
  have hz := ok.zv hS
  have hK := C.back (M := M) (p := B.p) (e := B.e) (below := B.below) (s := B.s.setVm vm0) (args := B.args) (len := len) (fun w hw => (hws w hw).1) hz wc wz hf hlo
  obtain ⟨v, vm1, ⟨T', L', k', n'⟩, hw1, X', hS', hgr, ⟨Lc, N, q1, q2, q3, q4, q5, q6, q7, q8⟩, st⟩ := core T vm0 locs X hz (ok.ownv hS) eT
    hK (fun vm1 hw => ⟨rfl, eT, bg.move (U' := T.setVm vm1) (wtrans hz hw) (hw.interned_eq.trans X.warmed.interned_eq.symm) (Kept.refl _ _), hcc, hnn⟩)
  dsimp only [Pt.U, Pt.locs, Pt.cells, Pt.slots] at X' hS' hgr q1 q2 q3 q4 q5 q6 q7 q8 st
  subst q5 q6 q7
  obtain ⟨hS2, hZ2⟩ : B.s.Since T'.vm T'.heap.size ∧ True := ⟨hS.trans hS' (Nat.le_trans hk0 hgr), trivial⟩
  refine Gd.step (fun t q => st.trans q) (K N v T'.heap q1 q2 T' ⟨T'.vm, T'.heap.size, locs ++ Lc, X', hS2, Nat.le_refl _, fun q => ?_, fun x hx => ?_, fun q x hx => ?_, fun e he => ?_, rfl, q3⟩)
  · exact State.WarmedH.trans (t := T.setVm vm1) (State.WarmedH.trans (t := B.s.setVm vm0) (hnar q) hw1) (q8 (ok.nar_ ▸ q))
  · rcases List.mem_append.mp hx with z | z
    · exact hL x z
    · rw [ok.ws_, ok.h_]
      rcases q4 x z with u | u
      · exact (hws _ u).2
      · exact Or.inr (Nat.le_trans hsz u)
  · rcases List.mem_append.mp hx with z | z
    · exact hc (hcl q).1 x z
    · rw [ok.h_]
      rcases q4 x z with u | u
      · exact (hcl q).2 _ u
      · exact Nat.le_trans hsz u
  · rw [hcs] at he
    obtain ⟨a, ha⟩ := hlt e he
    exact ⟨a, Lit.stays ha hS'.1⟩
abbrev notMH (s : String) : Prop := s ≠ "java/lang/invoke/MethodHandle" ∧ s ≠ "java/lang/invoke/VarHandle"
theorem W.callS (ok : Ok B l Z nar own nm code ml ret R h0 ws fr Q Me) (w1 : (Jvm.Cond.methodLink own idx y).before a0 Z = true) (w2 : (Jvm.Cond.static y).before a0 Z = true) (wz : (Jvm.Cond.initialized y.cls).before a0 Z = true) (wc : (Jvm.Cond.code y bytes maxL ret').before a0 Z = true) (hy : notMH y.cls)
    (hds : parseMethodDescriptor y.desc = some ⟨ps, r⟩) (hlen : as'.length = ps.length) (C : Con2 l Z nar y bytes maxL ret' rm' as' h ws' Q') (hws : ∀ w ∈ ws', w ∈ M ∧ (w ∈ ws ∨ h0.size ≤ w)) (hcl : cl'.1 = true → cl.1 = true ∧ ∀ w ∈ ws', h0.size ≤ w) (hcs : cl'.2 = cl.2) (hL : L.size = ml)
    (hf : rm'.frames + 1 ≤ R.frames) (hlo : (rest.map fun v => v.category).sum + (maxL + 11) + rm'.locals ≤ R.locals) (hcc : k + rm'.cells ≤ R.cells) (hnn : n + rm'.slots ≤ R.slots) (hd : decode code pc = .ok (.invokestatic idx, 3)) (hp : pc + 3 = pc') (hst : S = as'.reverse ++ rest)
    (K : ∀ (N : List Addr) (v : Option Value) (h' : Heap), Q' M N v h' → Keep h h' ws' → W B h' (k + rm'.cells) (n + rm'.slots) (N ++ M) cl' pc' L (v.toList ++ rest)) : W B h k n M cl pc L S := by
  subst hp
  refine W.call (len := 3) ok wc wz C hws hcl hcs hf hlo hcc hnn (fun T vm0 locs X hz ho eT Pre Post hK hpre => ?_) K
  exact callSS X ok.x ho (mv hz w1) (mv hz w2) (mv hz wz) (mv hz wc) hy hK (g := mkF B.m pc L S) rfl (by rw [ok.ml_]; exact hL) (argsL := as') (rest := rest) (lenOf hds hlen) hst (by show 2 * 0 + _ ≤ _; omega) (hb ok.by_ hd) hpre
theorem W.callI (ok : Ok B l Z nar own nm code ml ret R h0 ws fr Q Me) {a : Addr} (hy1 : y.name = "<init>") (w1 : (Jvm.Cond.methodLink own idx y).before a0 Z = true) (w2 : (Jvm.Cond.instanceMethod y).before a0 Z = true) (wz : (Jvm.Cond.initialized y.cls).before a0 Z = true) (wc : (Jvm.Cond.code y bytes maxL none).before a0 Z = true) (hy : notMH y.cls)
    (hds : parseMethodDescriptor y.desc = some ⟨ps, r⟩) (hlen : as'.length = ps.length) (C : Con2 l Z nar y bytes maxL none rm' (.ref a :: as') h ws' Q') (hws : ∀ w ∈ ws', w ∈ M ∧ (w ∈ ws ∨ h0.size ≤ w)) (hcl : cl'.1 = true → cl.1 = true ∧ ∀ w ∈ ws', h0.size ≤ w) (hcs : cl'.2 = cl.2) (hL : L.size = ml)
    (hf : rm'.frames + 1 ≤ R.frames) (hlo : (rest.map fun v => v.category).sum + (maxL + 11) + rm'.locals ≤ R.locals) (hcc : k + rm'.cells ≤ R.cells) (hnn : n + rm'.slots ≤ R.slots) (hd : decode code pc = .ok (.invokespecial idx, 3)) (hp : pc + 3 = pc') (hst : S = as'.reverse ++ .ref a :: rest)
    (K : ∀ (N : List Addr) (v : Option Value) (h' : Heap), Q' M N v h' → Keep h h' ws' → W B h' (k + rm'.cells) (n + rm'.slots) (N ++ M) cl' pc' L (v.toList ++ rest)) : W B h k n M cl pc L S := by
  subst hp
  refine W.call (len := 3) ok wc wz C hws hcl hcs hf hlo hcc hnn (fun T vm0 locs X hz ho eT Pre Post hK hpre => ?_) K
  exact X.specialBackS ok.x hy1 ho (mv hz w1) (mv hz w2) (mv hz wc) hy hK (g := mkF B.m pc L S) rfl (by rw [ok.ml_]; exact hL) (Steps.refl _) (argsL := as') (rest := rest) (lenOf hds hlen) hst (by show 2 * 0 + _ ≤ _; omega) (hb ok.by_ hd) hpre
theorem W.callV (ok : Ok B l Z nar own nm code ml ret R h0 ws fr Q Me) {a : Addr} {C0 : String} (w1 : (Jvm.Cond.methodLink own idx y).before a0 Z = true) (w2 : (Jvm.Cond.declares y).before a0 Z = true) (w3 : (Jvm.Cond.selects C0 y y).before a0 Z = true) (w4 : (Jvm.Cond.instanceMethod y).before a0 Z = true) (wz : (Jvm.Cond.initialized y.cls).before a0 Z = true) (wc : (Jvm.Cond.code y bytes maxL ret').before a0 Z = true) (hy : notMH y.cls)
    (E : Exa Z h a C0) (hds : parseMethodDescriptor y.desc = some ⟨ps, r⟩) (hlen : as'.length = ps.length) (C : Con2 l Z nar y bytes maxL ret' rm' (.ref a :: as') h ws' Q') (hws : ∀ w ∈ ws', w ∈ M ∧ (w ∈ ws ∨ h0.size ≤ w)) (hcl : cl'.1 = true → cl.1 = true ∧ ∀ w ∈ ws', h0.size ≤ w) (hcs : cl'.2 = cl.2) (hL : L.size = ml)
    (hf : rm'.frames + 1 ≤ R.frames) (hlo : (rest.map fun v => v.category).sum + (maxL + 11) + rm'.locals ≤ R.locals) (hcc : k + rm'.cells ≤ R.cells) (hnn : n + rm'.slots ≤ R.slots) (hd : decode code pc = .ok (.invokevirtual idx, 3)) (hp : pc + 3 = pc') (hst : S = as'.reverse ++ .ref a :: rest)
    (K : ∀ (N : List Addr) (v : Option Value) (h' : Heap), Q' M N v h' → Keep h h' ws' → W B h' (k + rm'.cells) (n + rm'.slots) (N ++ M) cl' pc' L (v.toList ++ rest)) : W B h k n M cl pc L S := by
  subst hp
  refine W.call (len := 3) ok wc wz C hws hcl hcs hf hlo hcc hnn (fun T vm0 locs X hz ho eT Pre Post hK hpre => ?_) K
  obtain ⟨cB, kB, q1, q2, q3⟩ := isOf hz eT E
  exact X.virtualBackS ok.x ho (mv hz w1) (mv hz w2) (notFace_of_selects (args := #[]) (mv hz w3)) (mv hz w3) (mv hz w4) hy hK q1 q3 (g := mkF B.m pc L S) rfl (by rw [ok.ml_]; exact hL) (Steps.refl _) (argsL := as') (rest := rest) (lenOf hds hlen) hst (by show 2 * 0 + _ ≤ _; omega) (hb ok.by_ hd) hpre
theorem W.callF (ok : Ok B l Z nar own nm code ml ret R h0 ws fr Q Me) {a : Addr} {C0 : String} {yr : MethodName} {count : Nat} (w1 : (Jvm.Cond.methodLink own idx yr).before a0 Z = true) (w2 : (Jvm.Cond.declares yr).before a0 Z = true) (w5 : (Jvm.Cond.interfaceMethod yr.cls yr.cls yr.name yr.desc).before a0 Z = true) (k5 : ((Jvm.Cond.interfaceMethod yr.cls yr.cls yr.name yr.desc).onTables && (Jvm.Cond.interfaceMethod yr.cls yr.cls yr.name yr.desc).keepsFace) = true) (w3 : (Jvm.Cond.selects C0 yr y).before a0 Z = true) (w4 : (Jvm.Cond.instanceMethod y).before a0 Z = true)
    (w6 : (Jvm.Cond.publicMethod y).before a0 Z = true) (w7 : (Jvm.Cond.unhidden C0 yr.name yr.desc).before a0 Z = true) (w8 : (Jvm.Cond.castable C0 yr.cls).before a0 Z = true) (wz : (Jvm.Cond.initialized y.cls).before a0 Z = true) (wc : (Jvm.Cond.code y bytes maxL ret').before a0 Z = true) (hy : notMH yr.cls)
    (E : Exa Z h a C0) (hds : parseMethodDescriptor yr.desc = some ⟨ps, r⟩) (hlen : as'.length = ps.length) (C : Con2 l Z nar y bytes maxL ret' rm' (.ref a :: as') h ws' Q') (hws : ∀ w ∈ ws', w ∈ M ∧ (w ∈ ws ∨ h0.size ≤ w)) (hcl : cl'.1 = true → cl.1 = true ∧ ∀ w ∈ ws', h0.size ≤ w) (hcs : cl'.2 = cl.2) (hL : L.size = ml)
    (hf : rm'.frames + 1 ≤ R.frames) (hlo : (rest.map fun v => v.category).sum + (maxL + 11) + rm'.locals ≤ R.locals) (hcc : k + rm'.cells ≤ R.cells) (hnn : n + rm'.slots ≤ R.slots) (hd : decode code pc = .ok (.invokeinterface idx count, 5)) (hp : pc + 5 = pc') (hst : S = as'.reverse ++ .ref a :: rest)
    (K : ∀ (N : List Addr) (v : Option Value) (h' : Heap), Q' M N v h' → Keep h h' ws' → W B h' (k + rm'.cells) (n + rm'.slots) (N ++ M) cl' pc' L (v.toList ++ rest)) : W B h k n M cl pc L S := by
  subst hp
  refine W.call (len := 5) ok wc wz C hws hcl hcs hf hlo hcc hnn (fun T vm0 locs X hz ho eT Pre Post hK hpre => ?_) K
  obtain ⟨cB, kB, q1, q2, q3⟩ := isOf hz eT E
  exact X.interfaceBackS ok.x ho (mv hz w1) (mv hz w2) (mv hz w5 k5) (mv hz w3) (mv hz w4) (mv hz w6) (mv hz w7) (mv hz w8) hy hK q1 q2 q3 (g := mkF B.m pc L S) rfl (by rw [ok.ml_]; exact hL) (Steps.refl _) (argsL := as') (rest := rest) (lenOf hds hlen) hst (by show 2 * 0 + _ ≤ _; omega) (hb ok.by_ hd) hpre
theorem W.weaken {k' n' : Nat} {cl' : Cl} (hk : k ≤ k') (hn : n ≤ n') (hcl : cl'.1 = true → cl.1 = true) (hcs : ∀ e ∈ cl'.2, e ∈ cl.2) (K : W B h k' n' M cl' pc L S) : W B h k n M cl pc L S := fun T P => by
  obtain ⟨vm0, k0, locs, X, hS, hk0, hnar, hL, hc, hlt, eT, bg⟩ := P
  exact K T ⟨vm0, k0, locs, X.mono hk hn, hS, hk0, hnar, hL, fun q => hc (hcl q), fun e he => hlt e (hcs e he), eT, bg⟩
theorem W.drop {M' : List Addr} (hM : ∀ x ∈ M', x ∈ M) (K : W B h k n M' cl pc L S) : W B h k n M cl pc L S := fun T P => by
  obtain ⟨vm0, k0, locs, X, hS, hk0, hnar, hL, hc, hlt, eT, bg⟩ := P
  exact K T ⟨vm0, k0, locs, X, hS, hk0, hnar, hL, hc, hlt, eT, bg.shrink hM⟩
/-- what the walk knows of the addresses still to be written -/
theorem W.lt (K : (∀ b ∈ M, h.size > b) → W B h k n M cl pc L S) : W B h k n M cl pc L S := fun T P => by
  obtain ⟨vm0, k0, locs, X, hS, hk0, hnar, hL, hc, hlt, eT, bg⟩ := P
  exact K (fun b hb => by rw [← eT]; exact bg.2.2.2.2 b hb) T ⟨vm0, k0, locs, X, hS, hk0, hnar, hL, hc, hlt, eT, bg⟩
theorem W.old (ok : Ok B l Z nar own nm code ml ret R h0 ws fr Q Me) (K : Ext Z.heap h → h0.size ≤ h.size → W B h k n M cl pc L S) : W B h k n M cl pc L S := fun T P => by
  obtain ⟨vm0, k0, locs, X, hS, hk0, hnar, hL, hc, hlt, eT, bg⟩ := P
  exact K (by rw [← eT, ← ok.Z_]; exact bg.2.2.1) (by rw [← ok.h_, ← eT]; exact X.same.2.1) T ⟨vm0, k0, locs, X, hS, hk0, hnar, hL, hc, hlt, eT, bg⟩
theorem oldK {fr' : Bool} {Q0 : Option Value → Heap → Prop} {k' n' : Nat} (K : ∀ (v : Option Value) (h' : Heap), Q0 v h' → Keep h h' ws' → W B h' k' n' (refs fr' v ++ M) cl pc L (v.toList ++ rest)) : ∀ (N : List Addr) (v : Option Value) (h' : Heap), OldQ fr' Q0 N v h' → Keep h h' ws' → W B h' k' n' (N ++ M) cl pc L (v.toList ++ rest) := by
  rintro N v h' ⟨rfl, q⟩ kp
  exact K v h' q kp
theorem pureK {w : Value} {k' n' : Nat} (K : W B h k' n' M cl pc L (w :: rest)) : ∀ (N : List Addr) (v : Option Value) (h' : Heap), OldQ false (fun v h' => v = some w ∧ h' = h) N v h' → Keep h h' ws' → W B h' k' n' (N ++ M) cl pc L (v.toList ++ rest) := by
  rintro N v h' ⟨rfl, rfl, rfl⟩ -
  exact K
theorem pureK0 {k' n' : Nat} (K : W B h k' n' M cl pc L rest) : ∀ (N : List Addr) (v : Option Value) (h' : Heap), OldQ false (fun v h' => v = none ∧ h' = h) N v h' → Keep h h' ws' → W B h' k' n' (N ++ M) cl pc L (v.toList ++ rest) := by
  rintro N v h' ⟨rfl, rfl, rfl⟩ -
  exact K
theorem ext_keep {h h' : Heap} (K : Keep h h' []) : Ext h h' := ⟨K.1, fun a c q => K.2.1 a c q fun z => (nomatch z)⟩
end Calls
end Jvm.Pilot.@@N@@.Wk
namespace Jvm.Pilot.@@N@@.Wk
open Jvm Jvm.ClassFile Sem Op Lib Jvm.Free Jvm.Stand Jvm.LawKit Jvm.RoadKit Bundle Jvm.Free.SB Jvm.Free.SBG
/-! ### Strings: nobody writes them, all chars known -/
abbrev ST : String := "java/lang/String"
def wide : List Int32 → List Int32
  | [] => []
  | c :: r => b8 c :: b8 (c >>> ((8 : Int32) &&& 31)) :: wide r
def Cod (cd : Int32) (cs bs : List Int32) : Prop :=
  (cd = 0 ∧ bs = cs.map b8 ∧ ∀ c ∈ cs, 0 ≤ c.toInt ∧ c.toInt ≤ 255) ∨ (cd = 1 ∧ bs = wide cs ∧ (∀ c ∈ cs, 0 ≤ c.toInt ∧ c.toInt ≤ 65535) ∧ ∃ c ∈ cs, 255 < c.toInt)
def StrM (Z : State) (h : Heap) (M : List Addr) (a : Addr) (cs : List Int32) : Prop :=
  ∃ (t : Addr) (cd : Int32) (bs : List Int32), a ∉ M ∧ t ∉ M ∧ Exa Z h a ST ∧ Fld Z h a ST "value" "[B" (.ref t) ∧ Fld Z h a ST "coder" "B" (.int cd) ∧ ArI Z h t .byte bs ∧ Cod cd cs bs
theorem StrM.kept {Z : State} {h h' : Heap} {M : List Addr} {a : Addr} {cs : List Int32} (F : StrM Z h M a cs) (K : Kept M h h') : StrM Z h' M a cs := by
  obtain ⟨t, cd, bs, q1, q2, q3, q4, q5, q6, q7⟩ := F
  exact ⟨t, cd, bs, q1, q2, Exa.kept q3 K q1, Fld.kept q4 K q1, Fld.kept q5 K q1, q6.kept K q2, q7⟩
theorem StrM.ext {Z : State} {h h' : Heap} {M : List Addr} {a : Addr} {cs : List Int32} (F : StrM Z h M a cs) (E : Ext h h') : StrM Z h' M a cs := F.kept (Kept.ext E)
theorem StrM.keep {Z : State} {h h' : Heap} {M ws : List Addr} {a : Addr} {cs : List Int32} (F : StrM Z h M a cs) (K : Keep h h' ws) (hw : ∀ w ∈ ws, w ∈ M) : StrM Z h' M a cs := F.kept (Kept.keep K hw)
theorem StrM.wr {Z : State} {h h' : Heap} {M : List Addr} {a b : Addr} {cs : List Int32} {sl : Nat} {v : Value} (F : StrM Z h M a cs) (W : Wr h h' b sl v) (hb : b ∈ M) : StrM Z h' M a cs := F.kept (Kept.wr W hb)
theorem StrM.mono {Z : State} {h : Heap} {M M' : List Addr} {a : Addr} {cs : List Int32} (F : StrM Z h M a cs) (hM : ∀ b ∈ M', b ∈ M ∨ h.size ≤ b) : StrM Z h M' a cs := by
  obtain ⟨t, cd, bs, q1, q2, q3, q4, q5, q6, q7⟩ := F
  exact ⟨t, cd, bs, fun r => (hM _ r).elim q1 fun z => absurd q3.lt (Nat.not_lt.mpr z), fun r => (hM _ r).elim q2 fun z => absurd q6.lt (Nat.not_lt.mpr z), q3, q4, q5, q6, q7⟩
theorem StrM.cons {Z : State} {h h' : Heap} {M : List Addr} {a b : Addr} {cs : List Int32} (F : StrM Z h M a cs) (hb : h.size = b) (E : Ext h h') : StrM Z h' (b :: M) a cs :=
  (F.mono (M' := b :: M) fun x hx => (List.mem_cons.mp hx).elim (fun q => Or.inr (Nat.le_of_eq (hb.trans q.symm))) Or.inl).ext E
theorem StrM.exa {Z : State} {h : Heap} {M : List Addr} {a : Addr} {cs : List Int32} (F : StrM Z h M a cs) : Exa Z h a ST := by obtain ⟨t, cd, bs, q1, q2, q3, -⟩ := F; exact q3
theorem StrM.lt {Z : State} {h : Heap} {M : List Addr} {a : Addr} {cs : List Int32} (F : StrM Z h M a cs) : a < h.size := F.exa.lt
theorem StrM.gt {Z : State} {h : Heap} {M : List Addr} {a : Addr} {cs : List Int32} (F : StrM Z h M a cs) : h.size > a := F.lt
theorem StrM.nin {Z : State} {h : Heap} {M : List Addr} {a : Addr} {cs : List Int32} (F : StrM Z h M a cs) : a ∉ M := by obtain ⟨t, cd, bs, q1, -⟩ := F; exact q1
def Str (Z : State) (h : Heap) (a : Addr) (cs : List Int32) : Prop :=
  ∃ (t : Addr) (cd : Int32) (bs : List Int32), Exa Z h a ST ∧ Fld Z h a ST "value" "[B" (.ref t) ∧ Fld Z h a ST "coder" "B" (.int cd) ∧ ArI Z h t .byte bs ∧ Cod cd cs bs
theorem StrM.str {Z : State} {h : Heap} {M : List Addr} {a : Addr} {cs : List Int32} (F : StrM Z h M a cs) : Str Z h a cs := by obtain ⟨t, cd, bs, -, -, q⟩ := F; exact ⟨t, cd, bs, q⟩
theorem Str.ext {Z : State} {h h' : Heap} {a : Addr} {cs : List Int32} (F : Str Z h a cs) (E : Ext h h') : Str Z h' a cs := by obtain ⟨t, cd, bs, q1, q2, q3, q4, q5⟩ := F; exact ⟨t, cd, bs, q1.ext E, q2.ext E, q3.ext E, q4.ext E, q5⟩
theorem Str.cast {Z : State} {h : Heap} {a : Addr} {cs cs' : List Int32} (F : Str Z h a cs) (e : cs = cs') : Str Z h a cs' := e ▸ F
theorem Str.exa {Z : State} {h : Heap} {a : Addr} {cs : List Int32} (F : Str Z h a cs) : Exa Z h a ST := by obtain ⟨t, cd, bs, q, -⟩ := F; exact q
theorem StrM.cast {Z : State} {h : Heap} {M : List Addr} {a : Addr} {cs cs' : List Int32} (F : StrM Z h M a cs) (e : cs = cs') : StrM Z h M a cs' := e ▸ F
theorem Cod.rng {cd : Int32} {cs bs : List Int32} (h : Cod cd cs bs) : ∀ c ∈ cs, 0 ≤ c.toInt ∧ c.toInt ≤ 65535 := by
  rcases h with ⟨-, -, h⟩ | ⟨-, -, h, -⟩
  · exact fun c hc => ⟨(h c hc).1, by have := (h c hc).2; omega⟩
  · exact h
theorem StrM.rng {Z : State} {h : Heap} {M : List Addr} {a : Addr} {cs : List Int32} (F : StrM Z h M a cs) : ∀ c ∈ cs, 0 ≤ c.toInt ∧ c.toInt ≤ 65535 := by obtain ⟨t, cd, bs, -, -, -, -, -, -, q⟩ := F; exact q.rng
theorem wide_length : ∀ cs : List Int32, (wide cs).length = 2 * cs.length
  | [] => rfl
  | c :: r => by simp only [wide, List.length_cons, wide_length r]; omega
/-- the chars of a literal -/
def chs (t : String) : List Int32 := t.toList.map fun c => Int32.ofNat c.toNat
theorem b8_byteI : ∀ u : UInt16, u < 256 → b8 (Int32.ofNat u.toNat) = Jvm.Lit.byteI u ∧ 0 ≤ (Int32.ofNat u.toNat).toInt ∧ (Int32.ofNat u.toNat).toInt ≤ 255 := by
  have key : ∀ i : Fin 256, b8 (Int32.ofNat i.val) = Jvm.Lit.byteI (UInt16.ofNat i.val) ∧ 0 ≤ (Int32.ofNat i.val).toInt ∧ (Int32.ofNat i.val).toInt ≤ 255 := by decide +kernel
  intro u hu
  have h256 : u.toNat < 256 := UInt16.lt_iff_toNat_lt.mp hu
  have := key ⟨u.toNat, h256⟩
  simpa using this
theorem StrM.of_sl {Z U : State} {M : List Addr} {a : Addr} {units : Array UInt16} (hal : Z.vm.Alike U.vm) (hlat : units.all (· < 256) = true) (s : SlM M U a units) : StrM Z U.heap M a (units.toList.map fun u => Int32.ofNat u.toNat) := by
  obtain ⟨q, cS, hqa, ⟨⟨s1, s2, s3, ⟨cv, kv, iv, s4, s4'⟩, ⟨cc, kc, ic, s5, s5'⟩, s6, s7, s8, s9, s10, s11, s12, s13, s14, s15, s16⟩, hfS, hcS⟩, ⟨kS, k1, k2, k3⟩, hB, hbyt, n1, n2⟩ := s
  subst hqa
  obtain ⟨kv', z4⟩ := ff_back hal s4
  obtain ⟨kc', z5⟩ := ff_back hal s5
  have hfZ : Z.vm.findClass "java/lang/String" = some q.sC.cls := by rw [← hal.findClass, hcS]; exact hfS
  obtain ⟨kz, hkz, -⟩ := Vm.findClass_spec hfZ
  obtain ⟨kz', hkz', ekz⟩ := hal.2.2 _ _ hkz
  have ekS : kz' = kS := Option.some.inj (hkz'.symm.trans (hcS ▸ k1))
  have hBZ : Z.vm.findClass "[B" = some q.SA.cls := by rw [← hal.findClass]; exact hB
  obtain ⟨kb, hkb, -⟩ := Vm.findClass_spec hBZ
  obtain ⟨kb', hkb', ekb⟩ := hal.2.2 _ _ hkb
  obtain ⟨hst, k9, hk9, comp, hkind9⟩ := s11
  have ek9 : k9 = kb' := Option.some.inj (hk9.symm.trans hkb')
  have hAZ : Z.isArrayOf q.SA .byte := ⟨hst, kb, hkb, comp, by rw [ek9, ekb] at hkind9; exact hkind9⟩
  have hl : ∀ u ∈ units.toList, u < 256 := fun u hu => by
    have := (Array.all_eq_true_iff_forall_mem.mp hlat) u (Array.mem_toList_iff.mp hu)
    simpa using this
  have hsl : q.SA.slots = units.map fun u => Value.int (Jvm.Lit.byteI u) := by rw [hbyt, SBG.stringBytes_lat hlat]; rfl
  refine ⟨q.sd, 0, units.toList.map Jvm.Lit.byteI, n1, n2, ⟨q.sC, kz, s1, hfZ, hkz, s3, fun ho => by rw [k3, ← ekS, ekz]⟩, ⟨q.sC, cv, kv', iv, q.fSV, s1, z4, s6, s2, s3, by rw [← hal.assignable]; exact s4', s8⟩, ⟨q.sC, cc, kc', ic, q.fSC, s1, z5, s7, s2, s3, by rw [← hal.assignable]; exact s5', s9⟩, ⟨q.SA, ⟨s10, hAZ, s12⟩, ?_, fun x hx => ?_⟩, Or.inl ⟨rfl, ?_, fun c hc => ?_⟩⟩
  · rw [hsl]
    apply Array.toList_inj.mp
    simp
  · obtain ⟨u, -, rfl⟩ := List.mem_map.mp hx
    exact SBG.fits_of_int8 _
  · rw [List.map_map]
    exact List.map_congr_left fun u hu => ((b8_byteI u (hl u hu)).1).symm
  · obtain ⟨u, hu, rfl⟩ := List.mem_map.mp hc
    exact (b8_byteI u (hl u hu)).2
theorem chs_of {units : Array UInt16} {text : String} (h : utf16ToString? units = some text) (ht : ∀ c ∈ text.toList, c.toNat < 256) : (units.toList.map fun u => Int32.ofNat u.toNat) = chs text := by
  rw [Jvm.ClassFile.units_of_text h ht, List.map_map]
  refine List.map_congr_left fun c hc => ?_
  have := ht c hc
  simp only [Function.comp]
  congr 1
  simp [Nat.toUInt16]
  omega
/-- an old String of a case is one that nobody writes -/
theorem SlM.of_old {Z U : State} {M : List Addr} {a : Addr} {units : Array UInt16} (s : SlOf Z a units) (b : Bg Z M U) : SlM M U a units := by
  obtain ⟨q, cS, h1, h2, ⟨kS, k1, k2, k3⟩, h4, h5⟩ := s
  have hal := b.1.alike
  obtain ⟨kS', hk', ek⟩ := hal.2.2 _ _ k1
  have g1 := h2.1.1
  have g2 := h2.1.2.2.2.2.2.2.2.2.2.1
  exact ⟨q, cS, h1, h2.carry hal (b.2.2.1.2 _ _ g1) (b.2.2.1.2 _ _ g2), ⟨kS', hk', by rw [ek]; exact k2, by rw [ek]; exact k3⟩, by rw [hal.findClass]; exact h4, h5,
    fun r => absurd (Array.getElem?_eq_some_iff.mp g1).1 (Nat.not_lt.mpr (b.2.2.2.1 _ r)), fun r => absurd (Array.getElem?_eq_some_iff.mp g2).1 (Nat.not_lt.mpr (b.2.2.2.1 _ r))⟩
section Ldc
variable {B : Cx} {l : Launch} {Z : State} {nar : Bool} {own nm : String} {code : ByteArray} {ml : Nat} {ret : Option FieldType} {R : Room} {h0 : Heap} {ws : List Addr} {fr : Bool} {Q : List Addr → Option Value → Heap → Prop} {Me : List Addr}
variable {h : Heap} {k n : Nat} {M : List Addr} {cl : Cl} {pc pc' : Nat} {L : Array Slot} {S : List Value} {a0 : Array Value}
theorem find_push {A : Array (Array UInt16 × Addr)} {u u' : Array UInt16} {a a' : Addr} (h : (A.push (u', a')).find? (fun p => p.1 == u) = some (u, a)) : A.find? (fun p => p.1 == u) = some (u, a) ∨ (A.find? (fun p => p.1 == u) = none ∧ u' = u ∧ a' = a) := by
  rw [Array.find?_push] at h
  cases hf : A.find? (fun p => p.1 == u) with
  | some x => rw [hf] at h; exact Or.inl (by simpa using h)
  | none =>
    rw [hf] at h
    simp at h
    exact Or.inr ⟨rfl, h.1, h.2⟩
theorem W.ldcS (ok : Ok B l Z nar own nm code ml ret R h0 ws fr Q Me) (hnar : nar = false) {idx : Nat} {text : String} (w : (Jvm.Cond.stringLink own idx text).before a0 Z = true) (wS : ∀ a ∈ Bundle.stringAtoms, a.before a0 Z = true) (hh : Jvm.Lit.constHeld Z own idx) (hcw : Jvm.Lit.compactW.before a0 Z = true)
    (ht : ∀ c ∈ text.toList, c.toNat < 256) (hcl : cl.1 = true ∨ (own, idx) ∈ cl.2) {sz : Nat} (hsz : 4 * text.toList.length ≤ sz) (hbig : sz ≤ 536870912) (hd : decode code pc = .ok (.ldc idx, 2)) (hp : pc + 2 = pc') (hc : k + 2 ≤ R.cells) (hn : n + (sz + 4) ≤ R.slots)
    (K : ∀ (a : Addr) (h' : Heap), Ext h h' → StrM Z h' M a (chs text) → W B h' (k + 2) (n + (sz + 4)) M (cl.1, (own, idx) :: cl.2) pc' L (.ref a :: S)) : W B h k n M cl pc L S := by
  subst hp
  intro T P
  obtain ⟨vm0, k0, locs, X, hS, hk0, hnr, hL, hcl', hlt, eT, bg⟩ := P
  have eZ := ok.Z_
  have eR := ok.R_
  rw [eZ] at bg
  have hz : Z.Warmed39 T.vm := bg.1
  have hal : Z.vm.Alike T.vm := hz.alike
  have X1 : Stand B.p B.l B.e B.R (B.s.setVm T.vm) B.m B.args B.below B.meth B.c T locs k n := X.retabled X.warmed.wide
  have hS1 : B.s.Since T.vm T.heap.size := hS.trans (X.warmed.since _) hk0
  have hown : (B.s.setVm T.vm).vm.findClass own = some B.m.cls := (hS1.1.alike.findClass _ _).trans ok.own_
  have wl : (Jvm.Cond.stringLink own idx text).before B.args (B.s.setVm T.vm) = true := mvS hz w
  obtain ⟨k1, cf, i, units, hk1, hcf, hcp, hu, hnm, htext, hres⟩ := Cond.stringLink_spec hown wl
  have hlat := Jvm.ClassFile.lat_of_text htext ht
  have q2 : k1.cf.bind (namesOf? ·.constantPool idx) = some (.string text) := by rw [hcf]; exact hnm
  have q3 : k1.cf.bind (·.constantPool[idx]?) = some (.string i) := by rw [hcf]; exact hcp
  have q4 : k1.cf.bind (·.constantPool.utf8? i) = some units := by rw [hcf]; simp [ConstantPool.utf8?, hu]
  have wi : (Jvm.Cond.instantiable "java/lang/String" 4).before a0 Z = true := wS _ (by simp [Bundle.stringAtoms, Bundle.sN])
  have wa : (Jvm.Cond.arrayClass .byte).before a0 Z = true := wS _ (by simp [Bundle.stringAtoms])
  have hH : ConstHeldL Z own idx := heldStart hh w ht hcw wa wi
  -- the class's record at the case's start
  have hownZ : Z.vm.findClass own = some B.m.cls := by rw [← hal.findClass]; exact hown
  obtain ⟨kz, cfz, iz, uz, hkz, hcfz, hcpz, huz, hnmz, htextz, hresz⟩ := Cond.stringLink_spec hownZ w
  obtain ⟨kT, hkT, ekT, -, hent, -⟩ := hz.2.2.2 _ _ hkz
  have e1 : kT = k1 := Option.some.inj (hkT.symm.trans hk1)
  subst e1
  have ecf : cfz = cf := by have : kT.cf = kz.cf := by rw [ekT]
                            rw [this, hcfz] at hcf; exact Option.some.inj hcf
  subst ecf
  have ei : iz = i := by have := hcpz.symm.trans hcp; simpa using this
  subst ei
  have eu : uz = units := by have := huz.symm.trans hu; simpa using this
  subst eu
  have held : ∀ a, T.vm.interned.find? (fun p => p.1 == uz) = some (uz, a) → SlM M T a uz ∨ Z.vm.interned.find? (fun p => p.1 == uz) = some (uz, a) := fun a hf => (bg.2.1 uz a hlat hf).symm
  have hownT : T.vm.findClass own = some B.m.cls := hown
  have hkT1 : T.vm.classes[B.m.cls]? = some kT := hk1
  have hltT : ∀ e ∈ cl.2, ∃ a, Lit (B.s.setVm T.vm) e.1 e.2 a := fun e he => by
    obtain ⟨a, ha⟩ := hlt e he
    exact ⟨a, Lit.stays ha X.warmed.wide⟩
  rcases hres with hopen | ⟨a, hres⟩
  · have hcl : cl.1 = true := hcl.elim id fun q => by
      obtain ⟨a, ha⟩ := hltT _ q
      simp [Lit, State.resolvedAt?, hownT, hkT1, hopen] at ha
    cases hf : T.vm.interned.find? (fun p => p.1 == uz) with
    | some pr =>
      obtain ⟨u', a⟩ := pr
      have hu' : u' = uz := by
        have := Array.find?_some hf
        simpa using this
      subst hu'
      have hW : (B.s.setVm T.vm).Warmed39 (T.vm.noted B.m.cls idx (.string a)) := X1.warmed.wide.notedString hk1 (Or.inl hopen) q2 q3 q4 hf
      have X2 := (X1.mono (Nat.le_add_right k 2) (Nat.le_add_right n (sz + 4))).retabled hW
      have sl : SlM M T a u' := by
        rcases held a hf with q | q
        · exact q
        · refine SlM.of_old ?_ bg
          rcases hent idx with e0 | ⟨hop, r, e1, -⟩
          · exact hH _ kz cfz iz u' a hownZ hkz hcfz hcpz huz (Or.inr ⟨e0 ▸ hopen, q⟩)
          · rw [hopen] at e1; simp at e1
      have bg2 : Bg Z M (T.setVm (T.vm.noted B.m.cls idx (.string a))) := bg.move (State.Warmed39.trans (t := B.s.setVm T.vm) hz hW) rfl (Kept.refl _ _)
      have st2 : StrM Z h M a (chs text) := by
        have := StrM.of_sl hal hlat sl
        rw [chs_of htext ht, eT] at this; exact this
      refine Gd.step (U' := (T.setVm (T.vm.noted B.m.cls idx (.string a))).setTop (mkF B.m (pc + 2) L (.ref a :: S))) (fun t q => ?_) (K a h ⟨Nat.le_refl _, fun _ _ q => q⟩ st2 _ ⟨T.vm.noted B.m.cls idx (.string a), T.heap.size, locs, X2, hS1.trans ⟨hW, State.Booked.step (T₂ := T.setVm (T.vm.noted B.m.cls idx (.string a))) (X1.warmed.no_new_pair _) X1.same.2.1 ⟨Nat.le_refl _, Or.inl rfl⟩⟩ (Nat.le_refl _), Nat.le_refl _, fun q => ?_, hL, hcl', fun e he => ?_, eT, by rw [eZ]; exact bg2⟩)
      · have hdd := hb ok.by_ hd
        jvm_step X1.here [ok.x, hdd, ldc.wp_string_found (e := B.e) (s := T) (f := mkF B.m pc L S) X1.here.top hk1 hcf hcp hu hopen hf]
        exact q
      · rw [ok.nar_, hnar] at q; cases q
      · rcases List.mem_cons.mp he with rfl | he
        · refine ⟨a, ?_⟩
          have hf2 : (T.vm.noted B.m.cls idx (.string a)).findClass own = some B.m.cls := (hW.alike.findClass _ _).trans hown
          obtain ⟨kk, hq1, hq2⟩ : ∃ k2 : Class, (T.vm.noted B.m.cls idx (.string a)).classes[B.m.cls]? = some k2 ∧ k2.resolved[idx]? = some (some (.string a)) := ⟨_, Vm.classes_note_self idx (.string a) hkT1, Class.resolved_note_self (.string a) hopen⟩
          simp [Lit, State.resolvedAt?, hf2, hq1, hq2]
        · obtain ⟨b, hb'⟩ := hltT e he
          exact ⟨b, Lit.stays hb' hW⟩
    | none =>
      have hheld : ConstHeldL (B.s.setVm T.vm) own idx := by
        intro c k2 cf2 i2 units2 a hc2 hk2 hcf2 hp2 hu2 hor
        cases hc2.symm.trans hown
        cases hk2.symm.trans hk1
        cases hcf2.symm.trans hcf
        cases hp2.symm.trans hcp
        cases hu2.symm.trans hu
        rcases hor with q | ⟨-, q⟩
        · rw [hopen] at q; simp at q
        · rw [show (B.s.setVm T.vm).vm.interned = T.vm.interned from rfl, hf] at q; cases q
      have hold : ∀ (b : Addr) (c : Cell), (B.s.setVm T.vm).heap[b]? = some c → T.heap[b]? = some c := oldF X1 (fun y hy => hcl' hcl y hy)
      obtain ⟨a, T2, X2, hS2, ⟨k2, hk2, hr2⟩, hkp, hi1, hint, ⟨units2, htext2, hin⟩, st⟩ := X1.ldcColdF hold ok.x (own := own) hown wl (fun d hd => by
        have q := wS d hd
        simp only [Bundle.stringAtoms, List.mem_cons, List.not_mem_nil, or_false] at hd
        rcases hd with rfl | rfl | rfl | rfl | rfl | rfl | rfl
        · exact mv (s := B.s.setVm T.vm) hz q
        · exact mv (s := B.s.setVm T.vm) hz q
        · exact mvA (s := B.s.setVm T.vm) hz q
        · exact mv (s := B.s.setVm T.vm) hz q
        · exact mv (s := B.s.setVm T.vm) hz q
        · exact mv (s := B.s.setVm T.vm) hz q
        · exact mv (s := B.s.setVm T.vm) hz q) hheld (fun us hus => Jvm.ClassFile.lat_of_text hus ht) (g := mkF B.m pc L S) rfl (hb ok.by_ hd) hsz hbig (by rw [eR]; exact hc) (by rw [eR]; exact hn)
      have same : ∀ us : Array UInt16, utf16ToString? us = some text → us = uz := fun us hus => Array.toList_inj.mp (by rw [Jvm.ClassFile.units_of_text hus ht, Jvm.ClassFile.units_of_text htext ht])
      have eu2 := same units2 htext2
      subst eu2
      have hz2 : Z.Warmed39 T2.vm := State.Warmed39.trans (t := B.s.setVm T.vm) hz hS2.1
      -- where the entry points now
      have hfa : T2.vm.interned.find? (fun p => p.1 == units2) = some (units2, a) := by
        obtain ⟨k2', hk2', -, -, ee, -⟩ := hS2.1.2.2.2 _ _ hk1
        cases hk2.symm.trans hk2'
        rcases ee idx with e0 | ⟨-, r, e1, hr | ⟨a3, t3, si, us, rfl, -, z3, z4, z5⟩⟩
        · rw [hr2, hopen] at e0; simp at e0
        · exfalso
          rw [hr2] at e1
          simp only [Option.some.injEq] at e1
          subst e1
          simp [State.rightAt, hk1, hcf, hnm] at hr
        · rw [hr2] at e1
          have ea : a = a3 := by simpa using e1
          subst ea
          rw [q3] at z3
          have : si = iz := by simpa using z3.symm
          subst this
          rw [q4] at z4
          have : us = units2 := by simpa using z4.symm
          subst this
          exact z5
      have hpush : T2.vm.interned = T.vm.interned.push (units2, a) ∧ T.heap.size ≤ a := by
        rcases hint with e0 | ⟨us, a', hus, e0⟩
        · rw [e0, hf] at hfa; cases hfa
        · have := same us hus
          subst this
          rw [e0] at hfa
          rcases find_push hfa with q | ⟨-, -, q⟩
          · rw [hf] at q; cases q
          · subst q
            refine ⟨e0, ?_⟩
            rcases hi1.2 with e2 | ⟨u3, a3, e2, e3, -⟩
            · rw [e0] at e2
              have := congrArg Array.size e2
              simp at this
            · have e4 := e0.symm.trans e2
              have e5 := congrArg Array.back? e4
              simp at e5
              rw [e5.2]; exact e3
      have Kp : Kept M T.heap T2.heap := ⟨hi1.1, fun b c q _ => by rw [hkp b (Array.getElem?_eq_some_iff.mp q).1]; exact q⟩
      have sl : SlM M T2 a units2 := by
        obtain ⟨q, cS, g1, g2, g3, g4, g5, g6⟩ := hin
        rcases g6 with ⟨g6, -⟩ | ⟨g6, g7⟩
        · exfalso
          have := X1.same.2.1
          rw [g1] at g6
          have h3 : (B.s.setVm T.vm).heap.size ≤ T.heap.size := this
          exact absurd g6 (Nat.not_lt.mpr (Nat.le_trans h3 hpush.2))
        · exact ⟨q, cS, g1, g2, g3, g4, g5, fun r => absurd (bg.2.2.2.2 _ r) (Nat.not_lt.mpr g6), fun r => absurd (bg.2.2.2.2 _ r) (Nat.not_lt.mpr g7)⟩
      have hal2 : T.vm.Alike T2.vm := hal.symm.trans hz2.alike
      have bg2 : Bg Z M T2 := by
        refine ⟨hz2, fun us b hl2 hf2 => ?_, ⟨Nat.le_trans bg.2.2.1.1 Kp.1, fun x c q => Kp.2 x c (bg.2.2.1.2 x c q) fun z => absurd (Array.getElem?_eq_some_iff.mp q).1 (Nat.not_lt.mpr (bg.2.2.2.1 x z))⟩, bg.2.2.2.1, fun x z => Nat.lt_of_lt_of_le (bg.2.2.2.2 x z) Kp.1⟩
        rw [hpush.1] at hf2
        rcases find_push hf2 with q | ⟨-, q, q'⟩
        · exact (bg.2.1 us b hl2 q).imp id fun s => s.move hal2 Kp.2
        · subst q q'; exact Or.inr sl
      have st2 : StrM Z T2.heap M a (chs text) := by
        have := StrM.of_sl hz2.alike hlat sl
        rw [chs_of htext ht] at this; exact this
      have E : Ext h T2.heap := by
        rw [← eT]
        exact ⟨hi1.1, fun b c q => by rw [hkp b (Array.getElem?_eq_some_iff.mp q).1]; exact q⟩
      refine Gd.step st (K a T2.heap E st2 T2 ⟨T2.vm, T2.heap.size, locs, X2, hS1.trans hS2 hi1.1, Nat.le_refl _, fun q => ?_, hL, hcl', fun e he => ?_, rfl, by rw [eZ]; exact bg2⟩)
      · rw [ok.nar_, hnar] at q; cases q
      · rcases List.mem_cons.mp he with rfl | he
        · refine ⟨a, ?_⟩
          have hf2 : T2.vm.findClass own = some B.m.cls := (hS2.1.alike.findClass _ _).trans hown
          simp [Lit, State.resolvedAt?, hf2, hk2, hr2]
        · obtain ⟨b, hb'⟩ := hltT e he
          exact ⟨b, Lit.stays hb' hS2.1⟩
  · have Li : Lit (B.s.setVm T.vm) own idx a := by simp [Lit, State.resolvedAt?, hownT, hkT1, hres]
    have sl : SlM M T a uz := by
      rcases hent idx with e0 | ⟨hop, r, e1, hr | ⟨a3, t3, si, us, rfl, -, z3, z4, z5⟩⟩
      · exact SlM.of_old (hH _ kz cfz iz uz a hownZ hkz hcfz hcpz huz (Or.inl (e0 ▸ hres))) bg
      · exfalso
        rw [hres] at e1
        simp only [Option.some.injEq] at e1
        subst e1
        simp [State.rightAt, hkz, hcfz, hnmz] at hr
      · rw [hres] at e1
        have ea : a = a3 := by simpa using e1
        subst ea
        have z3' : cfz.constantPool[idx]? = some (.string si) := by rw [hcfz] at z3; exact z3
        have : si = iz := by have := z3'.symm.trans hcpz; simpa using this
        subst this
        have z4' : us = uz := by rw [hcfz] at z4; simpa [ConstantPool.utf8?, huz] using z4.symm
        subst z4'
        rcases held a z5 with q | q
        · exact q
        · exact SlM.of_old (hH _ kz cfz si us a hownZ hkz hcfz hcpz huz (Or.inr ⟨hop, q⟩)) bg
    have st2 : StrM Z h M a (chs text) := by
      have := StrM.of_sl hal hlat sl
      rw [chs_of htext ht, eT] at this; exact this
    refine Gd.step (ldcAgain X1 ok.x hz hown w Li (g := mkF B.m pc L S) rfl (hb ok.by_ hd)) (K a h ⟨Nat.le_refl _, fun _ _ q => q⟩ st2 T ⟨T.vm, T.heap.size, locs, X1.mono (Nat.le_add_right k 2) (Nat.le_add_right n (sz + 4)), hS1, Nat.le_refl _, fun q => ?_, hL, hcl', fun e he => ?_, eT, by rw [eZ]; exact bg⟩)
    · rw [ok.nar_, hnar] at q; cases q
    · rcases List.mem_cons.mp he with rfl | he
      · exact ⟨a, Li⟩
      · exact hltT e he
end Ldc
end Jvm.Pilot.@@N@@.Wk
namespace Jvm.Pilot.@@N@@.Wk
open Jvm Jvm.ClassFile Sem Op Lib Jvm.Free Jvm.Stand Jvm.LawKit Jvm.RoadKit Bundle
/-! ### numbers -/
theorem c16_rng (x : Int32) : 0 ≤ (c16 x).toInt ∧ (c16 x).toInt ≤ 65535 := by have := c_i2c x; unfold c16; omega
theorem c16_mod (x : Int32) : (c16 x).toInt = x.toInt % 65536 := by have := c_i2c x; unfold c16; omega
theorem c16_of {c : Int32} (h : 0 ≤ c.toInt ∧ c.toInt ≤ 65535) : c16 c = c := Int32.toInt_inj.mp (by have := c16_mod c; omega)
theorem c16_c16 (x : Int32) : c16 (c16 x) = c16 x := c16_of (c16_rng x)
theorem b8_rng (x : Int32) : -128 ≤ (b8 x).toInt ∧ (b8 x).toInt ≤ 127 ∧ ((b8 x).toInt - x.toInt) % 256 = 0 := by have := c_i2b x; unfold b8; omega
theorem b8_of {c : Int32} (h : -128 ≤ c.toInt ∧ c.toInt ≤ 127) : b8 c = c := Int32.toInt_inj.mp (by have := b8_rng c; omega)
theorem b8_b8 (x : Int32) : b8 (b8 x) = b8 x := b8_of (by have := b8_rng x; omega)
theorem and255 (x : Int32) : (x &&& 255).toInt = x.toInt % 256 := c_mask x 255 8 (by decide) (by decide)
theorem b8_and {c : Int32} (h : 0 ≤ c.toInt ∧ c.toInt ≤ 255) : b8 c &&& 255 = c := Int32.toInt_inj.mp (by have := b8_rng c; have := and255 (b8 c); omega)
theorem shr8 (x : Int32) : (x >>> ((8 : Int32) &&& 31)).toInt = x.toInt / 256 := c_ishr x 8 8 (by decide)
theorem shr0 (x : Int32) : x >>> ((0 : Int32) &&& 31) = x := Int32.toInt_inj.mp (by have := c_ishr x 0 0 (by decide); simpa using this)
theorem shr1 (x : Int32) : (x >>> ((1 : Int32) &&& 31)).toInt = x.toInt / 2 := c_ishr x 1 1 (by decide)
theorem shl1 (x : Int32) : ((x <<< ((1 : Int32) &&& 31)).toInt - x.toInt * 2) % 4294967296 = 0 := c_ishl x 1 1 (by decide)
theorem pair {c : Int32} (h : 0 ≤ c.toInt ∧ c.toInt ≤ 65535) : c16 (((b8 c &&& 255) <<< ((0 : Int32) &&& 31)) ||| ((b8 (c >>> ((8 : Int32) &&& 31)) &&& 255) <<< ((8 : Int32) &&& 31))) = c := by
  have e1 := and255 (b8 c)
  have e2 := b8_rng c
  have e3 := and255 (b8 (c >>> ((8 : Int32) &&& 31)))
  have e4 := b8_rng (c >>> ((8 : Int32) &&& 31))
  have e5 := shr8 c
  generalize b8 c &&& 255 = u at *
  generalize b8 (c >>> ((8 : Int32) &&& 31)) &&& 255 = w at *
  have f1 := c_ishl u 0 0 (by decide)
  have f2 := c_ishl w 8 8 (by decide)
  have g1 := rng32 (u <<< ((0 : Int32) &&& 31))
  have g2 := rng32 (w <<< ((8 : Int32) &&& 31))
  generalize u <<< ((0 : Int32) &&& 31) = u' at *
  generalize w <<< ((8 : Int32) &&& 31) = w' at *
  have f3 := c_or' u' w' 8 (by decide) 256 (by decide) (by omega) (by omega) (by omega)
  have f4 := c16_mod (u' ||| w')
  have f5 := rng32 (u' ||| w')
  exact Int32.toInt_inj.mp (by omega)
theorem i32_len {n : Nat} (h : n < 2147483648) : (n.toInt32).toInt = n := len_toInt h
theorem Cod.len {cd : Int32} {cs bs : List Int32} (h : Cod cd cs bs) (hl : cs.length < 1000000) : bs.length.toInt32 >>> (cd &&& 31) = cs.length.toInt32 := by
  rcases h with ⟨rfl, rfl, -⟩ | ⟨rfl, rfl, -⟩
  · rw [shr0, List.length_map]
  · apply Int32.toInt_inj.mp
    rw [shr1, i32_len (by rw [wide_length]; omega), i32_len (by omega), wide_length]; omega
theorem Cod.cd01 {cd : Int32} {cs bs : List Int32} (h : Cod cd cs bs) : b8 cd = cd := by
  rcases h with ⟨rfl, -⟩ | ⟨rfl, -⟩ <;> rfl
theorem nat_i32 {n : Nat} (h : n < 2147483648) : (n.toInt32).toNatClampNeg = n := by
  simp only [Int32.toNatClampNeg, i32_len h]; omega
theorem wide_at : ∀ (cs : List Int32) (i : Nat) (c : Int32), cs[i]? = some c → (wide cs)[2 * i]? = some (b8 c) ∧ (wide cs)[2 * i + 1]? = some (b8 (c >>> ((8 : Int32) &&& 31)))
  | [], i, c, h => by simp at h
  | x :: r, 0, c, h => by simp at h; subst h; simp [wide]
  | x :: r, i + 1, c, h => by
    have := wide_at r i c (by simpa using h)
    have e : 2 * (i + 1) = 2 * i + 1 + 1 := by omega
    rw [e]
    simpa [wide] using this
theorem lt_of_at {cs : List Int32} {i : Nat} {c : Int32} (h : cs[i]? = some c) : i < cs.length := (List.getElem?_eq_some_iff.mp h).1
theorem mem_of_at {cs : List Int32} {i : Nat} {c : Int32} (h : cs[i]? = some c) : c ∈ cs := List.mem_of_getElem? h
theorem neg_iff (x : Int32) : x < 0 ↔ x.toInt < 0 := by rw [Int32.lt_iff_toInt_lt]; rfl
theorem fits_char_rng {x : Int32} (h : fits .char (.int x) = true) : 0 ≤ x.toInt ∧ x.toInt ≤ 65535 := by
  have := rng_char h
  rw [Int32.lt_iff_toInt_lt, Int32.lt_iff_toInt_lt] at this
  have e0 : (0 : Int32).toInt = 0 := rfl
  have e1 : (65535 : Int32).toInt = 65535 := rfl
  omega
theorem i32_succ (i : Nat) : i.toInt32 + 1 = (i + 1).toInt32 := by
  show Int32.ofNat i + 1 = Int32.ofNat (i + 1)
  rw [Int32.ofNat_add]; rfl
theorem fill_step {cs : List Int32} {i m : Nat} {c : Int32} (hc : cs[i]? = some c) : ((cs.take i).map b8 ++ List.replicate (m + 1) 0).set i (b8 c) = (cs.take (i + 1)).map b8 ++ List.replicate m 0 := by
  have hi := lt_of_at hc
  have hl : ((cs.take i).map b8).length = i := by simp; omega
  rw [List.set_append_right _ _ (by omega), hl, Nat.sub_self, List.replicate_succ, List.set_cons_zero, List.take_add_one, hc]
  simp
theorem take_all (cs : List Int32) (i : Nat) (h : i = cs.length) : (cs.take i).map b8 ++ List.replicate 0 0 = cs.map b8 := by simp [h]
theorem wide_app : ∀ (a b : List Int32), wide (a ++ b) = wide a ++ wide b
  | [], b => rfl
  | x :: a, b => by simp [wide, wide_app a b]
theorem wfill_step {cs : List Int32} {i m : Nat} {c : Int32} (hc : cs[i]? = some c) : ((wide (cs.take i) ++ List.replicate (2 * (m + 1)) 0).set (2 * i) (b8 c)).set (2 * i + 1) (b8 (c >>> ((8 : Int32) &&& 31))) = wide (cs.take (i + 1)) ++ List.replicate (2 * m) 0 := by
  have hi := lt_of_at hc
  have hl : (wide (cs.take i)).length = 2 * i := by rw [wide_length, List.length_take]; omega
  have e : 2 * (m + 1) = 2 * m + 1 + 1 := by omega
  rw [List.set_append_right _ _ (by omega), hl, Nat.sub_self, e, List.replicate_succ, List.set_cons_zero, List.set_append_right _ _ (by omega), hl, List.replicate_succ, List.take_add_one, hc, wide_app]
  have e2 : 2 * i + 1 - 2 * i = 1 := by omega
  rw [e2]
  simp [wide]
theorem i32_lt {a b : Nat} (ha : a < 2147483648) (hb : b < 2147483648) : a.toInt32 < b.toInt32 ↔ a < b := by rw [Int32.lt_iff_toInt_lt, i32_len ha, i32_len hb]; omega
theorem i32_inj {a b : Nat} (ha : a < 2147483648) (hb : b < 2147483648) : a.toInt32 = b.toInt32 ↔ a = b := by
  constructor
  · intro q
    have := congrArg Int32.toInt q
    rw [i32_len ha, i32_len hb] at this; omega
  · intro q; rw [q]
theorem i32_nn {a : Nat} (ha : a < 2147483648) : ¬ a.toInt32 < 0 := by rw [neg_iff, i32_len ha]; omega
theorem at_lt {cs : List Int32} {i : Nat} (h : i < cs.length) : ∃ c, cs[i]? = some c := ⟨cs[i], by simp⟩
theorem le255 {c : Int32} (h : c.toInt ≤ 255) : ¬ (255 : Int32) < c := by rw [Int32.lt_iff_toInt_lt]; have : (255 : Int32).toInt = 255 := rfl; omega
theorem gt255 {c : Int32} (h : 255 < c.toInt) : (255 : Int32) < c := by rw [Int32.lt_iff_toInt_lt]; have : (255 : Int32).toInt = 255 := rfl; omega
/-- a list of chars: none, all narrow, or a first wide one -/
theorem three (cs : List Int32) : (∀ c ∈ cs, c.toInt ≤ 255) ∨ ∃ (q : Nat) (cq : Int32), cs[q]? = some cq ∧ 255 < cq.toInt ∧ ∀ (j : Nat) (c : Int32), j < q → cs[j]? = some c → c.toInt ≤ 255 := by
  induction cs with
  | nil => exact Or.inl (fun c hc => by cases hc)
  | cons x r ih =>
    by_cases hx : x.toInt ≤ 255
    · rcases ih with h | ⟨q, cq, h1, h2, h3⟩
      · exact Or.inl (fun c hc => (List.mem_cons.mp hc).elim (fun e => e ▸ hx) (h c))
      · refine Or.inr ⟨q + 1, cq, by simpa using h1, h2, fun j c hj hc => ?_⟩
        cases j with
        | zero => simp at hc; subst hc; exact hx
        | succ j => exact h3 j c (by omega) (by simpa using hc)
    · exact Or.inr ⟨0, x, rfl, by omega, fun j c hj => by omega⟩
theorem i32_of {z : Int32} (h : 0 ≤ z.toInt) : ∃ n : Nat, z = n.toInt32 ∧ (n : Int) = z.toInt :=
  ⟨z.toInt.toNat, Int32.toInt_inj.mp (by rw [i32_len (by have := rng32 z; omega)]; omega), by omega⟩
theorem lowL (d : Int64) : 0 ≤ (c16 (d &&& 255).toInt32).toInt ∧ (c16 (d &&& 255).toInt32).toInt ≤ 255 := by
  have e1 : (d &&& 255).toInt = d.toInt % 256 := c_maskL d 255 8 (by decide) (by decide)
  have e2 := c_l2i (d &&& 255)
  have e3 := c16_mod (d &&& 255).toInt32
  have := rng32 (d &&& 255).toInt32
  omega
theorem lowI (x : Int32) : 0 ≤ (c16 (x &&& 255)).toInt ∧ (c16 (x &&& 255)).toInt ≤ 255 := by
  have e1 := and255 x
  have e3 := c16_mod (x &&& 255)
  omega
theorem maskI (x m : Int32) (k : Nat) (hk : k ≤ 31) (hm : m.toBitVec.toNat = 2 ^ k - 1) : 0 ≤ (x &&& m).toInt ∧ (x &&& m).toInt < (2 ^ k : Nat) := by
  have := c_mask x m k hk hm
  have h2 : (0 : Int) < ((2 ^ k : Nat) : Int) := by exact_mod_cast Nat.two_pow_pos k
  rw [this]
  exact ⟨Int.emod_nonneg _ (by omega), Int.emod_lt_of_pos _ h2⟩
theorem rem_rng {x y : Int32} {d : Int} (hy : y.toInt = d) (hd : 0 < d) (h : 0 ≤ x.toInt) : 0 ≤ (x % y).toInt ∧ (x % y).toInt < d := by
  have := (c_irem x y d hy).1 h
  rw [this]
  exact ⟨Int.emod_nonneg _ (by omega), Int.emod_lt_of_pos _ hd⟩
theorem unb8 : ∀ cs : List Int32, (∀ c ∈ cs, 0 ≤ c.toInt ∧ c.toInt ≤ 255) → (cs.map b8).map (· &&& 255) = cs
  | [], _ => rfl
  | c :: r, h => by
    simp only [List.map_cons]
    rw [b8_and (h c (List.mem_cons_self ..)), unb8 r fun x hx => h x (List.mem_cons_of_mem _ hx)]
def unw : List Int32 → List Int32
  | u :: w :: r => c16 (((u &&& 255) <<< ((0 : Int32) &&& 31)) ||| ((w &&& 255) <<< ((8 : Int32) &&& 31))) :: unw r
  | _ => []
theorem unw_wide : ∀ cs : List Int32, (∀ c ∈ cs, 0 ≤ c.toInt ∧ c.toInt ≤ 65535) → unw (wide cs) = cs
  | [], _ => rfl
  | c :: r, h => by
    simp only [wide, unw]
    rw [pair (h c (List.mem_cons_self ..)), unw_wide r fun x hx => h x (List.mem_cons_of_mem _ hx)]
theorem Cod.inj {cd : Int32} {cs ds bs es : List Int32} (h : Cod cd cs bs) (g : Cod cd ds es) : bs = es ↔ cs = ds := by
  rcases h with ⟨rfl, rfl, h⟩ | ⟨rfl, rfl, h, -⟩ <;> rcases g with ⟨g0, rfl, g⟩ | ⟨g0, rfl, g, -⟩
  · exact ⟨fun e => by rw [← unb8 cs h, ← unb8 ds g, e], fun e => by rw [e]⟩
  · simp at g0
  · simp at g0
  · exact ⟨fun e => by rw [← unw_wide cs h, ← unw_wide ds g, e], fun e => by rw [e]⟩
theorem Cod.apart {cd ce : Int32} {cs ds bs es : List Int32} (h : Cod cd cs bs) (g : Cod ce ds es) (hne : ¬ cd = ce) : ¬ cs = ds := by
  intro e
  subst e
  rcases h with ⟨rfl, -, h⟩ | ⟨rfl, -, -, x, hx, hx2⟩ <;> rcases g with ⟨rfl, -, g⟩ | ⟨rfl, -, -, y, hy, hy2⟩
  · exact hne rfl
  · have := h y hy; omega
  · have := g x hx; omega
  · exact hne rfl
theorem Fld.uniq {Z : State} {h : Heap} {a : Addr} {C f d : String} {v w : Value} (F : Fld Z h a C f d v) (G : Fld Z h a C f d w) : v = w := by
  by_cases q : v = w
  · exact q
  · exact absurd rfl (Fld.ne F G q)
theorem ArI.uniq {Z : State} {h : Heap} {a : Addr} {ty ty' : FieldType} {cs ds : List Int32} (F : ArI Z h a ty cs) (G : ArI Z h a ty' ds) : cs = ds := by
  obtain ⟨c, A, e, -⟩ := F
  obtain ⟨c', A', e', -⟩ := G
  cases A.1.symm.trans A'.1
  have : (cs.map Value.int).toArray = (ds.map Value.int).toArray := e.symm.trans e'
  have := congrArg Array.toList this
  simp at this
  exact (List.map_inj_right (fun x y q => by injection q)).mp this
theorem Str.inj {Z : State} {h : Heap} {a : Addr} {cs ds : List Int32} (F : Str Z h a cs) (G : Str Z h a ds) : cs = ds := by
  obtain ⟨t, cd, bs, -, f2, f3, f4, f5⟩ := F
  obtain ⟨u, ce, es, -, g2, g3, g4, g5⟩ := G
  have e1 := Fld.uniq f2 g2
  have e2 := Fld.uniq f3 g3
  simp only [Value.ref.injEq, Value.int.injEq] at e1 e2
  subst e1 e2
  exact (f5.inj g5).mp (f4.uniq g4)
theorem take_succ_eq {bs es : List Int32} {i : Nat} {x : Int32} (h : bs.take i = es.take i) (h1 : bs[i]? = some x) (h2 : es[i]? = some x) : bs.take (i + 1) = es.take (i + 1) := by
  rw [List.take_add_one, List.take_add_one, h, h1, h2]
theorem eq_int_v {args : Array Value} {s : State} {t : Term} {v : Int32} (h : (Jvm.Cond.eq t (.int v)).value args s none s [] = some true) : t.eval args s none [] s = some (.int v) := by
  simp only [Cond.value, Term.eval] at h
  cases ht : t.eval args s none [] s with
  | none => simp [ht] at h
  | some x => cases x <;> simp [ht] at h ⊢; exact h
theorem ushr31_zero : b8 (XT.ushr (0 : Int32) (31 : Int32)) = 0 := by decide +kernel
theorem ushr_len {n : Nat} (h0 : 0 < n) (h : n < 1000000) : b8 (XT.ushr (n.toInt32 - (2 * n).toInt32) (31 : Int32)) = 1 := by
  have e1 := c_isub n.toInt32 (2 * n).toInt32
  rw [i32_len (by omega), i32_len (by omega)] at e1
  have r := rng32 (n.toInt32 - (2 * n).toInt32)
  have e2 := c_iushr (n.toInt32 - (2 * n).toInt32) 31 31 (by decide) (by decide)
  have e3 : XT.ushr (n.toInt32 - (2 * n).toInt32) 31 = 1 := Int32.toInt_inj.mp (by
    have : (1 : Int32).toInt = 1 := rfl
    unfold XT.ushr
    rw [e2]; omega)
  rw [e3]; rfl
end Jvm.Pilot.@@N@@.Wk
namespace Jvm.Pilot.@@N@@.Wk
open Jvm Jvm.ClassFile Sem Op Lib Jvm.Free Jvm.Stand Jvm.LawKit Jvm.RoadKit Bundle
/-! ### arrays of references; what a case tells of its own objects -/
def ArR (Z : State) (h : Heap) (a : Addr) (ty : FieldType) (vs : List Value) : Prop := ∃ c : Cell, Arr Z h a c ty ∧ c.slots = vs.toArray
theorem ArR.ext {Z : State} {h h' : Heap} {a : Addr} {ty : FieldType} {vs : List Value} (F : ArR Z h a ty vs) (E : Ext h h') : ArR Z h' a ty vs := by obtain ⟨c, A, r⟩ := F; exact ⟨c, A.ext E, r⟩
theorem ArR.keep {Z : State} {h h' : Heap} {a : Addr} {ty : FieldType} {vs : List Value} {ws : List Addr} (F : ArR Z h a ty vs) (K : Keep h h' ws) (q : a ∉ ws) : ArR Z h' a ty vs := by obtain ⟨c, A, r⟩ := F; exact ⟨c, ⟨K.2.1 a c A.1 q, A.2⟩, r⟩
theorem ArR.other {Z : State} {h h' : Heap} {a b : Addr} {ty : FieldType} {vs : List Value} {sl : Nat} {v : Value} (F : ArR Z h b ty vs) (W : Wr h h' a sl v) (q : b ≠ a) : ArR Z h' b ty vs := by obtain ⟨c, A, r⟩ := F; exact ⟨c, A.other W q, r⟩
theorem ArR.gt {Z : State} {h : Heap} {a : Addr} {ty : FieldType} {vs : List Value} (F : ArR Z h a ty vs) : h.size > a := by obtain ⟨c, A, -⟩ := F; exact A.lt
theorem ArR.cast {Z : State} {h : Heap} {a : Addr} {ty : FieldType} {vs vs' : List Value} (F : ArR Z h a ty vs) (e : vs = vs') : ArR Z h a ty vs' := e ▸ F
theorem slots_eq {cl : Cell} {vs : List Value} (hs : cl.slots.size = vs.length) (H : HasL cl 0 vs) : cl.slots = vs.toArray := by
  apply Array.ext_getElem?
  intro i
  by_cases h : i < vs.length
  · have := HasL.at (dv := .null) vs 0 H i h
    rw [Nat.zero_add] at this
    rw [this]; simp [h]
  · rw [Array.getElem?_eq_none (by omega)]; simp; omega
theorem size_of {Z : State} {args : Array Value} {t : Term} {a : Addr} {cl : Cell} {ty : FieldType} {n : Int32} {m : Nat} (ev : t.eval args Z none [] Z = some (.ref a)) (A : Arr Z Z.heap a cl ty) (hl : (Term.length t).eval args Z none [] Z = some (.int n)) (hm : m.toInt32 = n) (hs : m < 1000) : cl.slots.size = m := by
  have h1 : Z.arrayAt? a = some cl := Arr.fin (Vm.Alike.refl _) A
  simp [Term.eval, ev, h1] at hl
  obtain ⟨q1, q2⟩ := hl
  exact (i32_inj (by omega) (by omega)).mp (q2.trans hm.symm)
theorem ArI.ofHas {Z : State} {a : Addr} {cl : Cell} {ty : FieldType} {cs : List Int32} (hf : Fit Z) (A : Arr Z Z.heap a cl ty) (hs : cl.slots.size = cs.length) (hb : cs.length < 1000) (H : HasL cl 0 (cs.map Value.int)) : ArI Z Z.heap a ty cs := by
  refine ⟨cl, A, slots_eq (by simpa using hs) H, fun x hx => ?_⟩
  obtain ⟨i, hi⟩ := List.getElem?_of_mem hx
  have li := lt_of_at hi
  have e : cl.slots = (cs.map Value.int).toArray := slots_eq (by simpa using hs) H
  refine elem_fits (j := i.toInt32) hf A (by rintro (q | q); exact i32_nn (by omega) q; rw [nat_i32 (by omega)] at q; omega) ?_
  rw [nat_i32 (by omega), e]; simp [hi]
theorem eq_ref_v {args : Array Value} {s : State} {t u : Term} {r : Addr} (h : (Jvm.Cond.eq t u).value args s none s [] = some true) (hu : u.eval args s none [] s = some (.ref r)) : t.eval args s none [] s = some (.ref r) := by
  simp only [Cond.value, hu] at h
  cases ht : t.eval args s none [] s with
  | none => simp [ht] at h
  | some x => cases x <;> simp [ht] at h ⊢; exact h
section Heap
variable {B : Cx} {l : Launch} {Z : State} {nar : Bool} {own nm : String} {code : ByteArray} {ml : Nat} {ret : Option FieldType} {R : Room} {h0 : Heap} {ws : List Addr} {fr : Bool} {Q : List Addr → Option Value → Heap → Prop} {Me : List Addr}
variable {h : Heap} {k n : Nat} {M : List Addr} {cl : Cl} {pc pc' : Nat} {L L' : Array Slot} {S S' : List Value} {a0 : Array Value}
theorem W.lenR (ok : Ok B l Z nar own nm code ml ret R h0 ws fr Q Me) {a : Addr} {vs : List Value} {ty : FieldType} (A : ArR Z h a ty vs) (v : Int32) (hv : vs.length.toInt32 = v)
    (hd : decode code pc = .ok (.arraylength, 1)) (hp : pc + 1 = pc') (K : W B h k n M cl pc' L (.int v :: S)) : W B h k n M cl pc L (.ref a :: S) := by
  obtain ⟨c, A, e⟩ := A
  exact W.arraylength ok A v (by rw [e]; simpa using hv) hd hp K
theorem W.aaload (ok : Ok B l Z nar own nm code ml ret R h0 ws fr Q Me) {a : Addr} {vs : List Value} {ty : FieldType} {j : Int32} (A : ArR Z h a ty vs) (hty : ty.isReference = true) (x : Value) (hj : ¬ j < 0) (hx : vs[j.toNatClampNeg]? = some x)
    (hd : decode code pc = .ok (.aaload, 1)) (hp : pc + 1 = pc') (K : W B h k n M cl pc' L (x :: S)) : W B h k n M cl pc L (.int j :: .ref a :: S) := by
  subst hp
  obtain ⟨c, A, e⟩ := A
  have hin : ¬ (j < 0 ∨ c.slots.size ≤ j.toNatClampNeg) := by
    rintro (q | q)
    · exact hj q
    · have := (List.getElem?_eq_some_iff.mp hx).1
      rw [e] at q; simp at q; omega
  refine W.still ok (fun T vm0 locs X hz ho eT hE => ⟨T, X, eT, fun t q => ?_⟩) K
  exact X.aaload ok.x (j := j) (v := x) (by rw [eT]; exact A.1) (State.isArrayOf_alike hz.alike A.2.1) hty A.2.2 hin (by rw [e]; simpa using hx) (g := mkF B.m pc L (.int j :: .ref a :: S)) rfl rfl (hb ok.by_ hd) t q
theorem W.clone (ok : Ok B l Z nar own nm code ml ret R h0 ws fr Q Me) {idx cap : Nat} {ad : String} {a : Addr} {c : Cell} {ty : FieldType} {vs : List Value} (w1 : (Jvm.Cond.methodLink own idx ⟨ad, "clone", "()Ljava/lang/Object;"⟩).before a0 Z = true) (w2 : (Jvm.Cond.sameMethod ad "java/lang/Object" "clone" "()Ljava/lang/Object;").before a0 Z = true) (w3 : (Jvm.Cond.native ⟨"java/lang/Object", "clone", "()Ljava/lang/Object;"⟩).before a0 Z = true)
    (w4 : (Jvm.Cond.instanceMethod ⟨"java/lang/Object", "clone", "()Ljava/lang/Object;"⟩).before a0 Z = true) (w5 : (Jvm.Cond.selects ad ⟨ad, "clone", "()Ljava/lang/Object;"⟩ ⟨"java/lang/Object", "clone", "()Ljava/lang/Object;"⟩).before a0 Z = true) (w6 : (Jvm.Cond.castable ad "java/lang/Cloneable").before a0 Z = true)
    (A : Arr Z h a c ty) (hs : c.slots = vs.toArray) (E : Exa Z h a ad) (F : FitC Z c) (hL : L.size = ml) (hfr : 1 ≤ R.frames) (hlo : (S.map fun v => v.category).sum + 14 ≤ R.locals) (hcap : vs.length ≤ cap) (hc : k + 1 ≤ R.cells) (hn : n + cap ≤ R.slots)
    (hd : decode code pc = .ok (.invokevirtual idx, 3)) (hp : pc + 3 = pc') (K : ∀ (d : Addr) (h' : Heap), h0.size ≤ d → h.size = d → Ext h h' → ArR Z h' d ty vs → Exa Z h' d ad → W B h' (k + 1) (n + cap) (d :: M) cl pc' L (.ref d :: S)) : W B h k n M cl pc L (.ref a :: S) := by
  subst hp
  refine W.heap (Φ := fun h' => h0.size ≤ h.size ∧ Ext h h' ∧ ArR Z h' h.size ty vs ∧ Exa Z h' h.size ad) (k' := k + 1) (n' := n + cap) (M' := h.size :: M) (cl' := cl) (L' := L) (S' := .ref h.size :: S) ok (fun T vm0 locs X hz ho eT hE hsz => ?_) rfl (fun h' ⟨p0, p1, p2, p3⟩ => K _ h' p0 rfl p1 p2 p3)
  have eR := ok.R_
  subst eR
  obtain ⟨T', h', X', e', E', A', Ex, st⟩ := cloneA X ok.x hz ho w1 w2 w3 w4 w5 w6 eT A E F (g := mkF B.m pc L (.ref a :: S)) rfl (by rw [ok.ml_]; exact hL) rfl (hb ok.by_ hd) hfr (W := (S.map fun v => v.category).sum) (by show 2 * 0 + _ ≤ _; omega) hlo (by rw [hs]; simpa using hcap) hc hn
  subst e'
  exact ⟨T', [], by rw [List.append_nil]; exact X', Kept.ext E', fun _ q => (nomatch q), fun q => ⟨q, fun _ q => (nomatch q)⟩, fun x q => (List.mem_cons.mp q).elim (fun q => Or.inr ⟨Nat.le_of_eq q.symm, q ▸ A'.lt⟩) Or.inl, ⟨hsz, E', ⟨_, A', hs⟩, Ex⟩, st⟩
end Heap
end Jvm.Pilot.@@N@@.Wk
namespace Jvm.Pilot.@@N@@.Wk
open Jvm Jvm.ClassFile Sem Op Lib Jvm.Free Jvm.Stand Jvm.LawKit Jvm.RoadKit Bundle
/-! ### more calls: super's methods, private ones, methods found above; arraycopy -/
def NoFace (Z : State) (C : String) : Prop := ∃ c k, Z.vm.findClass C = some c ∧ Z.vm.classes[c]? = some k ∧ k.isInterface = false
theorem NoFace.of {a0 : Array Value} {Z : State} {C : String} {y z : MethodName} (w : (Jvm.Cond.selects C y z).before a0 Z = true) : NoFace Z z.cls := by
  obtain ⟨c2, r2, m2, q1, q2, q3, q4, kP, hkP, hkPi⟩ := Cond.selects_spec w
  exact ⟨_, kP, findClass_of_methodNamed q3, hkP, hkPi⟩
theorem same_own {a0 : Array Value} {Z : State} {y : MethodName} (w : (Jvm.Cond.instanceMethod y).before a0 Z = true) (nf : NoFace Z y.cls) (hy : y.cls ≠ "java/lang/invoke/MethodHandle" ∧ y.cls ≠ "java/lang/invoke/VarHandle") : (Jvm.Cond.sameMethod y.cls y.cls y.name y.desc).before a0 Z = true := by
  obtain ⟨mk, meth, hn, -, -, -⟩ := Cond.instanceMethod_spec w
  obtain ⟨c, k, hc, hk, hi⟩ := nf
  have hf := State.methodFound?_of_named hn hy
  have hn' : Z.methodNamed? ⟨y.cls, y.name, y.desc⟩ = some mk := hn
  simp [Cond.before, Cond.holds, Cond.value, hc, hf, hn', hk, hi]
theorem decl_of {a0 : Array Value} {Z : State} {y : MethodName} {bytes : ByteArray} {maxL : Nat} {ret : Option FieldType} (w : (Jvm.Cond.instanceMethod y).before a0 Z = true) (wc : (Jvm.Cond.code y bytes maxL ret).before a0 Z = true) : (Jvm.Cond.declares y).before a0 Z = true := by
  obtain ⟨mk, meth, hn, hm, hs, -⟩ := Cond.instanceMethod_spec w
  obtain ⟨m2, cM, q1, -, -, -, -, -, -, hsig⟩ := Cond.code_spec hn wc
  cases hm.symm.trans q1
  simp [Cond.before, Cond.holds, Cond.value, hn, hm, hs, hsig]
section Calls
variable {B : Cx} {l : Launch} {Z : State} {nar : Bool} {own nm : String} {code : ByteArray} {ml : Nat} {ret : Option FieldType} {R : Room} {h0 : Heap} {ws : List Addr} {fr : Bool} {Q : List Addr → Option Value → Heap → Prop} {Me : List Addr}
variable {h : Heap} {k n : Nat} {M : List Addr} {cl : Cl} {pc pc' : Nat} {L : Array Slot} {S : List Value} {a0 : Array Value}
variable {idx : Nat} {y : MethodName} {bytes : ByteArray} {maxL : Nat} {ret' : Option FieldType} {rm' : Room} {as' rest : List Value} {ws' : List Addr} {Q' : List Addr → List Addr → Option Value → Heap → Prop} {ps : List FieldType} {r : Option FieldType} {cl' : Cl}
/-- super.y(..) -/
theorem W.callU (ok : Ok B l Z nar own nm code ml ret R h0 ws fr Q Me) {a : Addr} {C0 : String} (nf : NoFace Z y.cls) (hn : y.name ≠ "<init>") (w1 : (Jvm.Cond.methodLink own idx y).before a0 Z = true) (w2 : (Jvm.Cond.instanceMethod y).before a0 Z = true) (w3 : (Jvm.Cond.superclass own y.cls).before a0 Z = true) (wz : (Jvm.Cond.initialized y.cls).before a0 Z = true) (wc : (Jvm.Cond.code y bytes maxL ret').before a0 Z = true) (hy : notMH y.cls)
    (E : Exa Z h a C0) (hds : parseMethodDescriptor y.desc = some ⟨ps, r⟩) (hlen : as'.length = ps.length) (C : Con2 l Z nar y bytes maxL ret' rm' (.ref a :: as') h ws' Q') (hws : ∀ w ∈ ws', w ∈ M ∧ (w ∈ ws ∨ h0.size ≤ w)) (hcl : cl'.1 = true → cl.1 = true ∧ ∀ w ∈ ws', h0.size ≤ w) (hcs : cl'.2 = cl.2) (hL : L.size = ml)
    (hf : rm'.frames + 1 ≤ R.frames) (hlo : (rest.map fun v => v.category).sum + (maxL + 11) + rm'.locals ≤ R.locals) (hcc : k + rm'.cells ≤ R.cells) (hnn : n + rm'.slots ≤ R.slots) (hd : decode code pc = .ok (.invokespecial idx, 3)) (hp : pc + 3 = pc') (hst : S = as'.reverse ++ .ref a :: rest)
    (K : ∀ (N : List Addr) (v : Option Value) (h' : Heap), Q' M N v h' → Keep h h' ws' → W B h' (k + rm'.cells) (n + rm'.slots) (N ++ M) cl' pc' L (v.toList ++ rest)) : W B h k n M cl pc L S := by
  subst hp
  refine W.call (len := 3) ok wc wz C hws hcl hcs hf hlo hcc hnn (fun T vm0 locs X hz ho eT Pre Post hK hpre => ?_) K
  exact RoadKit.superBackS X ok.x hz ho w1 (same_own w2 nf hy) w2 w3 hn hK eT (Ins.self E) (g := mkF B.m pc L S) rfl (by rw [ok.ml_]; exact hL) wc (argsL := as') (rest := rest) (lenOf hds hlen) hst (by show 2 * 0 + _ ≤ _; omega) (hb ok.by_ hd) hpre
/-- invokevirtual of yr, that lands at y; yr's own class declares it -/
theorem W.callW (ok : Ok B l Z nar own nm code ml ret R h0 ws fr Q Me) {a : Addr} {C0 : String} {yr : MethodName} (w1 : (Jvm.Cond.methodLink own idx yr).before a0 Z = true) (w2 : (Jvm.Cond.declares yr).before a0 Z = true) (nf : NoFace Z yr.cls) (w3 : (Jvm.Cond.selects C0 yr y).before a0 Z = true) (w4 : (Jvm.Cond.instanceMethod y).before a0 Z = true) (wz : (Jvm.Cond.initialized y.cls).before a0 Z = true) (wc : (Jvm.Cond.code y bytes maxL ret').before a0 Z = true) (hy : notMH yr.cls)
    (E : Exa Z h a C0) (hds : parseMethodDescriptor yr.desc = some ⟨ps, r⟩) (hlen : as'.length = ps.length) (C : Con2 l Z nar y bytes maxL ret' rm' (.ref a :: as') h ws' Q') (hws : ∀ w ∈ ws', w ∈ M ∧ (w ∈ ws ∨ h0.size ≤ w)) (hcl : cl'.1 = true → cl.1 = true ∧ ∀ w ∈ ws', h0.size ≤ w) (hcs : cl'.2 = cl.2) (hL : L.size = ml)
    (hf : rm'.frames + 1 ≤ R.frames) (hlo : (rest.map fun v => v.category).sum + (maxL + 11) + rm'.locals ≤ R.locals) (hcc : k + rm'.cells ≤ R.cells) (hnn : n + rm'.slots ≤ R.slots) (hd : decode code pc = .ok (.invokevirtual idx, 3)) (hp : pc + 3 = pc') (hst : S = as'.reverse ++ .ref a :: rest)
    (K : ∀ (N : List Addr) (v : Option Value) (h' : Heap), Q' M N v h' → Keep h h' ws' → W B h' (k + rm'.cells) (n + rm'.slots) (N ++ M) cl' pc' L (v.toList ++ rest)) : W B h k n M cl pc L S := by
  subst hp
  refine W.call (len := 3) ok wc wz C hws hcl hcs hf hlo hcc hnn (fun T vm0 locs X hz ho eT Pre Post hK hpre => ?_) K
  obtain ⟨cB, kB, q1, q2, q3⟩ := isOf hz eT E
  refine X.virtualBackS ok.x ho (mv hz w1) (mv hz w2) ?_ (mv hz w3) (mv hz w4) hy hK q1 q3 (g := mkF B.m pc L S) rfl (by rw [ok.ml_]; exact hL) (Steps.refl _) (argsL := as') (rest := rest) (lenOf hds hlen) hst (by show 2 * 0 + _ ≤ _; omega) (hb ok.by_ hd) hpre
  obtain ⟨cc, kk, e1, e2, e3⟩ := nf
  intro r0 h0
  have f1 := findClass_of_methodNamed h0
  have f2 := (hz.alike.findClass _ _).trans e1
  obtain ⟨k', f3, f4⟩ := hz.alike.2.2 _ _ e2
  cases f1.symm.trans f2
  exact ⟨k', f3, by rw [f4]; exact e3⟩
/-- invokevirtual of x, which a class above x.cls (owner) declares -/
theorem W.callX (ok : Ok B l Z nar own nm code ml ret R h0 ws fr Q Me) {a : Addr} {C0 owner : String} {x : MethodName} (w1 : (Jvm.Cond.methodLink own idx x).before a0 Z = true) (w5 : (Jvm.Cond.sameMethod x.cls owner x.name x.desc).before a0 Z = true) (w2 : (Jvm.Cond.declares ⟨owner, x.name, x.desc⟩).before a0 Z = true) (ho' : notMH owner) (w3 : (Jvm.Cond.selects C0 x y).before a0 Z = true) (w4 : (Jvm.Cond.instanceMethod y).before a0 Z = true) (wz : (Jvm.Cond.initialized y.cls).before a0 Z = true) (wc : (Jvm.Cond.code y bytes maxL ret').before a0 Z = true)
    (E : Exa Z h a C0) (hds : parseMethodDescriptor x.desc = some ⟨ps, r⟩) (hlen : as'.length = ps.length) (C : Con2 l Z nar y bytes maxL ret' rm' (.ref a :: as') h ws' Q') (hws : ∀ w ∈ ws', w ∈ M ∧ (w ∈ ws ∨ h0.size ≤ w)) (hcl : cl'.1 = true → cl.1 = true ∧ ∀ w ∈ ws', h0.size ≤ w) (hcs : cl'.2 = cl.2) (hL : L.size = ml)
    (hf : rm'.frames + 1 ≤ R.frames) (hlo : (rest.map fun v => v.category).sum + (maxL + 11) + rm'.locals ≤ R.locals) (hcc : k + rm'.cells ≤ R.cells) (hnn : n + rm'.slots ≤ R.slots) (hd : decode code pc = .ok (.invokevirtual idx, 3)) (hp : pc + 3 = pc') (hst : S = as'.reverse ++ .ref a :: rest)
    (K : ∀ (N : List Addr) (v : Option Value) (h' : Heap), Q' M N v h' → Keep h h' ws' → W B h' (k + rm'.cells) (n + rm'.slots) (N ++ M) cl' pc' L (v.toList ++ rest)) : W B h k n M cl pc L S := by
  subst hp
  refine W.call (len := 3) ok wc wz C hws hcl hcs hf hlo hcc hnn (fun T vm0 locs X hz ho eT Pre Post hK hpre => ?_) K
  obtain ⟨cB, kB, q1, q2, q3⟩ := isOf hz eT E
  exact X.virtualBackUpS ok.x ho (mv hz w1) (mv hz w5) (mv hz w2) ho' (mv hz w3) (mv hz w4) hK q1 q3 (g := mkF B.m pc L S) rfl (by rw [ok.ml_]; exact hL) (Steps.refl _) (argsL := as') (rest := rest) (lenOf hds hlen) hst (by show 2 * 0 + _ ≤ _; omega) (hb ok.by_ hd) hpre
/-- System.arraycopy among arrays of one int-like type -/
theorem W.acopy (ok : Ok B l Z nar own nm code ml ret R h0 ws fr Q Me) {a b : Addr} {ty : FieldType} {xs ds : List Int32} {sp dp nn : Nat} {cl' : Cl} (w1 : (Jvm.Cond.methodLink own idx Jvm.Stand.acN).before a0 Z = true) (w2 : (Jvm.Cond.native Jvm.Stand.acN).before a0 Z = true) (w3 : (Jvm.Cond.static Jvm.Stand.acN).before a0 Z = true) (w4 : (Jvm.Cond.initialized "java/lang/System").before a0 Z = true)
    (A : ArI Z h a ty xs) (D : ArI Z h b ty ds) (hty : refKind ty = false) (h1 : sp + nn ≤ xs.length) (h2 : dp + nn ≤ ds.length) (h3 : xs.length < 2147483648) (h4 : ds.length < 2147483648) (ha : b ∈ M) (hw : b ∈ ws ∨ h0.size ≤ b) (hcl : cl'.1 = true → cl.1 = true ∧ h0.size ≤ b) (hcs : cl'.2 = cl.2) (hL : L.size = ml)
    (hfr : 1 ≤ R.frames) (hlo : (S.map fun v => v.category).sum + 18 ≤ R.locals) (hd : decode code pc = .ok (.invokestatic idx, 3)) (hp : pc + 3 = pc')
    (K : ∀ h' : Heap, Keep h h' [b] → ArI Z h' b ty (ds.take dp ++ (xs.drop sp).take nn ++ ds.drop (dp + nn)) → W B h' k n M cl' pc' L S) : W B h k n M cl pc L (.int nn.toInt32 :: .int dp.toInt32 :: .ref b :: .int sp.toInt32 :: .ref a :: S) := by
  subst hp
  refine W.heap (Φ := fun h' => Keep h h' [b] ∧ ArI Z h' b ty (ds.take dp ++ (xs.drop sp).take nn ++ ds.drop (dp + nn))) (k' := k) (n' := n) (M' := M) (cl' := cl') (L' := L) (S' := S) ok (fun T vm0 locs X hz ho eT hE hsz => ?_) hcs (fun h' q => K h' q.1 q.2)
  have eR := ok.R_
  subst eR
  obtain ⟨cs, As, es, fs⟩ := A
  obtain ⟨cd, Ad, ed, fd⟩ := D
  obtain ⟨os, ks, hks, sc, hsk⟩ := State.isArrayOf_alike hz.alike As.2.1
  obtain ⟨od, kd, hkd, dc, hdk⟩ := State.isArrayOf_alike hz.alike Ad.2.1
  have ssz : cs.slots.size = xs.length := by rw [es]; simp
  have dsz : cd.slots.size = ds.length := by rw [ed]; simp
  have n1 : (sp.toInt32).toNatClampNeg = sp := nat_i32 (by omega)
  have n2 : (dp.toInt32).toNatClampNeg = dp := nat_i32 (by omega)
  have n3 : (nn.toInt32).toNatClampNeg = nn := nat_i32 (by omega)
  have gv : ∀ i, i < nn → ∃ x, xs[sp + i]? = some x ∧ cs.slots.getD (sp + i) .null = .int x := fun i hi => by
    obtain ⟨x, hx⟩ := at_lt (cs := xs) (i := sp + i) (by omega)
    exact ⟨x, hx, by rw [Array.getD_eq_getD_getElem?, es]; simp [hx]⟩
  obtain ⟨vm₁, hW₁, X', st⟩ := X.arraycopyK ok.x ho (mv hz w1) (mv hz w2) (mv hz w3) (mv hz w4) (src := a) (dst := b) (srcPos := sp.toInt32) (destPos := dp.toInt32) (n := nn.toInt32) (by rw [eT]; exact As.1) (by rw [eT]; exact Ad.1) os od As.2.2 Ad.2.2 hks hkd hsk hdk
    (by simp [hty]) (i32_nn (by omega)) (i32_nn (by omega)) (i32_nn (by omega)) (by rw [i32_len (by omega), i32_len (by omega), ssz]; omega) (by rw [i32_len (by omega), i32_len (by omega), dsz]; omega)
    (fun vm₁ hw i hi => by
      rw [n3] at hi; rw [n1]
      obtain ⟨x, hx, e⟩ := gv i hi
      rw [e]; exact ⟨fs x (List.mem_of_getElem? hx), trivial⟩) (g := mkF B.m pc L (.int nn.toInt32 :: .int dp.toInt32 :: .ref b :: .int sp.toInt32 :: .ref a :: S)) rfl (by rw [ok.ml_]; exact hL) rfl (hb ok.by_ hd) hfr (by show 2 * 0 + _ + 18 ≤ _; omega)
  have hbl : b < h.size := Ad.lt
  have cf : (copied cs cd sp.toInt32 dp.toInt32 nn.toInt32).cls = cd.cls ∧ (copied cs cd sp.toInt32 dp.toInt32 nn.toInt32).vm = cd.vm ∧ (copied cs cd sp.toInt32 dp.toInt32 nn.toInt32).slots.size = cd.slots.size := let q := cd.storeRun_facts dp.toInt32.toNatClampNeg (cs.stretch sp.toInt32.toNatClampNeg nn.toInt32.toNatClampNeg); ⟨q.1, q.2.1, q.2.2.1⟩
  have eh : ((T.setVm vm₁).setCell b (copied cs cd sp.toInt32 dp.toInt32 nn.toInt32)).heap = h.setIfInBounds b (copied cs cd sp.toInt32 dp.toInt32 nn.toInt32) := by rw [← eT]; rfl
  have kp : Keep h (h.setIfInBounds b (copied cs cd sp.toInt32 dp.toInt32 nn.toInt32)) [b] := by
    refine ⟨by simp, fun x c q r => ?_, fun x c q => ?_⟩
    · have : b ≠ x := fun z => r (by simp [z])
      rw [Array.getElem?_setIfInBounds_ne this]; exact q
    · by_cases u : b = x
      · subst u; cases Ad.1.symm.trans q
        exact ⟨_, by rw [Array.getElem?_setIfInBounds_self_of_lt hbl], cf.1, cf.2.1, cf.2.2⟩
      · exact ⟨c, by rw [Array.getElem?_setIfInBounds_ne u]; exact q, rfl, rfl, rfl⟩
  have esl : (copied cs cd sp.toInt32 dp.toInt32 nn.toInt32).slots = ((ds.take dp ++ (xs.drop sp).take nn ++ ds.drop (dp + nn)).map Value.int).toArray := by
    apply Array.ext_getElem?
    intro j
    show (cd.storeRun dp.toInt32.toNatClampNeg (cs.stretch sp.toInt32.toNatClampNeg nn.toInt32.toNatClampNeg)).slots[j]? = _
    rw [n1, n2, n3, Cell.storeRun_get _ _ _ _ (by rw [Cell.stretch_length, dsz]; omega), Cell.stretch_length]
    have l1 : (ds.take dp).length = dp := by rw [List.length_take]; omega
    have l2 : ((xs.drop sp).take nn).length = nn := by rw [List.length_take, List.length_drop]; omega
    simp only [List.map_append, List.map_take, List.map_drop, List.getElem?_toArray]
    by_cases c1 : j < dp
    · rw [if_neg (by omega), List.append_assoc, List.getElem?_append_left (by simp; omega), List.getElem?_take_of_lt c1, ed]; simp
    · by_cases c2 : j < dp + nn
      · rw [if_pos ⟨by omega, c2⟩, List.getElem?_append_left (by simp; omega), List.getElem?_append_right (by simp; omega)]
        obtain ⟨x, hx, e⟩ := gv (j - dp) (by omega)
        have e1 : (cs.stretch sp nn)[j - dp]? = some (.int x) := by rw [Array.getD_eq_getD_getElem?] at e; simp [Cell.stretch, show j - dp < nn by omega, e]
        rw [e1]
        have l3 : (List.take dp (List.map Value.int ds)).length = dp := by rw [List.length_take, List.length_map]; omega
        rw [l3, List.getElem?_take_of_lt (by omega), List.getElem?_drop, List.getElem?_map, hx]; rfl
      · have l3 : (List.take dp (List.map Value.int ds) ++ List.take nn (List.drop sp (List.map Value.int xs))).length = dp + nn := by simp; omega
        rw [if_neg (by omega), List.getElem?_append_right (by rw [l3]; omega), l3, List.getElem?_drop, show dp + nn + (j - (dp + nn)) = j by omega, ed]; simp
  have isA : Z.isArrayOf (copied cs cd sp.toInt32 dp.toInt32 nn.toInt32) ty := by
    have := Ad.2.1; unfold State.isArrayOf at this ⊢; rw [cf.1, cf.2.1]; exact this
  have fall : ∀ x ∈ ds.take dp ++ (xs.drop sp).take nn ++ ds.drop (dp + nn), fits ty (.int x) = true := fun x hx => by
    rcases List.mem_append.mp hx with q | q
    · rcases List.mem_append.mp q with q | q
      · exact fd x (List.mem_of_mem_take q)
      · exact fs x (List.mem_of_mem_drop (List.mem_of_mem_take q))
    · exact fd x (List.mem_of_mem_drop q)
  refine ⟨_, _, X', by rw [eh]; exact Kept.keep kp (fun w q => by cases List.mem_singleton.mp q; exact ha), fun y hy => ?_, fun q => ⟨(hcl q).1, fun y hy => ?_⟩, fun x q => Or.inl q, eh ▸ ⟨kp, copied cs cd sp.toInt32 dp.toInt32 nn.toInt32, ⟨by rw [Array.getElem?_setIfInBounds_self_of_lt hbl], isA, by rw [cf.2.1]; exact Ad.2.2⟩, esl, fall⟩, st⟩
  · rw [copyLocs_base hy]; exact hw
  · rw [copyLocs_base hy]; exact (hcl q).2
end Calls
end Jvm.Pilot.@@N@@.Wk
namespace Jvm.Pilot.@@N@@.Wk
open Jvm Jvm.ClassFile Sem Op Lib Jvm.Free Jvm.Stand Jvm.LawKit Jvm.RoadKit Bundle
/-! ### a StringBuilder: its text (all below 256, coder 0), the bytes behind it -/
abbrev SBC : String := "java/lang/StringBuilder"
abbrev ASB : String := "java/lang/AbstractStringBuilder"
def SBd (Z : State) (h : Heap) (a t : Addr) (cs bs : List Int32) : Prop :=
  Exa Z h a SBC ∧ Fld Z h a ASB "value" "[B" (.ref t) ∧ Fld Z h a ASB "coder" "B" (.int 0) ∧ Fld Z h a ASB "count" "I" (.int cs.length.toInt32) ∧ ArI Z h t .byte (cs.map b8 ++ bs) ∧ ∀ c ∈ cs, 0 ≤ c.toInt ∧ c.toInt ≤ 255
theorem SBd.ext {Z : State} {h h' : Heap} {a t : Addr} {cs bs : List Int32} (F : SBd Z h a t cs bs) (E : Ext h h') : SBd Z h' a t cs bs := by
  obtain ⟨q1, q2, q3, q4, q5, q6⟩ := F
  exact ⟨q1.ext E, q2.ext E, q3.ext E, q4.ext E, q5.ext E, q6⟩
theorem SBd.cast {Z : State} {h : Heap} {a t : Addr} {cs bs cs' bs' : List Int32} (F : SBd Z h a t cs bs) (e : cs = cs') (e' : bs = bs') : SBd Z h a t cs' bs' := e ▸ e' ▸ F
theorem SBd.exa {Z : State} {h : Heap} {a t : Addr} {cs bs : List Int32} (F : SBd Z h a t cs bs) : Exa Z h a SBC := F.1
theorem SBd.ga {Z : State} {h : Heap} {a t : Addr} {cs bs : List Int32} (F : SBd Z h a t cs bs) : h.size > a := gtE F.1
theorem SBd.gt {Z : State} {h : Heap} {a t : Addr} {cs bs : List Int32} (F : SBd Z h a t cs bs) : h.size > t := F.2.2.2.2.1.gt
theorem Str.rng {Z : State} {h : Heap} {a : Addr} {cs : List Int32} (F : Str Z h a cs) : ∀ c ∈ cs, 0 ≤ c.toInt ∧ c.toInt ≤ 65535 := by obtain ⟨t, cd, bs, -, -, -, -, q⟩ := F; exact q.rng
theorem lay_sb (cs bs ds : List Int32) (h : ds.length ≤ bs.length) : (cs.map b8 ++ bs).take cs.length ++ ds.map b8 ++ (cs.map b8 ++ bs).drop (cs.length + ds.length) = (cs ++ ds).map b8 ++ bs.drop ds.length := by
  have e1 : (cs.map b8).length = cs.length := by simp
  rw [← e1, List.take_left, List.drop_append, List.drop_of_length_le (by omega), Nat.add_sub_cancel_left, List.map_append]; simp
theorem i32_add {a b : Nat} : a.toInt32 + b.toInt32 = (a + b).toInt32 := by
  simp [Nat.toInt32]
theorem i32_sub {a b : Nat} (h : b ≤ a) (ha : a < 2147483648) : a.toInt32 - b.toInt32 = (a - b).toInt32 := by
  apply Int32.toInt_inj.mp
  have h1 := c_isub a.toInt32 b.toInt32
  have h2 := i32_len (n := a) ha
  have h3 := i32_len (n := b) (by omega)
  have h4 := i32_len (n := a - b) (by omega)
  have := rng32 (a.toInt32 - b.toInt32)
  omega
theorem i32_le {a b : Nat} (ha : a < 2147483648) (hb : b < 2147483648) (h : a ≤ b) : ¬ 0 < a.toInt32 - b.toInt32 := by
  rw [Int32.lt_iff_toInt_lt]
  have h1 := c_isub a.toInt32 b.toInt32
  have h2 := i32_len (n := a) ha
  have h3 := i32_len (n := b) hb
  have h4 := rng32 (a.toInt32 - b.toInt32)
  have : (0 : Int32).toInt = 0 := rfl
  omega
theorem narV {t : FieldType} {v : Value} (ht : t.isReference = true) (hv : v.isRef = true) : narrow t v = v := by
  cases v <;> simp [Value.isRef] at hv <;> cases t <;> simp [FieldType.isReference] at ht <;> rfl
theorem fitV {t : FieldType} {v : Value} (ht : t.isReference = true) (hv : v.isRef = true) : fits t v = true := by
  cases v <;> simp [Value.isRef] at hv <;> cases t <;> simp [FieldType.isReference] at ht <;> rfl
theorem i32_add2 (a : Nat) : a.toInt32 + 2 = (a + 2).toInt32 := i32_add (a := a) (b := 2)
theorem i32_add3 (a : Nat) : a.toInt32 + 3 = (a + 3).toInt32 := i32_add (a := a) (b := 3)
theorem at_mid {A B D L : List Int32} {i : Nat} (e : L = A ++ (B ++ D)) (hi : i = A.length) : ∀ (j : Nat) (c : Int32), B[j]? = some c → L[i + j]? = some c := by
  subst e; subst hi
  intro j c hc
  rw [List.getElem?_append_right (by omega), Nat.add_sub_cancel_left, List.getElem?_append_left (lt_of_at hc)]; exact hc
theorem shl0 (x : Int32) : x <<< ((0 : Int32) &&& 31) = x := Int32.toInt_inj.mp (by have := c_ishl x 0 0 (by decide); have := rng32 (x <<< ((0 : Int32) &&& 31)); have := rng32 x; omega)
end Jvm.Pilot.@@N@@.Wk
namespace Jvm.Pilot.@@N@@
open Jvm Jvm.ClassFile Sem Op Lib Jvm.Free Jvm.Stand Jvm.LawKit Jvm.RoadKit Bundle Jvm.Pilot.@@N@@.Jvm.D Jvm.Pilot.@@N@@.Wk
def Ev (Z : State) (a0 : Array Value) : Prop := (∀ d ∈ tables_1, d.before a0 Z = true) ∧ (∃ g : Int32, ¬ g = 0 ∧ Sta Z Z.heap "java/lang/String" "COMPACT_STRINGS" "Z" (.int g)) ∧ (∃ g : Value, g.isRef = true ∧ Sta Z Z.heap "jdk/internal/util/Preconditions" "SIOOBE_FORMATTER" "Ljava/util/function/BiFunction;" g) ∧ (∀ q ∈ consts_1, Jvm.Lit.constHeld Z q.1 q.2) ∧ (Jvm.Lit.compactW.before a0 Z = true) ∧ (∃ g : Value, g.isRef = true ∧ Sta Z Z.heap "java/lang/Throwable" "UNASSIGNED_STACK" "[Ljava/lang/StackTraceElement;" g) ∧ (∃ g : Value, g.isRef = true ∧ Sta Z Z.heap "java/lang/Throwable" "SUPPRESSED_SENTINEL" "Ljava/util/List;" g)
theorem Ev.compact {Z : State} {a0 : Array Value} (h : Ev Z a0) : (∃ g : Int32, ¬ g = 0 ∧ Sta Z Z.heap "java/lang/String" "COMPACT_STRINGS" "Z" (.int g)) := h.2.1
theorem Ev.fmt {Z : State} {a0 : Array Value} (h : Ev Z a0) : (∃ g : Value, g.isRef = true ∧ Sta Z Z.heap "jdk/internal/util/Preconditions" "SIOOBE_FORMATTER" "Ljava/util/function/BiFunction;" g) := h.2.2.1
theorem Ev.held {Z : State} {a0 : Array Value} (h : Ev Z a0) : (∀ q ∈ consts_1, Jvm.Lit.constHeld Z q.1 q.2) := h.2.2.2.1
theorem Ev.cw {Z : State} {a0 : Array Value} (h : Ev Z a0) : (Jvm.Lit.compactW.before a0 Z = true) := h.2.2.2.2.1
theorem Ev.us {Z : State} {a0 : Array Value} (h : Ev Z a0) : (∃ g : Value, g.isRef = true ∧ Sta Z Z.heap "java/lang/Throwable" "UNASSIGNED_STACK" "[Ljava/lang/StackTraceElement;" g) := h.2.2.2.2.2.1
theorem Ev.ss {Z : State} {a0 : Array Value} (h : Ev Z a0) : (∃ g : Value, g.isRef = true ∧ Sta Z Z.heap "java/lang/Throwable" "SUPPRESSED_SENTINEL" "Ljava/util/List;" g) := h.2.2.2.2.2.2
theorem w0 {Z : State} {a0 : Array Value} (hw : ∀ d ∈ tables_1, d.before a0 Z = true) : ((Jvm.Cond.methodLink "com/example/vestline/vestline/input/MalformedFieldExceptionWithinPinLaw" (24 : Nat) ({ cls := "com/example/vestline/vestline/input/MalformedFieldExceptionWithinPinLaw", name := "str", desc := "(I)Ljava/lang/String;" } : Jvm.MethodName))).before a0 Z = true := hw _ (List.mem_of_getElem? (i := 0) rfl)
theorem w1 {Z : State} {a0 : Array Value} (hw : ∀ d ∈ tables_1, d.before a0 Z = true) : ((Jvm.Cond.static ({ cls := "com/example/vestline/vestline/input/MalformedFieldExceptionWithinPinLaw", name := "str", desc := "(I)Ljava/lang/String;" } : Jvm.MethodName))).before a0 Z = true := hw _ (List.mem_of_getElem? (i := 1) rfl)
theorem w2 {Z : State} {a0 : Array Value} (hw : ∀ d ∈ tables_1, d.before a0 Z = true) : ((Jvm.Cond.initialized "com/example/vestline/vestline/input/MalformedFieldExceptionWithinPinLaw")).before a0 Z = true := hw _ (List.mem_of_getElem? (i := 2) rfl)
theorem w3 {Z : State} {a0 : Array Value} (hw : ∀ d ∈ tables_1, d.before a0 Z = true) : ((Jvm.Cond.code ({ cls := "com/example/vestline/vestline/input/MalformedFieldExceptionWithinPinLaw", name := "str", desc := "(I)Ljava/lang/String;" } : Jvm.MethodName) method_2_code (4 : Nat) (Option.some (Jvm.ClassFile.FieldType.object "java/lang/String")))).before a0 Z = true := hw _ (List.mem_of_getElem? (i := 3) rfl)
theorem w4 {Z : State} {a0 : Array Value} (hw : ∀ d ∈ tables_1, d.before a0 Z = true) : ((Jvm.Cond.classLink "com/example/vestline/vestline/input/MalformedFieldExceptionWithinPinLaw" (7 : Nat) "java/lang/String")).before a0 Z = true := hw _ (List.mem_of_getElem? (i := 4) rfl)
theorem w5 {Z : State} {a0 : Array Value} (hw : ∀ d ∈ tables_1, d.before a0 Z = true) : ((Jvm.Cond.instantiable "java/lang/String" (4 : Nat))).before a0 Z = true := hw _ (List.mem_of_getElem? (i := 5) rfl)
theorem w6 {Z : State} {a0 : Array Value} (hw : ∀ d ∈ tables_1, d.before a0 Z = true) : ((Jvm.Cond.initialized "java/lang/String")).before a0 Z = true := hw _ (List.mem_of_getElem? (i := 6) rfl)
theorem w7 {Z : State} {a0 : Array Value} (hw : ∀ d ∈ tables_1, d.before a0 Z = true) : ((Jvm.Cond.arrayClass Jvm.ClassFile.FieldType.char)).before a0 Z = true := hw _ (List.mem_of_getElem? (i := 7) rfl)
theorem w8 {Z : State} {a0 : Array Value} (hw : ∀ d ∈ tables_1, d.before a0 Z = true) : ((Jvm.Cond.methodLink "com/example/vestline/vestline/input/MalformedFieldExceptionWithinPinLaw" (9 : Nat) ({ cls := "java/lang/String", name := "<init>", desc := "([C)V" } : Jvm.MethodName))).before a0 Z = true := hw _ (List.mem_of_getElem? (i := 8) rfl)
theorem w9 {Z : State} {a0 : Array Value} (hw : ∀ d ∈ tables_1, d.before a0 Z = true) : ((Jvm.Cond.instanceMethod ({ cls := "java/lang/String", name := "<init>", desc := "([C)V" } : Jvm.MethodName))).before a0 Z = true := hw _ (List.mem_of_getElem? (i := 9) rfl)
theorem w10 {Z : State} {a0 : Array Value} (hw : ∀ d ∈ tables_1, d.before a0 Z = true) : ((Jvm.Cond.code ({ cls := "java/lang/String", name := "<init>", desc := "([C)V" } : Jvm.MethodName) jdk_42_method_3_code (2 : Nat) (Option.none : Option Jvm.ClassFile.FieldType))).before a0 Z = true := hw _ (List.mem_of_getElem? (i := 10) rfl)
theorem w11 {Z : State} {a0 : Array Value} (hw : ∀ d ∈ tables_1, d.before a0 Z = true) : ((Jvm.Cond.methodLink "java/lang/String" (27 : Nat) ({ cls := "java/lang/String", name := "<init>", desc := "([CIILjava/lang/Void;)V" } : Jvm.MethodName))).before a0 Z = true := hw _ (List.mem_of_getElem? (i := 11) rfl)
theorem w12 {Z : State} {a0 : Array Value} (hw : ∀ d ∈ tables_1, d.before a0 Z = true) : ((Jvm.Cond.instanceMethod ({ cls := "java/lang/String", name := "<init>", desc := "([CIILjava/lang/Void;)V" } : Jvm.MethodName))).before a0 Z = true := hw _ (List.mem_of_getElem? (i := 12) rfl)
theorem w14 {Z : State} {a0 : Array Value} (hw : ∀ d ∈ tables_1, d.before a0 Z = true) : ((Jvm.Cond.code ({ cls := "java/lang/String", name := "<init>", desc := "([CIILjava/lang/Void;)V" } : Jvm.MethodName) jdk_42_method_149_code (6 : Nat) (Option.none : Option Jvm.ClassFile.FieldType))).before a0 Z = true := hw _ (List.mem_of_getElem? (i := 14) rfl)
theorem w15 {Z : State} {a0 : Array Value} (hw : ∀ d ∈ tables_1, d.before a0 Z = true) : ((Jvm.Cond.methodLink "java/lang/String" (1 : Nat) ({ cls := "java/lang/Object", name := "<init>", desc := "()V" } : Jvm.MethodName))).before a0 Z = true := hw _ (List.mem_of_getElem? (i := 15) rfl)
theorem w16 {Z : State} {a0 : Array Value} (hw : ∀ d ∈ tables_1, d.before a0 Z = true) : ((Jvm.Cond.instanceMethod ({ cls := "java/lang/Object", name := "<init>", desc := "()V" } : Jvm.MethodName))).before a0 Z = true := hw _ (List.mem_of_getElem? (i := 16) rfl)
theorem w17 {Z : State} {a0 : Array Value} (hw : ∀ d ∈ tables_1, d.before a0 Z = true) : ((Jvm.Cond.code ({ cls := "java/lang/Object", name := "<init>", desc := "()V" } : Jvm.MethodName) object_method_1_code (1 : Nat) (Option.none : Option Jvm.ClassFile.FieldType))).before a0 Z = true := hw _ (List.mem_of_getElem? (i := 17) rfl)
theorem w18 {Z : State} {a0 : Array Value} (hw : ∀ d ∈ tables_1, d.before a0 Z = true) : ((Jvm.Cond.stringLink "java/lang/String" (7 : Nat) "")).before a0 Z = true := hw _ (List.mem_of_getElem? (i := 18) rfl)
theorem w19 {Z : State} {a0 : Array Value} (hw : ∀ d ∈ tables_1, d.before a0 Z = true) : ((Jvm.Cond.arrayClass Jvm.ClassFile.FieldType.byte)).before a0 Z = true := hw _ (List.mem_of_getElem? (i := 19) rfl)
theorem w20 {Z : State} {a0 : Array Value} (hw : ∀ d ∈ tables_1, d.before a0 Z = true) : ((Jvm.Cond.laysFinal "java/lang/String" "java/lang/String" "value" "[B")).before a0 Z = true := hw _ (List.mem_of_getElem? (i := 20) rfl)
theorem w21 {Z : State} {a0 : Array Value} (hw : ∀ d ∈ tables_1, d.before a0 Z = true) : ((Jvm.Cond.laysFinal "java/lang/String" "java/lang/String" "coder" "B")).before a0 Z = true := hw _ (List.mem_of_getElem? (i := 21) rfl)
theorem w24 {Z : State} {a0 : Array Value} (hw : ∀ d ∈ tables_1, d.before a0 Z = true) : ((Jvm.Cond.fieldLink "java/lang/String" (9 : Nat) "java/lang/String" "value" "[B")).before a0 Z = true := hw _ (List.mem_of_getElem? (i := 24) rfl)
theorem w25 {Z : State} {a0 : Array Value} (hw : ∀ d ∈ tables_1, d.before a0 Z = true) : ((Jvm.Cond.fieldLink "java/lang/String" (15 : Nat) "java/lang/String" "coder" "B")).before a0 Z = true := hw _ (List.mem_of_getElem? (i := 25) rfl)
theorem w26 {Z : State} {a0 : Array Value} (hw : ∀ d ∈ tables_1, d.before a0 Z = true) : ((Jvm.Cond.methodLink "com/example/vestline/vestline/input/MalformedFieldExceptionWithinPinLaw" (16 : Nat) ({ cls := "java/lang/String", name := "length", desc := "()I" } : Jvm.MethodName))).before a0 Z = true := hw _ (List.mem_of_getElem? (i := 26) rfl)
theorem w27 {Z : State} {a0 : Array Value} (hw : ∀ d ∈ tables_1, d.before a0 Z = true) : ((Jvm.Cond.declares ({ cls := "java/lang/String", name := "length", desc := "()I" } : Jvm.MethodName))).before a0 Z = true := hw _ (List.mem_of_getElem? (i := 27) rfl)
theorem w28 {Z : State} {a0 : Array Value} (hw : ∀ d ∈ tables_1, d.before a0 Z = true) : ((Jvm.Cond.instanceMethod ({ cls := "java/lang/String", name := "length", desc := "()I" } : Jvm.MethodName))).before a0 Z = true := hw _ (List.mem_of_getElem? (i := 28) rfl)
theorem w29 {Z : State} {a0 : Array Value} (hw : ∀ d ∈ tables_1, d.before a0 Z = true) : ((Jvm.Cond.selects "java/lang/String" ({ cls := "java/lang/String", name := "length", desc := "()I" } : Jvm.MethodName) ({ cls := "java/lang/String", name := "length", desc := "()I" } : Jvm.MethodName))).before a0 Z = true := hw _ (List.mem_of_getElem? (i := 29) rfl)
theorem w30 {Z : State} {a0 : Array Value} (hw : ∀ d ∈ tables_1, d.before a0 Z = true) : ((Jvm.Cond.code ({ cls := "java/lang/String", name := "length", desc := "()I" } : Jvm.MethodName) jdk_42_method_54_code (1 : Nat) (Option.some Jvm.ClassFile.FieldType.int))).before a0 Z = true := hw _ (List.mem_of_getElem? (i := 30) rfl)
theorem w31 {Z : State} {a0 : Array Value} (hw : ∀ d ∈ tables_1, d.before a0 Z = true) : ((Jvm.Cond.methodLink "java/lang/String" (335 : Nat) ({ cls := "java/lang/String", name := "coder", desc := "()B" } : Jvm.MethodName))).before a0 Z = true := hw _ (List.mem_of_getElem? (i := 31) rfl)
theorem w32 {Z : State} {a0 : Array Value} (hw : ∀ d ∈ tables_1, d.before a0 Z = true) : ((Jvm.Cond.declares ({ cls := "java/lang/String", name := "coder", desc := "()B" } : Jvm.MethodName))).before a0 Z = true := hw _ (List.mem_of_getElem? (i := 32) rfl)
theorem w33 {Z : State} {a0 : Array Value} (hw : ∀ d ∈ tables_1, d.before a0 Z = true) : ((Jvm.Cond.instanceMethod ({ cls := "java/lang/String", name := "coder", desc := "()B" } : Jvm.MethodName))).before a0 Z = true := hw _ (List.mem_of_getElem? (i := 33) rfl)
theorem w34 {Z : State} {a0 : Array Value} (hw : ∀ d ∈ tables_1, d.before a0 Z = true) : ((Jvm.Cond.selects "java/lang/String" ({ cls := "java/lang/String", name := "coder", desc := "()B" } : Jvm.MethodName) ({ cls := "java/lang/String", name := "coder", desc := "()B" } : Jvm.MethodName))).before a0 Z = true := hw _ (List.mem_of_getElem? (i := 34) rfl)
theorem w35 {Z : State} {a0 : Array Value} (hw : ∀ d ∈ tables_1, d.before a0 Z = true) : ((Jvm.Cond.code ({ cls := "java/lang/String", name := "coder", desc := "()B" } : Jvm.MethodName) jdk_42_method_152_code (1 : Nat) (Option.some Jvm.ClassFile.FieldType.byte))).before a0 Z = true := hw _ (List.mem_of_getElem? (i := 35) rfl)
theorem w36 {Z : State} {a0 : Array Value} (hw : ∀ d ∈ tables_1, d.before a0 Z = true) : ((Jvm.Cond.fieldLink "java/lang/String" (38 : Nat) "java/lang/String" "COMPACT_STRINGS" "Z")).before a0 Z = true := hw _ (List.mem_of_getElem? (i := 36) rfl)
theorem w37 {Z : State} {a0 : Array Value} (hw : ∀ d ∈ tables_1, d.before a0 Z = true) : ((Jvm.Cond.classLink "com/example/vestline/vestline/input/MalformedFieldExceptionWithinPinLaw" (30 : Nat) "com/example/vestline/vestline/input/MalformedFieldException")).before a0 Z = true := hw _ (List.mem_of_getElem? (i := 37) rfl)
theorem w38 {Z : State} {a0 : Array Value} (hw : ∀ d ∈ tables_1, d.before a0 Z = true) : ((Jvm.Cond.instantiable "com/example/vestline/vestline/input/MalformedFieldException" (8 : Nat))).before a0 Z = true := hw _ (List.mem_of_getElem? (i := 38) rfl)
theorem w39 {Z : State} {a0 : Array Value} (hw : ∀ d ∈ tables_1, d.before a0 Z = true) : ((Jvm.Cond.initialized "com/example/vestline/vestline/input/MalformedFieldException")).before a0 Z = true := hw _ (List.mem_of_getElem? (i := 39) rfl)
theorem w40 {Z : State} {a0 : Array Value} (hw : ∀ d ∈ tables_1, d.before a0 Z = true) : ((Jvm.Cond.methodLink "com/example/vestline/vestline/input/MalformedFieldExceptionWithinPinLaw" (32 : Nat) ({ cls := "com/example/vestline/vestline/input/MalformedFieldException", name := "<init>", desc := "(Ljava/lang/String;Ljava/lang/String;)V" } : Jvm.MethodName))).before a0 Z = true := hw _ (List.mem_of_getElem? (i := 40) rfl)
theorem w41 {Z : State} {a0 : Array Value} (hw : ∀ d ∈ tables_1, d.before a0 Z = true) : ((Jvm.Cond.instanceMethod ({ cls := "com/example/vestline/vestline/input/MalformedFieldException", name := "<init>", desc := "(Ljava/lang/String;Ljava/lang/String;)V" } : Jvm.MethodName))).before a0 Z = true := hw _ (List.mem_of_getElem? (i := 41) rfl)
theorem w42 {Z : State} {a0 : Array Value} (hw : ∀ d ∈ tables_1, d.before a0 Z = true) : ((Jvm.Cond.code ({ cls := "com/example/vestline/vestline/input/MalformedFieldException", name := "<init>", desc := "(Ljava/lang/String;Ljava/lang/String;)V" } : Jvm.MethodName) prog_4_method_1_code (3 : Nat) (Option.none : Option Jvm.ClassFile.FieldType))).before a0 Z = true := hw _ (List.mem_of_getElem? (i := 42) rfl)
theorem w43 {Z : State} {a0 : Array Value} (hw : ∀ d ∈ tables_1, d.before a0 Z = true) : ((Jvm.Cond.classLink "com/example/vestline/vestline/input/MalformedFieldException" (1 : Nat) "java/lang/StringBuilder")).before a0 Z = true := hw _ (List.mem_of_getElem? (i := 43) rfl)
theorem w44 {Z : State} {a0 : Array Value} (hw : ∀ d ∈ tables_1, d.before a0 Z = true) : ((Jvm.Cond.instantiable "java/lang/StringBuilder" (4 : Nat))).before a0 Z = true := hw _ (List.mem_of_getElem? (i := 44) rfl)
theorem w45 {Z : State} {a0 : Array Value} (hw : ∀ d ∈ tables_1, d.before a0 Z = true) : ((Jvm.Cond.initialized "java/lang/StringBuilder")).before a0 Z = true := hw _ (List.mem_of_getElem? (i := 45) rfl)
theorem w46 {Z : State} {a0 : Array Value} (hw : ∀ d ∈ tables_1, d.before a0 Z = true) : ((Jvm.Cond.methodLink "com/example/vestline/vestline/input/MalformedFieldException" (3 : Nat) ({ cls := "java/lang/StringBuilder", name := "<init>", desc := "()V" } : Jvm.MethodName))).before a0 Z = true := hw _ (List.mem_of_getElem? (i := 46) rfl)
theorem w47 {Z : State} {a0 : Array Value} (hw : ∀ d ∈ tables_1, d.before a0 Z = true) : ((Jvm.Cond.instanceMethod ({ cls := "java/lang/StringBuilder", name := "<init>", desc := "()V" } : Jvm.MethodName))).before a0 Z = true := hw _ (List.mem_of_getElem? (i := 47) rfl)
theorem w48 {Z : State} {a0 : Array Value} (hw : ∀ d ∈ tables_1, d.before a0 Z = true) : ((Jvm.Cond.code ({ cls := "java/lang/StringBuilder", name := "<init>", desc := "()V" } : Jvm.MethodName) jdk_67_method_1_code (1 : Nat) (Option.none : Option Jvm.ClassFile.FieldType))).before a0 Z = true := hw _ (List.mem_of_getElem? (i := 48) rfl)
theorem w49 {Z : State} {a0 : Array Value} (hw : ∀ d ∈ tables_1, d.before a0 Z = true) : ((Jvm.Cond.methodLink "java/lang/StringBuilder" (1 : Nat) ({ cls := "java/lang/AbstractStringBuilder", name := "<init>", desc := "(I)V" } : Jvm.MethodName))).before a0 Z = true := hw _ (List.mem_of_getElem? (i := 49) rfl)
theorem w50 {Z : State} {a0 : Array Value} (hw : ∀ d ∈ tables_1, d.before a0 Z = true) : ((Jvm.Cond.instanceMethod ({ cls := "java/lang/AbstractStringBuilder", name := "<init>", desc := "(I)V" } : Jvm.MethodName))).before a0 Z = true := hw _ (List.mem_of_getElem? (i := 50) rfl)
theorem w53 {Z : State} {a0 : Array Value} (hw : ∀ d ∈ tables_1, d.before a0 Z = true) : ((Jvm.Cond.initialized "java/lang/AbstractStringBuilder")).before a0 Z = true := hw _ (List.mem_of_getElem? (i := 53) rfl)
theorem w54 {Z : State} {a0 : Array Value} (hw : ∀ d ∈ tables_1, d.before a0 Z = true) : ((Jvm.Cond.code ({ cls := "java/lang/AbstractStringBuilder", name := "<init>", desc := "(I)V" } : Jvm.MethodName) jdk_68_method_2_code (2 : Nat) (Option.none : Option Jvm.ClassFile.FieldType))).before a0 Z = true := hw _ (List.mem_of_getElem? (i := 54) rfl)
theorem w55 {Z : State} {a0 : Array Value} (hw : ∀ d ∈ tables_1, d.before a0 Z = true) : ((Jvm.Cond.methodLink "java/lang/AbstractStringBuilder" (3 : Nat) ({ cls := "java/lang/Object", name := "<init>", desc := "()V" } : Jvm.MethodName))).before a0 Z = true := hw _ (List.mem_of_getElem? (i := 55) rfl)
theorem w56 {Z : State} {a0 : Array Value} (hw : ∀ d ∈ tables_1, d.before a0 Z = true) : ((Jvm.Cond.fieldLink "java/lang/AbstractStringBuilder" (18 : Nat) "java/lang/String" "COMPACT_STRINGS" "Z")).before a0 Z = true := hw _ (List.mem_of_getElem? (i := 56) rfl)
theorem w57 {Z : State} {a0 : Array Value} (hw : ∀ d ∈ tables_1, d.before a0 Z = true) : ((Jvm.Cond.fieldLink "java/lang/AbstractStringBuilder" (15 : Nat) "java/lang/AbstractStringBuilder" "value" "[B")).before a0 Z = true := hw _ (List.mem_of_getElem? (i := 57) rfl)
theorem w58 {Z : State} {a0 : Array Value} (hw : ∀ d ∈ tables_1, d.before a0 Z = true) : ((Jvm.Cond.lays "java/lang/StringBuilder" "java/lang/AbstractStringBuilder" "value" "[B")).before a0 Z = true := hw _ (List.mem_of_getElem? (i := 58) rfl)
theorem w59 {Z : State} {a0 : Array Value} (hw : ∀ d ∈ tables_1, d.before a0 Z = true) : ((Jvm.Cond.fieldLink "java/lang/AbstractStringBuilder" (22 : Nat) "java/lang/AbstractStringBuilder" "coder" "B")).before a0 Z = true := hw _ (List.mem_of_getElem? (i := 59) rfl)
theorem w60 {Z : State} {a0 : Array Value} (hw : ∀ d ∈ tables_1, d.before a0 Z = true) : ((Jvm.Cond.lays "java/lang/StringBuilder" "java/lang/AbstractStringBuilder" "coder" "B")).before a0 Z = true := hw _ (List.mem_of_getElem? (i := 60) rfl)
theorem w61 {Z : State} {a0 : Array Value} (hw : ∀ d ∈ tables_1, d.before a0 Z = true) : ((Jvm.Cond.methodLink "com/example/vestline/vestline/input/MalformedFieldException" (7 : Nat) ({ cls := "java/lang/StringBuilder", name := "append", desc := "(Ljava/lang/String;)Ljava/lang/StringBuilder;" } : Jvm.MethodName))).before a0 Z = true := hw _ (List.mem_of_getElem? (i := 61) rfl)
theorem w62 {Z : State} {a0 : Array Value} (hw : ∀ d ∈ tables_1, d.before a0 Z = true) : ((Jvm.Cond.declares ({ cls := "java/lang/StringBuilder", name := "append", desc := "(Ljava/lang/String;)Ljava/lang/StringBuilder;" } : Jvm.MethodName))).before a0 Z = true := hw _ (List.mem_of_getElem? (i := 62) rfl)
theorem w63 {Z : State} {a0 : Array Value} (hw : ∀ d ∈ tables_1, d.before a0 Z = true) : ((Jvm.Cond.instanceMethod ({ cls := "java/lang/StringBuilder", name := "append", desc := "(Ljava/lang/String;)Ljava/lang/StringBuilder;" } : Jvm.MethodName))).before a0 Z = true := hw _ (List.mem_of_getElem? (i := 63) rfl)
theorem w64 {Z : State} {a0 : Array Value} (hw : ∀ d ∈ tables_1, d.before a0 Z = true) : ((Jvm.Cond.selects "java/lang/StringBuilder" ({ cls := "java/lang/StringBuilder", name := "append", desc := "(Ljava/lang/String;)Ljava/lang/StringBuilder;" } : Jvm.MethodName) ({ cls := "java/lang/StringBuilder", name := "append", desc := "(Ljava/lang/String;)Ljava/lang/StringBuilder;" } : Jvm.MethodName))).before a0 Z = true := hw _ (List.mem_of_getElem? (i := 64) rfl)
theorem w65 {Z : State} {a0 : Array Value} (hw : ∀ d ∈ tables_1, d.before a0 Z = true) : ((Jvm.Cond.code ({ cls := "java/lang/StringBuilder", name := "append", desc := "(Ljava/lang/String;)Ljava/lang/StringBuilder;" } : Jvm.MethodName) jdk_67_method_7_code (2 : Nat) (Option.some (Jvm.ClassFile.FieldType.object "java/lang/StringBuilder")))).before a0 Z = true := hw _ (List.mem_of_getElem? (i := 65) rfl)
theorem w66 {Z : State} {a0 : Array Value} (hw : ∀ d ∈ tables_1, d.before a0 Z = true) : ((Jvm.Cond.methodLink "java/lang/StringBuilder" (29 : Nat) ({ cls := "java/lang/AbstractStringBuilder", name := "append", desc := "(Ljava/lang/String;)Ljava/lang/AbstractStringBuilder;" } : Jvm.MethodName))).before a0 Z = true := hw _ (List.mem_of_getElem? (i := 66) rfl)
theorem w67 {Z : State} {a0 : Array Value} (hw : ∀ d ∈ tables_1, d.before a0 Z = true) : ((Jvm.Cond.instanceMethod ({ cls := "java/lang/AbstractStringBuilder", name := "append", desc := "(Ljava/lang/String;)Ljava/lang/AbstractStringBuilder;" } : Jvm.MethodName))).before a0 Z = true := hw _ (List.mem_of_getElem? (i := 67) rfl)
theorem w68 {Z : State} {a0 : Array Value} (hw : ∀ d ∈ tables_1, d.before a0 Z = true) : ((Jvm.Cond.superclass "java/lang/StringBuilder" "java/lang/AbstractStringBuilder")).before a0 Z = true := hw _ (List.mem_of_getElem? (i := 68) rfl)
theorem w70 {Z : State} {a0 : Array Value} (hw : ∀ d ∈ tables_1, d.before a0 Z = true) : ((Jvm.Cond.code ({ cls := "java/lang/AbstractStringBuilder", name := "append", desc := "(Ljava/lang/String;)Ljava/lang/AbstractStringBuilder;" } : Jvm.MethodName) jdk_68_method_22_code (3 : Nat) (Option.some (Jvm.ClassFile.FieldType.object "java/lang/AbstractStringBuilder")))).before a0 Z = true := hw _ (List.mem_of_getElem? (i := 70) rfl)
theorem w71 {Z : State} {a0 : Array Value} (hw : ∀ d ∈ tables_1, d.before a0 Z = true) : ((Jvm.Cond.methodLink "java/lang/AbstractStringBuilder" (32 : Nat) ({ cls := "java/lang/String", name := "length", desc := "()I" } : Jvm.MethodName))).before a0 Z = true := hw _ (List.mem_of_getElem? (i := 71) rfl)
theorem w72 {Z : State} {a0 : Array Value} (hw : ∀ d ∈ tables_1, d.before a0 Z = true) : ((Jvm.Cond.fieldLink "java/lang/AbstractStringBuilder" (79 : Nat) "java/lang/AbstractStringBuilder" "count" "I")).before a0 Z = true := hw _ (List.mem_of_getElem? (i := 72) rfl)
theorem w73 {Z : State} {a0 : Array Value} (hw : ∀ d ∈ tables_1, d.before a0 Z = true) : ((Jvm.Cond.lays "java/lang/StringBuilder" "java/lang/AbstractStringBuilder" "count" "I")).before a0 Z = true := hw _ (List.mem_of_getElem? (i := 73) rfl)
theorem w74 {Z : State} {a0 : Array Value} (hw : ∀ d ∈ tables_1, d.before a0 Z = true) : ((Jvm.Cond.methodLink "java/lang/AbstractStringBuilder" (100 : Nat) ({ cls := "java/lang/AbstractStringBuilder", name := "ensureCapacityInternal", desc := "(I)V" } : Jvm.MethodName))).before a0 Z = true := hw _ (List.mem_of_getElem? (i := 74) rfl)
theorem w75 {Z : State} {a0 : Array Value} (hw : ∀ d ∈ tables_1, d.before a0 Z = true) : ((Jvm.Cond.instanceMethod ({ cls := "java/lang/AbstractStringBuilder", name := "ensureCapacityInternal", desc := "(I)V" } : Jvm.MethodName))).before a0 Z = true := hw _ (List.mem_of_getElem? (i := 75) rfl)
theorem w77 {Z : State} {a0 : Array Value} (hw : ∀ d ∈ tables_1, d.before a0 Z = true) : ((Jvm.Cond.selects "java/lang/StringBuilder" ({ cls := "java/lang/AbstractStringBuilder", name := "ensureCapacityInternal", desc := "(I)V" } : Jvm.MethodName) ({ cls := "java/lang/AbstractStringBuilder", name := "ensureCapacityInternal", desc := "(I)V" } : Jvm.MethodName))).before a0 Z = true := hw _ (List.mem_of_getElem? (i := 77) rfl)
theorem w78 {Z : State} {a0 : Array Value} (hw : ∀ d ∈ tables_1, d.before a0 Z = true) : ((Jvm.Cond.code ({ cls := "java/lang/AbstractStringBuilder", name := "ensureCapacityInternal", desc := "(I)V" } : Jvm.MethodName) jdk_68_method_9_code (3 : Nat) (Option.none : Option Jvm.ClassFile.FieldType))).before a0 Z = true := hw _ (List.mem_of_getElem? (i := 78) rfl)
theorem w79 {Z : State} {a0 : Array Value} (hw : ∀ d ∈ tables_1, d.before a0 Z = true) : ((Jvm.Cond.methodLink "java/lang/AbstractStringBuilder" (208 : Nat) ({ cls := "java/lang/AbstractStringBuilder", name := "putStringAt", desc := "(ILjava/lang/String;)V" } : Jvm.MethodName))).before a0 Z = true := hw _ (List.mem_of_getElem? (i := 79) rfl)
theorem w80 {Z : State} {a0 : Array Value} (hw : ∀ d ∈ tables_1, d.before a0 Z = true) : ((Jvm.Cond.instanceMethod ({ cls := "java/lang/AbstractStringBuilder", name := "putStringAt", desc := "(ILjava/lang/String;)V" } : Jvm.MethodName))).before a0 Z = true := hw _ (List.mem_of_getElem? (i := 80) rfl)
theorem w82 {Z : State} {a0 : Array Value} (hw : ∀ d ∈ tables_1, d.before a0 Z = true) : ((Jvm.Cond.selects "java/lang/StringBuilder" ({ cls := "java/lang/AbstractStringBuilder", name := "putStringAt", desc := "(ILjava/lang/String;)V" } : Jvm.MethodName) ({ cls := "java/lang/AbstractStringBuilder", name := "putStringAt", desc := "(ILjava/lang/String;)V" } : Jvm.MethodName))).before a0 Z = true := hw _ (List.mem_of_getElem? (i := 82) rfl)
theorem w83 {Z : State} {a0 : Array Value} (hw : ∀ d ∈ tables_1, d.before a0 Z = true) : ((Jvm.Cond.code ({ cls := "java/lang/AbstractStringBuilder", name := "putStringAt", desc := "(ILjava/lang/String;)V" } : Jvm.MethodName) jdk_68_method_73_code (3 : Nat) (Option.none : Option Jvm.ClassFile.FieldType))).before a0 Z = true := hw _ (List.mem_of_getElem? (i := 83) rfl)
theorem w84 {Z : State} {a0 : Array Value} (hw : ∀ d ∈ tables_1, d.before a0 Z = true) : ((Jvm.Cond.methodLink "java/lang/AbstractStringBuilder" (397 : Nat) ({ cls := "java/lang/AbstractStringBuilder", name := "inflateIfNeededFor", desc := "(Ljava/lang/String;)V" } : Jvm.MethodName))).before a0 Z = true := hw _ (List.mem_of_getElem? (i := 84) rfl)
theorem w85 {Z : State} {a0 : Array Value} (hw : ∀ d ∈ tables_1, d.before a0 Z = true) : ((Jvm.Cond.instanceMethod ({ cls := "java/lang/AbstractStringBuilder", name := "inflateIfNeededFor", desc := "(Ljava/lang/String;)V" } : Jvm.MethodName))).before a0 Z = true := hw _ (List.mem_of_getElem? (i := 85) rfl)
theorem w87 {Z : State} {a0 : Array Value} (hw : ∀ d ∈ tables_1, d.before a0 Z = true) : ((Jvm.Cond.selects "java/lang/StringBuilder" ({ cls := "java/lang/AbstractStringBuilder", name := "inflateIfNeededFor", desc := "(Ljava/lang/String;)V" } : Jvm.MethodName) ({ cls := "java/lang/AbstractStringBuilder", name := "inflateIfNeededFor", desc := "(Ljava/lang/String;)V" } : Jvm.MethodName))).before a0 Z = true := hw _ (List.mem_of_getElem? (i := 87) rfl)
theorem w88 {Z : State} {a0 : Array Value} (hw : ∀ d ∈ tables_1, d.before a0 Z = true) : ((Jvm.Cond.code ({ cls := "java/lang/AbstractStringBuilder", name := "inflateIfNeededFor", desc := "(Ljava/lang/String;)V" } : Jvm.MethodName) jdk_68_method_71_code (2 : Nat) (Option.none : Option Jvm.ClassFile.FieldType))).before a0 Z = true := hw _ (List.mem_of_getElem? (i := 88) rfl)
theorem w89 {Z : State} {a0 : Array Value} (hw : ∀ d ∈ tables_1, d.before a0 Z = true) : ((Jvm.Cond.methodLink "java/lang/AbstractStringBuilder" (40 : Nat) ({ cls := "java/lang/String", name := "coder", desc := "()B" } : Jvm.MethodName))).before a0 Z = true := hw _ (List.mem_of_getElem? (i := 89) rfl)
theorem w90 {Z : State} {a0 : Array Value} (hw : ∀ d ∈ tables_1, d.before a0 Z = true) : ((Jvm.Cond.methodLink "java/lang/AbstractStringBuilder" (399 : Nat) ({ cls := "java/lang/String", name := "getBytes", desc := "([BIB)V" } : Jvm.MethodName))).before a0 Z = true := hw _ (List.mem_of_getElem? (i := 90) rfl)
theorem w91 {Z : State} {a0 : Array Value} (hw : ∀ d ∈ tables_1, d.before a0 Z = true) : ((Jvm.Cond.declares ({ cls := "java/lang/String", name := "getBytes", desc := "([BIB)V" } : Jvm.MethodName))).before a0 Z = true := hw _ (List.mem_of_getElem? (i := 91) rfl)
theorem w92 {Z : State} {a0 : Array Value} (hw : ∀ d ∈ tables_1, d.before a0 Z = true) : ((Jvm.Cond.instanceMethod ({ cls := "java/lang/String", name := "getBytes", desc := "([BIB)V" } : Jvm.MethodName))).before a0 Z = true := hw _ (List.mem_of_getElem? (i := 92) rfl)
theorem w93 {Z : State} {a0 : Array Value} (hw : ∀ d ∈ tables_1, d.before a0 Z = true) : ((Jvm.Cond.selects "java/lang/String" ({ cls := "java/lang/String", name := "getBytes", desc := "([BIB)V" } : Jvm.MethodName) ({ cls := "java/lang/String", name := "getBytes", desc := "([BIB)V" } : Jvm.MethodName))).before a0 Z = true := hw _ (List.mem_of_getElem? (i := 93) rfl)
theorem w94 {Z : State} {a0 : Array Value} (hw : ∀ d ∈ tables_1, d.before a0 Z = true) : ((Jvm.Cond.code ({ cls := "java/lang/String", name := "getBytes", desc := "([BIB)V" } : Jvm.MethodName) jdk_42_method_147_code (4 : Nat) (Option.none : Option Jvm.ClassFile.FieldType))).before a0 Z = true := hw _ (List.mem_of_getElem? (i := 94) rfl)
theorem w95 {Z : State} {a0 : Array Value} (hw : ∀ d ∈ tables_1, d.before a0 Z = true) : ((Jvm.Cond.methodLink "java/lang/String" (212 : Nat) ({ cls := "java/lang/System", name := "arraycopy", desc := "(Ljava/lang/Object;ILjava/lang/Object;II)V" } : Jvm.MethodName))).before a0 Z = true := hw _ (List.mem_of_getElem? (i := 95) rfl)
theorem w96 {Z : State} {a0 : Array Value} (hw : ∀ d ∈ tables_1, d.before a0 Z = true) : ((Jvm.Cond.static ({ cls := "java/lang/System", name := "arraycopy", desc := "(Ljava/lang/Object;ILjava/lang/Object;II)V" } : Jvm.MethodName))).before a0 Z = true := hw _ (List.mem_of_getElem? (i := 96) rfl)
theorem w97 {Z : State} {a0 : Array Value} (hw : ∀ d ∈ tables_1, d.before a0 Z = true) : ((Jvm.Cond.initialized "java/lang/System")).before a0 Z = true := hw _ (List.mem_of_getElem? (i := 97) rfl)
theorem w98 {Z : State} {a0 : Array Value} (hw : ∀ d ∈ tables_1, d.before a0 Z = true) : ((Jvm.Cond.native ({ cls := "java/lang/System", name := "arraycopy", desc := "(Ljava/lang/Object;ILjava/lang/Object;II)V" } : Jvm.MethodName))).before a0 Z = true := hw _ (List.mem_of_getElem? (i := 98) rfl)
theorem w99 {Z : State} {a0 : Array Value} (hw : ∀ d ∈ tables_1, d.before a0 Z = true) : ((Jvm.Cond.stringLink "com/example/vestline/vestline/input/MalformedFieldException" (11 : Nat) ": ")).before a0 Z = true := hw _ (List.mem_of_getElem? (i := 99) rfl)
theorem w100 {Z : State} {a0 : Array Value} (hw : ∀ d ∈ tables_1, d.before a0 Z = true) : ((Jvm.Cond.methodLink "com/example/vestline/vestline/input/MalformedFieldException" (13 : Nat) ({ cls := "java/lang/StringBuilder", name := "toString", desc := "()Ljava/lang/String;" } : Jvm.MethodName))).before a0 Z = true := hw _ (List.mem_of_getElem? (i := 100) rfl)
theorem w101 {Z : State} {a0 : Array Value} (hw : ∀ d ∈ tables_1, d.before a0 Z = true) : ((Jvm.Cond.declares ({ cls := "java/lang/StringBuilder", name := "toString", desc := "()Ljava/lang/String;" } : Jvm.MethodName))).before a0 Z = true := hw _ (List.mem_of_getElem? (i := 101) rfl)
theorem w102 {Z : State} {a0 : Array Value} (hw : ∀ d ∈ tables_1, d.before a0 Z = true) : ((Jvm.Cond.instanceMethod ({ cls := "java/lang/StringBuilder", name := "toString", desc := "()Ljava/lang/String;" } : Jvm.MethodName))).before a0 Z = true := hw _ (List.mem_of_getElem? (i := 102) rfl)
theorem w103 {Z : State} {a0 : Array Value} (hw : ∀ d ∈ tables_1, d.before a0 Z = true) : ((Jvm.Cond.selects "java/lang/StringBuilder" ({ cls := "java/lang/StringBuilder", name := "toString", desc := "()Ljava/lang/String;" } : Jvm.MethodName) ({ cls := "java/lang/StringBuilder", name := "toString", desc := "()Ljava/lang/String;" } : Jvm.MethodName))).before a0 Z = true := hw _ (List.mem_of_getElem? (i := 103) rfl)
theorem w104 {Z : State} {a0 : Array Value} (hw : ∀ d ∈ tables_1, d.before a0 Z = true) : ((Jvm.Cond.code ({ cls := "java/lang/StringBuilder", name := "toString", desc := "()Ljava/lang/String;" } : Jvm.MethodName) jdk_67_method_42_code (1 : Nat) (Option.some (Jvm.ClassFile.FieldType.object "java/lang/String")))).before a0 Z = true := hw _ (List.mem_of_getElem? (i := 104) rfl)
theorem w105 {Z : State} {a0 : Array Value} (hw : ∀ d ∈ tables_1, d.before a0 Z = true) : ((Jvm.Cond.classLink "java/lang/StringBuilder" (18 : Nat) "java/lang/String")).before a0 Z = true := hw _ (List.mem_of_getElem? (i := 105) rfl)
theorem w106 {Z : State} {a0 : Array Value} (hw : ∀ d ∈ tables_1, d.before a0 Z = true) : ((Jvm.Cond.methodLink "java/lang/StringBuilder" (137 : Nat) ({ cls := "java/lang/String", name := "<init>", desc := "(Ljava/lang/StringBuilder;)V" } : Jvm.MethodName))).before a0 Z = true := hw _ (List.mem_of_getElem? (i := 106) rfl)
theorem w107 {Z : State} {a0 : Array Value} (hw : ∀ d ∈ tables_1, d.before a0 Z = true) : ((Jvm.Cond.instanceMethod ({ cls := "java/lang/String", name := "<init>", desc := "(Ljava/lang/StringBuilder;)V" } : Jvm.MethodName))).before a0 Z = true := hw _ (List.mem_of_getElem? (i := 107) rfl)
theorem w108 {Z : State} {a0 : Array Value} (hw : ∀ d ∈ tables_1, d.before a0 Z = true) : ((Jvm.Cond.code ({ cls := "java/lang/String", name := "<init>", desc := "(Ljava/lang/StringBuilder;)V" } : Jvm.MethodName) jdk_42_method_53_code (2 : Nat) (Option.none : Option Jvm.ClassFile.FieldType))).before a0 Z = true := hw _ (List.mem_of_getElem? (i := 108) rfl)
theorem w109 {Z : State} {a0 : Array Value} (hw : ∀ d ∈ tables_1, d.before a0 Z = true) : ((Jvm.Cond.methodLink "java/lang/String" (489 : Nat) ({ cls := "java/lang/String", name := "<init>", desc := "(Ljava/lang/AbstractStringBuilder;Ljava/lang/Void;)V" } : Jvm.MethodName))).before a0 Z = true := hw _ (List.mem_of_getElem? (i := 109) rfl)
theorem w110 {Z : State} {a0 : Array Value} (hw : ∀ d ∈ tables_1, d.before a0 Z = true) : ((Jvm.Cond.instanceMethod ({ cls := "java/lang/String", name := "<init>", desc := "(Ljava/lang/AbstractStringBuilder;Ljava/lang/Void;)V" } : Jvm.MethodName))).before a0 Z = true := hw _ (List.mem_of_getElem? (i := 110) rfl)
theorem w111 {Z : State} {a0 : Array Value} (hw : ∀ d ∈ tables_1, d.before a0 Z = true) : ((Jvm.Cond.code ({ cls := "java/lang/String", name := "<init>", desc := "(Ljava/lang/AbstractStringBuilder;Ljava/lang/Void;)V" } : Jvm.MethodName) jdk_42_method_150_code (5 : Nat) (Option.none : Option Jvm.ClassFile.FieldType))).before a0 Z = true := hw _ (List.mem_of_getElem? (i := 111) rfl)
theorem w112 {Z : State} {a0 : Array Value} (hw : ∀ d ∈ tables_1, d.before a0 Z = true) : ((Jvm.Cond.methodLink "java/lang/String" (552 : Nat) ({ cls := "java/lang/AbstractStringBuilder", name := "getValue", desc := "()[B" } : Jvm.MethodName))).before a0 Z = true := hw _ (List.mem_of_getElem? (i := 112) rfl)
theorem w113 {Z : State} {a0 : Array Value} (hw : ∀ d ∈ tables_1, d.before a0 Z = true) : ((Jvm.Cond.declares ({ cls := "java/lang/AbstractStringBuilder", name := "getValue", desc := "()[B" } : Jvm.MethodName))).before a0 Z = true := hw _ (List.mem_of_getElem? (i := 113) rfl)
theorem w114 {Z : State} {a0 : Array Value} (hw : ∀ d ∈ tables_1, d.before a0 Z = true) : ((Jvm.Cond.instanceMethod ({ cls := "java/lang/AbstractStringBuilder", name := "getValue", desc := "()[B" } : Jvm.MethodName))).before a0 Z = true := hw _ (List.mem_of_getElem? (i := 114) rfl)
theorem w115 {Z : State} {a0 : Array Value} (hw : ∀ d ∈ tables_1, d.before a0 Z = true) : ((Jvm.Cond.selects "java/lang/StringBuilder" ({ cls := "java/lang/AbstractStringBuilder", name := "getValue", desc := "()[B" } : Jvm.MethodName) ({ cls := "java/lang/AbstractStringBuilder", name := "getValue", desc := "()[B" } : Jvm.MethodName))).before a0 Z = true := hw _ (List.mem_of_getElem? (i := 115) rfl)
theorem w116 {Z : State} {a0 : Array Value} (hw : ∀ d ∈ tables_1, d.before a0 Z = true) : ((Jvm.Cond.code ({ cls := "java/lang/AbstractStringBuilder", name := "getValue", desc := "()[B" } : Jvm.MethodName) jdk_68_method_64_code (1 : Nat) (Option.some (Jvm.ClassFile.FieldType.array Jvm.ClassFile.FieldType.byte)))).before a0 Z = true := hw _ (List.mem_of_getElem? (i := 116) rfl)
theorem w117 {Z : State} {a0 : Array Value} (hw : ∀ d ∈ tables_1, d.before a0 Z = true) : ((Jvm.Cond.methodLink "java/lang/String" (549 : Nat) ({ cls := "java/lang/AbstractStringBuilder", name := "length", desc := "()I" } : Jvm.MethodName))).before a0 Z = true := hw _ (List.mem_of_getElem? (i := 117) rfl)
theorem w118 {Z : State} {a0 : Array Value} (hw : ∀ d ∈ tables_1, d.before a0 Z = true) : ((Jvm.Cond.declares ({ cls := "java/lang/AbstractStringBuilder", name := "length", desc := "()I" } : Jvm.MethodName))).before a0 Z = true := hw _ (List.mem_of_getElem? (i := 118) rfl)
theorem w119 {Z : State} {a0 : Array Value} (hw : ∀ d ∈ tables_1, d.before a0 Z = true) : ((Jvm.Cond.instanceMethod ({ cls := "java/lang/AbstractStringBuilder", name := "length", desc := "()I" } : Jvm.MethodName))).before a0 Z = true := hw _ (List.mem_of_getElem? (i := 119) rfl)
theorem w120 {Z : State} {a0 : Array Value} (hw : ∀ d ∈ tables_1, d.before a0 Z = true) : ((Jvm.Cond.selects "java/lang/StringBuilder" ({ cls := "java/lang/AbstractStringBuilder", name := "length", desc := "()I" } : Jvm.MethodName) ({ cls := "java/lang/StringBuilder", name := "length", desc := "()I" } : Jvm.MethodName))).before a0 Z = true := hw _ (List.mem_of_getElem? (i := 120) rfl)
theorem w121 {Z : State} {a0 : Array Value} (hw : ∀ d ∈ tables_1, d.before a0 Z = true) : ((Jvm.Cond.instanceMethod ({ cls := "java/lang/StringBuilder", name := "length", desc := "()I" } : Jvm.MethodName))).before a0 Z = true := hw _ (List.mem_of_getElem? (i := 121) rfl)
theorem w122 {Z : State} {a0 : Array Value} (hw : ∀ d ∈ tables_1, d.before a0 Z = true) : ((Jvm.Cond.code ({ cls := "java/lang/StringBuilder", name := "length", desc := "()I" } : Jvm.MethodName) jdk_67_method_93_code (1 : Nat) (Option.some Jvm.ClassFile.FieldType.int))).before a0 Z = true := hw _ (List.mem_of_getElem? (i := 122) rfl)
theorem w123 {Z : State} {a0 : Array Value} (hw : ∀ d ∈ tables_1, d.before a0 Z = true) : ((Jvm.Cond.methodLink "java/lang/StringBuilder" (343 : Nat) ({ cls := "java/lang/AbstractStringBuilder", name := "length", desc := "()I" } : Jvm.MethodName))).before a0 Z = true := hw _ (List.mem_of_getElem? (i := 123) rfl)
theorem w124 {Z : State} {a0 : Array Value} (hw : ∀ d ∈ tables_1, d.before a0 Z = true) : ((Jvm.Cond.code ({ cls := "java/lang/AbstractStringBuilder", name := "length", desc := "()I" } : Jvm.MethodName) jdk_68_method_6_code (1 : Nat) (Option.some Jvm.ClassFile.FieldType.int))).before a0 Z = true := hw _ (List.mem_of_getElem? (i := 124) rfl)
theorem w125 {Z : State} {a0 : Array Value} (hw : ∀ d ∈ tables_1, d.before a0 Z = true) : ((Jvm.Cond.methodLink "java/lang/String" (1047 : Nat) ({ cls := "java/lang/AbstractStringBuilder", name := "isLatin1", desc := "()Z" } : Jvm.MethodName))).before a0 Z = true := hw _ (List.mem_of_getElem? (i := 125) rfl)
theorem w126 {Z : State} {a0 : Array Value} (hw : ∀ d ∈ tables_1, d.before a0 Z = true) : ((Jvm.Cond.declares ({ cls := "java/lang/AbstractStringBuilder", name := "isLatin1", desc := "()Z" } : Jvm.MethodName))).before a0 Z = true := hw _ (List.mem_of_getElem? (i := 126) rfl)
theorem w127 {Z : State} {a0 : Array Value} (hw : ∀ d ∈ tables_1, d.before a0 Z = true) : ((Jvm.Cond.instanceMethod ({ cls := "java/lang/AbstractStringBuilder", name := "isLatin1", desc := "()Z" } : Jvm.MethodName))).before a0 Z = true := hw _ (List.mem_of_getElem? (i := 127) rfl)
theorem w128 {Z : State} {a0 : Array Value} (hw : ∀ d ∈ tables_1, d.before a0 Z = true) : ((Jvm.Cond.selects "java/lang/StringBuilder" ({ cls := "java/lang/AbstractStringBuilder", name := "isLatin1", desc := "()Z" } : Jvm.MethodName) ({ cls := "java/lang/AbstractStringBuilder", name := "isLatin1", desc := "()Z" } : Jvm.MethodName))).before a0 Z = true := hw _ (List.mem_of_getElem? (i := 128) rfl)
theorem w129 {Z : State} {a0 : Array Value} (hw : ∀ d ∈ tables_1, d.before a0 Z = true) : ((Jvm.Cond.code ({ cls := "java/lang/AbstractStringBuilder", name := "isLatin1", desc := "()Z" } : Jvm.MethodName) jdk_68_method_68_code (1 : Nat) (Option.some Jvm.ClassFile.FieldType.boolean))).before a0 Z = true := hw _ (List.mem_of_getElem? (i := 129) rfl)
theorem w130 {Z : State} {a0 : Array Value} (hw : ∀ d ∈ tables_1, d.before a0 Z = true) : ((Jvm.Cond.methodLink "java/lang/String" (54 : Nat) ({ cls := "java/util/Arrays", name := "copyOfRange", desc := "([BII)[B" } : Jvm.MethodName))).before a0 Z = true := hw _ (List.mem_of_getElem? (i := 130) rfl)
theorem w131 {Z : State} {a0 : Array Value} (hw : ∀ d ∈ tables_1, d.before a0 Z = true) : ((Jvm.Cond.static ({ cls := "java/util/Arrays", name := "copyOfRange", desc := "([BII)[B" } : Jvm.MethodName))).before a0 Z = true := hw _ (List.mem_of_getElem? (i := 131) rfl)
theorem w132 {Z : State} {a0 : Array Value} (hw : ∀ d ∈ tables_1, d.before a0 Z = true) : ((Jvm.Cond.initialized "java/util/Arrays")).before a0 Z = true := hw _ (List.mem_of_getElem? (i := 132) rfl)
theorem w133 {Z : State} {a0 : Array Value} (hw : ∀ d ∈ tables_1, d.before a0 Z = true) : ((Jvm.Cond.code ({ cls := "java/util/Arrays", name := "copyOfRange", desc := "([BII)[B" } : Jvm.MethodName) jdk_65_method_132_code (3 : Nat) (Option.some (Jvm.ClassFile.FieldType.array Jvm.ClassFile.FieldType.byte)))).before a0 Z = true := hw _ (List.mem_of_getElem? (i := 133) rfl)
theorem w134 {Z : State} {a0 : Array Value} (hw : ∀ d ∈ tables_1, d.before a0 Z = true) : ((Jvm.Cond.methodLink "java/util/Arrays" (339 : Nat) ({ cls := "java/util/Arrays", name := "copyOfRangeByte", desc := "([BII)[B" } : Jvm.MethodName))).before a0 Z = true := hw _ (List.mem_of_getElem? (i := 134) rfl)
theorem w135 {Z : State} {a0 : Array Value} (hw : ∀ d ∈ tables_1, d.before a0 Z = true) : ((Jvm.Cond.static ({ cls := "java/util/Arrays", name := "copyOfRangeByte", desc := "([BII)[B" } : Jvm.MethodName))).before a0 Z = true := hw _ (List.mem_of_getElem? (i := 135) rfl)
theorem w136 {Z : State} {a0 : Array Value} (hw : ∀ d ∈ tables_1, d.before a0 Z = true) : ((Jvm.Cond.code ({ cls := "java/util/Arrays", name := "copyOfRangeByte", desc := "([BII)[B" } : Jvm.MethodName) jdk_65_method_133_code (5 : Nat) (Option.some (Jvm.ClassFile.FieldType.array Jvm.ClassFile.FieldType.byte)))).before a0 Z = true := hw _ (List.mem_of_getElem? (i := 136) rfl)
theorem w137 {Z : State} {a0 : Array Value} (hw : ∀ d ∈ tables_1, d.before a0 Z = true) : ((Jvm.Cond.methodLink "java/util/Arrays" (343 : Nat) ({ cls := "java/util/Arrays", name := "checkLength", desc := "(II)V" } : Jvm.MethodName))).before a0 Z = true := hw _ (List.mem_of_getElem? (i := 137) rfl)
theorem w138 {Z : State} {a0 : Array Value} (hw : ∀ d ∈ tables_1, d.before a0 Z = true) : ((Jvm.Cond.static ({ cls := "java/util/Arrays", name := "checkLength", desc := "(II)V" } : Jvm.MethodName))).before a0 Z = true := hw _ (List.mem_of_getElem? (i := 138) rfl)
theorem w139 {Z : State} {a0 : Array Value} (hw : ∀ d ∈ tables_1, d.before a0 Z = true) : ((Jvm.Cond.code ({ cls := "java/util/Arrays", name := "checkLength", desc := "(II)V" } : Jvm.MethodName) jdk_65_method_131_code (2 : Nat) (Option.none : Option Jvm.ClassFile.FieldType))).before a0 Z = true := hw _ (List.mem_of_getElem? (i := 139) rfl)
theorem w140 {Z : State} {a0 : Array Value} (hw : ∀ d ∈ tables_1, d.before a0 Z = true) : ((Jvm.Cond.methodLink "java/util/Arrays" (304 : Nat) ({ cls := "java/lang/Math", name := "min", desc := "(II)I" } : Jvm.MethodName))).before a0 Z = true := hw _ (List.mem_of_getElem? (i := 140) rfl)
theorem w141 {Z : State} {a0 : Array Value} (hw : ∀ d ∈ tables_1, d.before a0 Z = true) : ((Jvm.Cond.static ({ cls := "java/lang/Math", name := "min", desc := "(II)I" } : Jvm.MethodName))).before a0 Z = true := hw _ (List.mem_of_getElem? (i := 141) rfl)
theorem w142 {Z : State} {a0 : Array Value} (hw : ∀ d ∈ tables_1, d.before a0 Z = true) : ((Jvm.Cond.initialized "java/lang/Math")).before a0 Z = true := hw _ (List.mem_of_getElem? (i := 142) rfl)
theorem w143 {Z : State} {a0 : Array Value} (hw : ∀ d ∈ tables_1, d.before a0 Z = true) : ((Jvm.Cond.code ({ cls := "java/lang/Math", name := "min", desc := "(II)I" } : Jvm.MethodName) jdk_29_method_69_code (2 : Nat) (Option.some Jvm.ClassFile.FieldType.int))).before a0 Z = true := hw _ (List.mem_of_getElem? (i := 143) rfl)
theorem w144 {Z : State} {a0 : Array Value} (hw : ∀ d ∈ tables_1, d.before a0 Z = true) : ((Jvm.Cond.methodLink "java/util/Arrays" (150 : Nat) ({ cls := "java/lang/System", name := "arraycopy", desc := "(Ljava/lang/Object;ILjava/lang/Object;II)V" } : Jvm.MethodName))).before a0 Z = true := hw _ (List.mem_of_getElem? (i := 144) rfl)
theorem w145 {Z : State} {a0 : Array Value} (hw : ∀ d ∈ tables_1, d.before a0 Z = true) : ((Jvm.Cond.methodLink "com/example/vestline/vestline/input/MalformedFieldException" (17 : Nat) ({ cls := "java/lang/Exception", name := "<init>", desc := "(Ljava/lang/String;Ljava/lang/Throwable;ZZ)V" } : Jvm.MethodName))).before a0 Z = true := hw _ (List.mem_of_getElem? (i := 145) rfl)
theorem w146 {Z : State} {a0 : Array Value} (hw : ∀ d ∈ tables_1, d.before a0 Z = true) : ((Jvm.Cond.instanceMethod ({ cls := "java/lang/Exception", name := "<init>", desc := "(Ljava/lang/String;Ljava/lang/Throwable;ZZ)V" } : Jvm.MethodName))).before a0 Z = true := hw _ (List.mem_of_getElem? (i := 146) rfl)
theorem w148 {Z : State} {a0 : Array Value} (hw : ∀ d ∈ tables_1, d.before a0 Z = true) : ((Jvm.Cond.initialized "java/lang/Exception")).before a0 Z = true := hw _ (List.mem_of_getElem? (i := 148) rfl)
theorem w149 {Z : State} {a0 : Array Value} (hw : ∀ d ∈ tables_1, d.before a0 Z = true) : ((Jvm.Cond.code ({ cls := "java/lang/Exception", name := "<init>", desc := "(Ljava/lang/String;Ljava/lang/Throwable;ZZ)V" } : Jvm.MethodName) jdk_59_method_5_code (5 : Nat) (Option.none : Option Jvm.ClassFile.FieldType))).before a0 Z = true := hw _ (List.mem_of_getElem? (i := 149) rfl)
theorem w150 {Z : State} {a0 : Array Value} (hw : ∀ d ∈ tables_1, d.before a0 Z = true) : ((Jvm.Cond.methodLink "java/lang/Exception" (16 : Nat) ({ cls := "java/lang/Throwable", name := "<init>", desc := "(Ljava/lang/String;Ljava/lang/Throwable;ZZ)V" } : Jvm.MethodName))).before a0 Z = true := hw _ (List.mem_of_getElem? (i := 150) rfl)
theorem w151 {Z : State} {a0 : Array Value} (hw : ∀ d ∈ tables_1, d.before a0 Z = true) : ((Jvm.Cond.instanceMethod ({ cls := "java/lang/Throwable", name := "<init>", desc := "(Ljava/lang/String;Ljava/lang/Throwable;ZZ)V" } : Jvm.MethodName))).before a0 Z = true := hw _ (List.mem_of_getElem? (i := 151) rfl)
theorem w154 {Z : State} {a0 : Array Value} (hw : ∀ d ∈ tables_1, d.before a0 Z = true) : ((Jvm.Cond.initialized "java/lang/Throwable")).before a0 Z = true := hw _ (List.mem_of_getElem? (i := 154) rfl)
theorem w155 {Z : State} {a0 : Array Value} (hw : ∀ d ∈ tables_1, d.before a0 Z = true) : ((Jvm.Cond.code ({ cls := "java/lang/Throwable", name := "<init>", desc := "(Ljava/lang/String;Ljava/lang/Throwable;ZZ)V" } : Jvm.MethodName) jdk_78_method_5_code (5 : Nat) (Option.none : Option Jvm.ClassFile.FieldType))).before a0 Z = true := hw _ (List.mem_of_getElem? (i := 155) rfl)
theorem w156 {Z : State} {a0 : Array Value} (hw : ∀ d ∈ tables_1, d.before a0 Z = true) : ((Jvm.Cond.methodLink "java/lang/Throwable" (1 : Nat) ({ cls := "java/lang/Object", name := "<init>", desc := "()V" } : Jvm.MethodName))).before a0 Z = true := hw _ (List.mem_of_getElem? (i := 156) rfl)
theorem w157 {Z : State} {a0 : Array Value} (hw : ∀ d ∈ tables_1, d.before a0 Z = true) : ((Jvm.Cond.fieldLink "java/lang/Throwable" (7 : Nat) "java/lang/Throwable" "cause" "Ljava/lang/Throwable;")).before a0 Z = true := hw _ (List.mem_of_getElem? (i := 157) rfl)
theorem w158 {Z : State} {a0 : Array Value} (hw : ∀ d ∈ tables_1, d.before a0 Z = true) : ((Jvm.Cond.lays "com/example/vestline/vestline/input/MalformedFieldException" "java/lang/Throwable" "cause" "Ljava/lang/Throwable;")).before a0 Z = true := hw _ (List.mem_of_getElem? (i := 158) rfl)
theorem w159 {Z : State} {a0 : Array Value} (hw : ∀ d ∈ tables_1, d.before a0 Z = true) : ((Jvm.Cond.fieldLink "java/lang/Throwable" (13 : Nat) "java/lang/Throwable" "UNASSIGNED_STACK" "[Ljava/lang/StackTraceElement;")).before a0 Z = true := hw _ (List.mem_of_getElem? (i := 159) rfl)
theorem w160 {Z : State} {a0 : Array Value} (hw : ∀ d ∈ tables_1, d.before a0 Z = true) : ((Jvm.Cond.fieldLink "java/lang/Throwable" (17 : Nat) "java/lang/Throwable" "stackTrace" "[Ljava/lang/StackTraceElement;")).before a0 Z = true := hw _ (List.mem_of_getElem? (i := 160) rfl)
theorem w161 {Z : State} {a0 : Array Value} (hw : ∀ d ∈ tables_1, d.before a0 Z = true) : ((Jvm.Cond.lays "com/example/vestline/vestline/input/MalformedFieldException" "java/lang/Throwable" "stackTrace" "[Ljava/lang/StackTraceElement;")).before a0 Z = true := hw _ (List.mem_of_getElem? (i := 161) rfl)
theorem w162 {Z : State} {a0 : Array Value} (hw : ∀ d ∈ tables_1, d.before a0 Z = true) : ((Jvm.Cond.fieldLink "java/lang/Throwable" (20 : Nat) "java/lang/Throwable" "SUPPRESSED_SENTINEL" "Ljava/util/List;")).before a0 Z = true := hw _ (List.mem_of_getElem? (i := 162) rfl)
theorem w163 {Z : State} {a0 : Array Value} (hw : ∀ d ∈ tables_1, d.before a0 Z = true) : ((Jvm.Cond.fieldLink "java/lang/Throwable" (24 : Nat) "java/lang/Throwable" "suppressedExceptions" "Ljava/util/List;")).before a0 Z = true := hw _ (List.mem_of_getElem? (i := 163) rfl)
theorem w164 {Z : State} {a0 : Array Value} (hw : ∀ d ∈ tables_1, d.before a0 Z = true) : ((Jvm.Cond.lays "com/example/vestline/vestline/input/MalformedFieldException" "java/lang/Throwable" "suppressedExceptions" "Ljava/util/List;")).before a0 Z = true := hw _ (List.mem_of_getElem? (i := 164) rfl)
theorem w165 {Z : State} {a0 : Array Value} (hw : ∀ d ∈ tables_1, d.before a0 Z = true) : ((Jvm.Cond.fieldLink "java/lang/Throwable" (31 : Nat) "java/lang/Throwable" "detailMessage" "Ljava/lang/String;")).before a0 Z = true := hw _ (List.mem_of_getElem? (i := 165) rfl)
theorem w166 {Z : State} {a0 : Array Value} (hw : ∀ d ∈ tables_1, d.before a0 Z = true) : ((Jvm.Cond.lays "com/example/vestline/vestline/input/MalformedFieldException" "java/lang/Throwable" "detailMessage" "Ljava/lang/String;")).before a0 Z = true := hw _ (List.mem_of_getElem? (i := 166) rfl)
theorem w167 {Z : State} {a0 : Array Value} (hw : ∀ d ∈ tables_1, d.before a0 Z = true) : ((Jvm.Cond.fieldLink "com/example/vestline/vestline/input/MalformedFieldException" (22 : Nat) "com/example/vestline/vestline/input/MalformedFieldException" "field" "Ljava/lang/String;")).before a0 Z = true := hw _ (List.mem_of_getElem? (i := 167) rfl)
theorem w168 {Z : State} {a0 : Array Value} (hw : ∀ d ∈ tables_1, d.before a0 Z = true) : ((Jvm.Cond.laysFinal "com/example/vestline/vestline/input/MalformedFieldException" "com/example/vestline/vestline/input/MalformedFieldException" "field" "Ljava/lang/String;")).before a0 Z = true := hw _ (List.mem_of_getElem? (i := 168) rfl)
theorem w169 {Z : State} {a0 : Array Value} (hw : ∀ d ∈ tables_1, d.before a0 Z = true) : ((Jvm.Cond.fieldLink "com/example/vestline/vestline/input/MalformedFieldException" (28 : Nat) "com/example/vestline/vestline/input/MalformedFieldException" "reason" "Ljava/lang/String;")).before a0 Z = true := hw _ (List.mem_of_getElem? (i := 169) rfl)
theorem w170 {Z : State} {a0 : Array Value} (hw : ∀ d ∈ tables_1, d.before a0 Z = true) : ((Jvm.Cond.laysFinal "com/example/vestline/vestline/input/MalformedFieldException" "com/example/vestline/vestline/input/MalformedFieldException" "reason" "Ljava/lang/String;")).before a0 Z = true := hw _ (List.mem_of_getElem? (i := 170) rfl)
theorem w171 {Z : State} {a0 : Array Value} (hw : ∀ d ∈ tables_1, d.before a0 Z = true) : ((Jvm.Cond.methodLink "com/example/vestline/vestline/input/MalformedFieldExceptionWithinPinLaw" (35 : Nat) ({ cls := "com/example/vestline/vestline/input/MalformedFieldException", name := "within", desc := "(Ljava/lang/String;)Lcom/example/vestline/vestline/input/MalformedFieldException;" } : Jvm.MethodName))).before a0 Z = true := hw _ (List.mem_of_getElem? (i := 171) rfl)
theorem w172 {Z : State} {a0 : Array Value} (hw : ∀ d ∈ tables_1, d.before a0 Z = true) : ((Jvm.Cond.declares ({ cls := "com/example/vestline/vestline/input/MalformedFieldException", name := "within", desc := "(Ljava/lang/String;)Lcom/example/vestline/vestline/input/MalformedFieldException;" } : Jvm.MethodName))).before a0 Z = true := hw _ (List.mem_of_getElem? (i := 172) rfl)
theorem w173 {Z : State} {a0 : Array Value} (hw : ∀ d ∈ tables_1, d.before a0 Z = true) : ((Jvm.Cond.instanceMethod ({ cls := "com/example/vestline/vestline/input/MalformedFieldException", name := "within", desc := "(Ljava/lang/String;)Lcom/example/vestline/vestline/input/MalformedFieldException;" } : Jvm.MethodName))).before a0 Z = true := hw _ (List.mem_of_getElem? (i := 173) rfl)
theorem w174 {Z : State} {a0 : Array Value} (hw : ∀ d ∈ tables_1, d.before a0 Z = true) : ((Jvm.Cond.selects "com/example/vestline/vestline/input/MalformedFieldException" ({ cls := "com/example/vestline/vestline/input/MalformedFieldException", name := "within", desc := "(Ljava/lang/String;)Lcom/example/vestline/vestline/input/MalformedFieldException;" } : Jvm.MethodName) ({ cls := "com/example/vestline/vestline/input/MalformedFieldException", name := "within", desc := "(Ljava/lang/String;)Lcom/example/vestline/vestline/input/MalformedFieldException;" } : Jvm.MethodName))).before a0 Z = true := hw _ (List.mem_of_getElem? (i := 174) rfl)
theorem w175 {Z : State} {a0 : Array Value} (hw : ∀ d ∈ tables_1, d.before a0 Z = true) : ((Jvm.Cond.code ({ cls := "com/example/vestline/vestline/input/MalformedFieldException", name := "within", desc := "(Ljava/lang/String;)Lcom/example/vestline/vestline/input/MalformedFieldException;" } : Jvm.MethodName) prog_4_method_2_code (2 : Nat) (Option.some (Jvm.ClassFile.FieldType.object "com/example/vestline/vestline/input/MalformedFieldException")))).before a0 Z = true := hw _ (List.mem_of_getElem? (i := 175) rfl)
theorem w176 {Z : State} {a0 : Array Value} (hw : ∀ d ∈ tables_1, d.before a0 Z = true) : ((Jvm.Cond.classLink "com/example/vestline/vestline/input/MalformedFieldException" (23 : Nat) "com/example/vestline/vestline/input/MalformedFieldException")).before a0 Z = true := hw _ (List.mem_of_getElem? (i := 176) rfl)
theorem w177 {Z : State} {a0 : Array Value} (hw : ∀ d ∈ tables_1, d.before a0 Z = true) : ((Jvm.Cond.stringLink "com/example/vestline/vestline/input/MalformedFieldException" (31 : Nat) ".")).before a0 Z = true := hw _ (List.mem_of_getElem? (i := 177) rfl)
theorem w178 {Z : State} {a0 : Array Value} (hw : ∀ d ∈ tables_1, d.before a0 Z = true) : ((Jvm.Cond.methodLink "com/example/vestline/vestline/input/MalformedFieldException" (33 : Nat) ({ cls := "com/example/vestline/vestline/input/MalformedFieldException", name := "<init>", desc := "(Ljava/lang/String;Ljava/lang/String;)V" } : Jvm.MethodName))).before a0 Z = true := hw _ (List.mem_of_getElem? (i := 178) rfl)
theorem w179 {Z : State} {a0 : Array Value} (hw : ∀ d ∈ tables_1, d.before a0 Z = true) : ((Jvm.Cond.methodLink "com/example/vestline/vestline/input/MalformedFieldExceptionWithinPinLaw" (39 : Nat) ({ cls := "com/example/vestline/vestline/input/MalformedFieldException", name := "getMessage", desc := "()Ljava/lang/String;" } : Jvm.MethodName))).before a0 Z = true := hw _ (List.mem_of_getElem? (i := 179) rfl)
theorem w180 {Z : State} {a0 : Array Value} (hw : ∀ d ∈ tables_1, d.before a0 Z = true) : ((Jvm.Cond.sameMethod "com/example/vestline/vestline/input/MalformedFieldException" "java/lang/Throwable" "getMessage" "()Ljava/lang/String;")).before a0 Z = true := hw _ (List.mem_of_getElem? (i := 180) rfl)
theorem w181 {Z : State} {a0 : Array Value} (hw : ∀ d ∈ tables_1, d.before a0 Z = true) : ((Jvm.Cond.declares ({ cls := "java/lang/Throwable", name := "getMessage", desc := "()Ljava/lang/String;" } : Jvm.MethodName))).before a0 Z = true := hw _ (List.mem_of_getElem? (i := 181) rfl)
theorem w182 {Z : State} {a0 : Array Value} (hw : ∀ d ∈ tables_1, d.before a0 Z = true) : ((Jvm.Cond.instanceMethod ({ cls := "java/lang/Throwable", name := "getMessage", desc := "()Ljava/lang/String;" } : Jvm.MethodName))).before a0 Z = true := hw _ (List.mem_of_getElem? (i := 182) rfl)
theorem w183 {Z : State} {a0 : Array Value} (hw : ∀ d ∈ tables_1, d.before a0 Z = true) : ((Jvm.Cond.selects "com/example/vestline/vestline/input/MalformedFieldException" ({ cls := "com/example/vestline/vestline/input/MalformedFieldException", name := "getMessage", desc := "()Ljava/lang/String;" } : Jvm.MethodName) ({ cls := "java/lang/Throwable", name := "getMessage", desc := "()Ljava/lang/String;" } : Jvm.MethodName))).before a0 Z = true := hw _ (List.mem_of_getElem? (i := 183) rfl)
theorem w184 {Z : State} {a0 : Array Value} (hw : ∀ d ∈ tables_1, d.before a0 Z = true) : ((Jvm.Cond.code ({ cls := "java/lang/Throwable", name := "getMessage", desc := "()Ljava/lang/String;" } : Jvm.MethodName) jdk_78_method_6_code (1 : Nat) (Option.some (Jvm.ClassFile.FieldType.object "java/lang/String")))).before a0 Z = true := hw _ (List.mem_of_getElem? (i := 184) rfl)
theorem w185 {Z : State} {a0 : Array Value} (hw : ∀ d ∈ tables_1, d.before a0 Z = true) : ((Jvm.Cond.methodLink "com/example/vestline/vestline/input/MalformedFieldExceptionWithinPinLaw" (43 : Nat) ({ cls := "com/example/vestline/vestline/input/MalformedFieldExceptionWithinPinLaw", name := "at", desc := "(Ljava/lang/String;ILjava/lang/String;)Z" } : Jvm.MethodName))).before a0 Z = true := hw _ (List.mem_of_getElem? (i := 185) rfl)
theorem w186 {Z : State} {a0 : Array Value} (hw : ∀ d ∈ tables_1, d.before a0 Z = true) : ((Jvm.Cond.static ({ cls := "com/example/vestline/vestline/input/MalformedFieldExceptionWithinPinLaw", name := "at", desc := "(Ljava/lang/String;ILjava/lang/String;)Z" } : Jvm.MethodName))).before a0 Z = true := hw _ (List.mem_of_getElem? (i := 186) rfl)
theorem w187 {Z : State} {a0 : Array Value} (hw : ∀ d ∈ tables_1, d.before a0 Z = true) : ((Jvm.Cond.code ({ cls := "com/example/vestline/vestline/input/MalformedFieldExceptionWithinPinLaw", name := "at", desc := "(Ljava/lang/String;ILjava/lang/String;)Z" } : Jvm.MethodName) method_3_code (3 : Nat) (Option.some Jvm.ClassFile.FieldType.boolean))).before a0 Z = true := hw _ (List.mem_of_getElem? (i := 187) rfl)
theorem w188 {Z : State} {a0 : Array Value} (hw : ∀ d ∈ tables_1, d.before a0 Z = true) : ((Jvm.Cond.methodLink "com/example/vestline/vestline/input/MalformedFieldExceptionWithinPinLaw" (20 : Nat) ({ cls := "java/lang/String", name := "charAt", desc := "(I)C" } : Jvm.MethodName))).before a0 Z = true := hw _ (List.mem_of_getElem? (i := 188) rfl)
theorem w189 {Z : State} {a0 : Array Value} (hw : ∀ d ∈ tables_1, d.before a0 Z = true) : ((Jvm.Cond.declares ({ cls := "java/lang/String", name := "charAt", desc := "(I)C" } : Jvm.MethodName))).before a0 Z = true := hw _ (List.mem_of_getElem? (i := 189) rfl)
theorem w190 {Z : State} {a0 : Array Value} (hw : ∀ d ∈ tables_1, d.before a0 Z = true) : ((Jvm.Cond.instanceMethod ({ cls := "java/lang/String", name := "charAt", desc := "(I)C" } : Jvm.MethodName))).before a0 Z = true := hw _ (List.mem_of_getElem? (i := 190) rfl)
theorem w191 {Z : State} {a0 : Array Value} (hw : ∀ d ∈ tables_1, d.before a0 Z = true) : ((Jvm.Cond.selects "java/lang/String" ({ cls := "java/lang/String", name := "charAt", desc := "(I)C" } : Jvm.MethodName) ({ cls := "java/lang/String", name := "charAt", desc := "(I)C" } : Jvm.MethodName))).before a0 Z = true := hw _ (List.mem_of_getElem? (i := 191) rfl)
theorem w192 {Z : State} {a0 : Array Value} (hw : ∀ d ∈ tables_1, d.before a0 Z = true) : ((Jvm.Cond.code ({ cls := "java/lang/String", name := "charAt", desc := "(I)C" } : Jvm.MethodName) jdk_42_method_56_code (2 : Nat) (Option.some Jvm.ClassFile.FieldType.char))).before a0 Z = true := hw _ (List.mem_of_getElem? (i := 192) rfl)
theorem w193 {Z : State} {a0 : Array Value} (hw : ∀ d ∈ tables_1, d.before a0 Z = true) : ((Jvm.Cond.methodLink "java/lang/String" (492 : Nat) ({ cls := "java/lang/String", name := "isLatin1", desc := "()Z" } : Jvm.MethodName))).before a0 Z = true := hw _ (List.mem_of_getElem? (i := 193) rfl)
theorem w194 {Z : State} {a0 : Array Value} (hw : ∀ d ∈ tables_1, d.before a0 Z = true) : ((Jvm.Cond.declares ({ cls := "java/lang/String", name := "isLatin1", desc := "()Z" } : Jvm.MethodName))).before a0 Z = true := hw _ (List.mem_of_getElem? (i := 194) rfl)
theorem w195 {Z : State} {a0 : Array Value} (hw : ∀ d ∈ tables_1, d.before a0 Z = true) : ((Jvm.Cond.instanceMethod ({ cls := "java/lang/String", name := "isLatin1", desc := "()Z" } : Jvm.MethodName))).before a0 Z = true := hw _ (List.mem_of_getElem? (i := 195) rfl)
theorem w196 {Z : State} {a0 : Array Value} (hw : ∀ d ∈ tables_1, d.before a0 Z = true) : ((Jvm.Cond.selects "java/lang/String" ({ cls := "java/lang/String", name := "isLatin1", desc := "()Z" } : Jvm.MethodName) ({ cls := "java/lang/String", name := "isLatin1", desc := "()Z" } : Jvm.MethodName))).before a0 Z = true := hw _ (List.mem_of_getElem? (i := 196) rfl)
theorem w197 {Z : State} {a0 : Array Value} (hw : ∀ d ∈ tables_1, d.before a0 Z = true) : ((Jvm.Cond.code ({ cls := "java/lang/String", name := "isLatin1", desc := "()Z" } : Jvm.MethodName) jdk_42_method_154_code (1 : Nat) (Option.some Jvm.ClassFile.FieldType.boolean))).before a0 Z = true := hw _ (List.mem_of_getElem? (i := 197) rfl)
theorem w198 {Z : State} {a0 : Array Value} (hw : ∀ d ∈ tables_1, d.before a0 Z = true) : ((Jvm.Cond.methodLink "java/lang/String" (495 : Nat) ({ cls := "java/lang/StringLatin1", name := "charAt", desc := "([BI)C" } : Jvm.MethodName))).before a0 Z = true := hw _ (List.mem_of_getElem? (i := 198) rfl)
theorem w199 {Z : State} {a0 : Array Value} (hw : ∀ d ∈ tables_1, d.before a0 Z = true) : ((Jvm.Cond.static ({ cls := "java/lang/StringLatin1", name := "charAt", desc := "([BI)C" } : Jvm.MethodName))).before a0 Z = true := hw _ (List.mem_of_getElem? (i := 199) rfl)
theorem w200 {Z : State} {a0 : Array Value} (hw : ∀ d ∈ tables_1, d.before a0 Z = true) : ((Jvm.Cond.initialized "java/lang/StringLatin1")).before a0 Z = true := hw _ (List.mem_of_getElem? (i := 200) rfl)
theorem w201 {Z : State} {a0 : Array Value} (hw : ∀ d ∈ tables_1, d.before a0 Z = true) : ((Jvm.Cond.code ({ cls := "java/lang/StringLatin1", name := "charAt", desc := "([BI)C" } : Jvm.MethodName) jdk_43_method_2_code (2 : Nat) (Option.some Jvm.ClassFile.FieldType.char))).before a0 Z = true := hw _ (List.mem_of_getElem? (i := 201) rfl)
theorem w202 {Z : State} {a0 : Array Value} (hw : ∀ d ∈ tables_1, d.before a0 Z = true) : ((Jvm.Cond.methodLink "java/lang/StringLatin1" (9 : Nat) ({ cls := "java/lang/String", name := "checkIndex", desc := "(II)V" } : Jvm.MethodName))).before a0 Z = true := hw _ (List.mem_of_getElem? (i := 202) rfl)
theorem w203 {Z : State} {a0 : Array Value} (hw : ∀ d ∈ tables_1, d.before a0 Z = true) : ((Jvm.Cond.static ({ cls := "java/lang/String", name := "checkIndex", desc := "(II)V" } : Jvm.MethodName))).before a0 Z = true := hw _ (List.mem_of_getElem? (i := 203) rfl)
theorem w204 {Z : State} {a0 : Array Value} (hw : ∀ d ∈ tables_1, d.before a0 Z = true) : ((Jvm.Cond.code ({ cls := "java/lang/String", name := "checkIndex", desc := "(II)V" } : Jvm.MethodName) jdk_42_method_155_code (2 : Nat) (Option.none : Option Jvm.ClassFile.FieldType))).before a0 Z = true := hw _ (List.mem_of_getElem? (i := 204) rfl)
theorem w205 {Z : State} {a0 : Array Value} (hw : ∀ d ∈ tables_1, d.before a0 Z = true) : ((Jvm.Cond.fieldLink "java/lang/String" (1053 : Nat) "jdk/internal/util/Preconditions" "SIOOBE_FORMATTER" "Ljava/util/function/BiFunction;")).before a0 Z = true := hw _ (List.mem_of_getElem? (i := 205) rfl)
theorem w206 {Z : State} {a0 : Array Value} (hw : ∀ d ∈ tables_1, d.before a0 Z = true) : ((Jvm.Cond.initialized "jdk/internal/util/Preconditions")).before a0 Z = true := hw _ (List.mem_of_getElem? (i := 206) rfl)
theorem w207 {Z : State} {a0 : Array Value} (hw : ∀ d ∈ tables_1, d.before a0 Z = true) : ((Jvm.Cond.methodLink "java/lang/String" (1059 : Nat) ({ cls := "jdk/internal/util/Preconditions", name := "checkIndex", desc := "(IILjava/util/function/BiFunction;)I" } : Jvm.MethodName))).before a0 Z = true := hw _ (List.mem_of_getElem? (i := 207) rfl)
theorem w208 {Z : State} {a0 : Array Value} (hw : ∀ d ∈ tables_1, d.before a0 Z = true) : ((Jvm.Cond.static ({ cls := "jdk/internal/util/Preconditions", name := "checkIndex", desc := "(IILjava/util/function/BiFunction;)I" } : Jvm.MethodName))).before a0 Z = true := hw _ (List.mem_of_getElem? (i := 208) rfl)
theorem w209 {Z : State} {a0 : Array Value} (hw : ∀ d ∈ tables_1, d.before a0 Z = true) : ((Jvm.Cond.code ({ cls := "jdk/internal/util/Preconditions", name := "checkIndex", desc := "(IILjava/util/function/BiFunction;)I" } : Jvm.MethodName) jdk_41_method_11_code (3 : Nat) (Option.some Jvm.ClassFile.FieldType.int))).before a0 Z = true := hw _ (List.mem_of_getElem? (i := 209) rfl)
theorem w210 {Z : State} {a0 : Array Value} (hw : ∀ d ∈ tables_1, d.before a0 Z = true) : ((Jvm.Cond.methodLink "com/example/vestline/vestline/input/MalformedFieldExceptionWithinPinLaw" (12 : Nat) ({ cls := "java/lang/String", name := "valueOf", desc := "(C)Ljava/lang/String;" } : Jvm.MethodName))).before a0 Z = true := hw _ (List.mem_of_getElem? (i := 210) rfl)
theorem w211 {Z : State} {a0 : Array Value} (hw : ∀ d ∈ tables_1, d.before a0 Z = true) : ((Jvm.Cond.static ({ cls := "java/lang/String", name := "valueOf", desc := "(C)Ljava/lang/String;" } : Jvm.MethodName))).before a0 Z = true := hw _ (List.mem_of_getElem? (i := 211) rfl)
theorem w212 {Z : State} {a0 : Array Value} (hw : ∀ d ∈ tables_1, d.before a0 Z = true) : ((Jvm.Cond.code ({ cls := "java/lang/String", name := "valueOf", desc := "(C)Ljava/lang/String;" } : Jvm.MethodName) jdk_42_method_139_code (1 : Nat) (Option.some (Jvm.ClassFile.FieldType.object "java/lang/String")))).before a0 Z = true := hw _ (List.mem_of_getElem? (i := 212) rfl)
theorem w213 {Z : State} {a0 : Array Value} (hw : ∀ d ∈ tables_1, d.before a0 Z = true) : ((Jvm.Cond.methodLink "java/lang/String" (1015 : Nat) ({ cls := "java/lang/StringLatin1", name := "canEncode", desc := "(C)Z" } : Jvm.MethodName))).before a0 Z = true := hw _ (List.mem_of_getElem? (i := 213) rfl)
theorem w214 {Z : State} {a0 : Array Value} (hw : ∀ d ∈ tables_1, d.before a0 Z = true) : ((Jvm.Cond.static ({ cls := "java/lang/StringLatin1", name := "canEncode", desc := "(C)Z" } : Jvm.MethodName))).before a0 Z = true := hw _ (List.mem_of_getElem? (i := 214) rfl)
theorem w215 {Z : State} {a0 : Array Value} (hw : ∀ d ∈ tables_1, d.before a0 Z = true) : ((Jvm.Cond.code ({ cls := "java/lang/StringLatin1", name := "canEncode", desc := "(C)Z" } : Jvm.MethodName) jdk_43_method_3_code (1 : Nat) (Option.some Jvm.ClassFile.FieldType.boolean))).before a0 Z = true := hw _ (List.mem_of_getElem? (i := 215) rfl)
theorem w216 {Z : State} {a0 : Array Value} (hw : ∀ d ∈ tables_1, d.before a0 Z = true) : ((Jvm.Cond.classLink "java/lang/String" (10 : Nat) "java/lang/String")).before a0 Z = true := hw _ (List.mem_of_getElem? (i := 216) rfl)
theorem w217 {Z : State} {a0 : Array Value} (hw : ∀ d ∈ tables_1, d.before a0 Z = true) : ((Jvm.Cond.methodLink "java/lang/String" (1018 : Nat) ({ cls := "java/lang/StringLatin1", name := "toBytes", desc := "(C)[B" } : Jvm.MethodName))).before a0 Z = true := hw _ (List.mem_of_getElem? (i := 217) rfl)
theorem w218 {Z : State} {a0 : Array Value} (hw : ∀ d ∈ tables_1, d.before a0 Z = true) : ((Jvm.Cond.static ({ cls := "java/lang/StringLatin1", name := "toBytes", desc := "(C)[B" } : Jvm.MethodName))).before a0 Z = true := hw _ (List.mem_of_getElem? (i := 218) rfl)
theorem w219 {Z : State} {a0 : Array Value} (hw : ∀ d ∈ tables_1, d.before a0 Z = true) : ((Jvm.Cond.code ({ cls := "java/lang/StringLatin1", name := "toBytes", desc := "(C)[B" } : Jvm.MethodName) jdk_43_method_46_code (1 : Nat) (Option.some (Jvm.ClassFile.FieldType.array Jvm.ClassFile.FieldType.byte)))).before a0 Z = true := hw _ (List.mem_of_getElem? (i := 219) rfl)
theorem w220 {Z : State} {a0 : Array Value} (hw : ∀ d ∈ tables_1, d.before a0 Z = true) : ((Jvm.Cond.methodLink "java/lang/String" (209 : Nat) ({ cls := "java/lang/String", name := "<init>", desc := "([BB)V" } : Jvm.MethodName))).before a0 Z = true := hw _ (List.mem_of_getElem? (i := 220) rfl)
theorem w221 {Z : State} {a0 : Array Value} (hw : ∀ d ∈ tables_1, d.before a0 Z = true) : ((Jvm.Cond.instanceMethod ({ cls := "java/lang/String", name := "<init>", desc := "([BB)V" } : Jvm.MethodName))).before a0 Z = true := hw _ (List.mem_of_getElem? (i := 221) rfl)
theorem w222 {Z : State} {a0 : Array Value} (hw : ∀ d ∈ tables_1, d.before a0 Z = true) : ((Jvm.Cond.code ({ cls := "java/lang/String", name := "<init>", desc := "([BB)V" } : Jvm.MethodName) jdk_42_method_151_code (3 : Nat) (Option.none : Option Jvm.ClassFile.FieldType))).before a0 Z = true := hw _ (List.mem_of_getElem? (i := 222) rfl)
theorem w223 {Z : State} {a0 : Array Value} (hw : ∀ d ∈ tables_1, d.before a0 Z = true) : ((Jvm.Cond.methodLink "java/lang/String" (177 : Nat) ({ cls := "java/lang/StringUTF16", name := "compress", desc := "([CII)[B" } : Jvm.MethodName))).before a0 Z = true := hw _ (List.mem_of_getElem? (i := 223) rfl)
theorem w224 {Z : State} {a0 : Array Value} (hw : ∀ d ∈ tables_1, d.before a0 Z = true) : ((Jvm.Cond.static ({ cls := "java/lang/StringUTF16", name := "compress", desc := "([CII)[B" } : Jvm.MethodName))).before a0 Z = true := hw _ (List.mem_of_getElem? (i := 224) rfl)
theorem w225 {Z : State} {a0 : Array Value} (hw : ∀ d ∈ tables_1, d.before a0 Z = true) : ((Jvm.Cond.initialized "java/lang/StringUTF16")).before a0 Z = true := hw _ (List.mem_of_getElem? (i := 225) rfl)
theorem w226 {Z : State} {a0 : Array Value} (hw : ∀ d ∈ tables_1, d.before a0 Z = true) : ((Jvm.Cond.code ({ cls := "java/lang/StringUTF16", name := "compress", desc := "([CII)[B" } : Jvm.MethodName) jdk_52_method_16_code (6 : Nat) (Option.some (Jvm.ClassFile.FieldType.array Jvm.ClassFile.FieldType.byte)))).before a0 Z = true := hw _ (List.mem_of_getElem? (i := 226) rfl)
theorem w227 {Z : State} {a0 : Array Value} (hw : ∀ d ∈ tables_1, d.before a0 Z = true) : ((Jvm.Cond.methodLink "java/lang/StringUTF16" (115 : Nat) ({ cls := "java/lang/StringUTF16", name := "compress", desc := "([CI[BII)I" } : Jvm.MethodName))).before a0 Z = true := hw _ (List.mem_of_getElem? (i := 227) rfl)
theorem w228 {Z : State} {a0 : Array Value} (hw : ∀ d ∈ tables_1, d.before a0 Z = true) : ((Jvm.Cond.static ({ cls := "java/lang/StringUTF16", name := "compress", desc := "([CI[BII)I" } : Jvm.MethodName))).before a0 Z = true := hw _ (List.mem_of_getElem? (i := 228) rfl)
theorem w229 {Z : State} {a0 : Array Value} (hw : ∀ d ∈ tables_1, d.before a0 Z = true) : ((Jvm.Cond.code ({ cls := "java/lang/StringUTF16", name := "compress", desc := "([CI[BII)I" } : Jvm.MethodName) jdk_52_method_21_code (7 : Nat) (Option.some Jvm.ClassFile.FieldType.int))).before a0 Z = true := hw _ (List.mem_of_getElem? (i := 229) rfl)
theorem w230 {Z : State} {a0 : Array Value} (hw : ∀ d ∈ tables_1, d.before a0 Z = true) : ((Jvm.Cond.methodLink "java/lang/String" (47 : Nat) ({ cls := "java/lang/StringUTF16", name := "coderFromArrayLen", desc := "([BI)B" } : Jvm.MethodName))).before a0 Z = true := hw _ (List.mem_of_getElem? (i := 230) rfl)
theorem w231 {Z : State} {a0 : Array Value} (hw : ∀ d ∈ tables_1, d.before a0 Z = true) : ((Jvm.Cond.static ({ cls := "java/lang/StringUTF16", name := "coderFromArrayLen", desc := "([BI)B" } : Jvm.MethodName))).before a0 Z = true := hw _ (List.mem_of_getElem? (i := 231) rfl)
theorem w232 {Z : State} {a0 : Array Value} (hw : ∀ d ∈ tables_1, d.before a0 Z = true) : ((Jvm.Cond.code ({ cls := "java/lang/StringUTF16", name := "coderFromArrayLen", desc := "([BI)B" } : Jvm.MethodName) jdk_52_method_15_code (2 : Nat) (Option.some Jvm.ClassFile.FieldType.byte))).before a0 Z = true := hw _ (List.mem_of_getElem? (i := 232) rfl)
theorem d_jdk_43_method_3_0 : decode jdk_43_method_3_code 0 = .ok (.iload_n 0, 1) := by decide +kernel
theorem d_jdk_43_method_3_1 : decode jdk_43_method_3_code 1 = .ok (.sipush 255, 3) := by decide +kernel
theorem d_jdk_43_method_3_4 : decode jdk_43_method_3_code 4 = .ok (.if_icmp .gt 7, 3) := by decide +kernel
theorem d_jdk_43_method_3_7 : decode jdk_43_method_3_code 7 = .ok (.iconst 1, 1) := by decide +kernel
theorem d_jdk_43_method_3_8 : decode jdk_43_method_3_code 8 = .ok (.goto 4, 3) := by decide +kernel
theorem d_jdk_43_method_3_12 : decode jdk_43_method_3_code 12 = .ok (.ireturn, 1) := by decide +kernel
theorem d_jdk_43_method_3_11 : decode jdk_43_method_3_code 11 = .ok (.iconst 0, 1) := by decide +kernel
theorem d_jdk_43_method_46_0 : decode jdk_43_method_46_code 0 = .ok (.iconst 1, 1) := by decide +kernel
theorem d_jdk_43_method_46_1 : decode jdk_43_method_46_code 1 = .ok (.newarray .byte, 2) := by decide +kernel
theorem d_jdk_43_method_46_3 : decode jdk_43_method_46_code 3 = .ok (.dup, 1) := by decide +kernel
theorem d_jdk_43_method_46_4 : decode jdk_43_method_46_code 4 = .ok (.iconst 0, 1) := by decide +kernel
theorem d_jdk_43_method_46_5 : decode jdk_43_method_46_code 5 = .ok (.iload_n 0, 1) := by decide +kernel
theorem d_jdk_43_method_46_6 : decode jdk_43_method_46_code 6 = .ok (.i2b, 1) := by decide +kernel
theorem d_jdk_43_method_46_7 : decode jdk_43_method_46_code 7 = .ok (.bastore, 1) := by decide +kernel
theorem d_jdk_43_method_46_8 : decode jdk_43_method_46_code 8 = .ok (.areturn, 1) := by decide +kernel
theorem d_jdk_42_method_151_0 : decode jdk_42_method_151_code 0 = .ok (.aload_n 0, 1) := by decide +kernel
theorem d_jdk_42_method_151_1 : decode jdk_42_method_151_code 1 = .ok (.invokespecial 1, 3) := by decide +kernel
theorem d_jdk_42_method_151_4 : decode jdk_42_method_151_code 4 = .ok (.aload_n 0, 1) := by decide +kernel
theorem d_jdk_42_method_151_5 : decode jdk_42_method_151_code 5 = .ok (.aload_n 1, 1) := by decide +kernel
theorem d_jdk_42_method_151_6 : decode jdk_42_method_151_code 6 = .ok (.putfield 9, 3) := by decide +kernel
theorem d_jdk_42_method_151_9 : decode jdk_42_method_151_code 9 = .ok (.aload_n 0, 1) := by decide +kernel
theorem d_jdk_42_method_151_10 : decode jdk_42_method_151_code 10 = .ok (.iload_n 2, 1) := by decide +kernel
theorem d_jdk_42_method_151_11 : decode jdk_42_method_151_code 11 = .ok (.putfield 15, 3) := by decide +kernel
theorem d_jdk_42_method_151_14 : decode jdk_42_method_151_code 14 = .ok (.return_, 1) := by decide +kernel
theorem d_jdk_42_method_139_0 : decode jdk_42_method_139_code 0 = .ok (.getstatic 38, 3) := by decide +kernel
theorem d_jdk_42_method_139_3 : decode jdk_42_method_139_code 3 = .ok (.ifCond .eq 23, 3) := by decide +kernel
theorem d_jdk_42_method_139_6 : decode jdk_42_method_139_code 6 = .ok (.iload_n 0, 1) := by decide +kernel
theorem d_jdk_42_method_139_7 : decode jdk_42_method_139_code 7 = .ok (.invokestatic 1015, 3) := by decide +kernel
theorem d_jdk_42_method_139_10 : decode jdk_42_method_139_code 10 = .ok (.ifCond .eq 16, 3) := by decide +kernel
theorem d_jdk_42_method_139_13 : decode jdk_42_method_139_code 13 = .ok (.new 10, 3) := by decide +kernel
theorem d_jdk_42_method_139_16 : decode jdk_42_method_139_code 16 = .ok (.dup, 1) := by decide +kernel
theorem d_jdk_42_method_139_17 : decode jdk_42_method_139_code 17 = .ok (.iload_n 0, 1) := by decide +kernel
theorem d_jdk_42_method_139_18 : decode jdk_42_method_139_code 18 = .ok (.invokestatic 1018, 3) := by decide +kernel
theorem d_jdk_42_method_139_21 : decode jdk_42_method_139_code 21 = .ok (.iconst 0, 1) := by decide +kernel
theorem d_jdk_42_method_139_22 : decode jdk_42_method_139_code 22 = .ok (.invokespecial 209, 3) := by decide +kernel
theorem d_jdk_42_method_139_25 : decode jdk_42_method_139_code 25 = .ok (.areturn, 1) := by decide +kernel
theorem d_jdk_42_method_152_0 : decode jdk_42_method_152_code 0 = .ok (.getstatic 38, 3) := by decide +kernel
theorem d_jdk_42_method_152_3 : decode jdk_42_method_152_code 3 = .ok (.ifCond .eq 10, 3) := by decide +kernel
theorem d_jdk_42_method_152_6 : decode jdk_42_method_152_code 6 = .ok (.aload_n 0, 1) := by decide +kernel
theorem d_jdk_42_method_152_7 : decode jdk_42_method_152_code 7 = .ok (.getfield 15, 3) := by decide +kernel
theorem d_jdk_42_method_152_10 : decode jdk_42_method_152_code 10 = .ok (.goto 4, 3) := by decide +kernel
theorem d_jdk_42_method_152_14 : decode jdk_42_method_152_code 14 = .ok (.ireturn, 1) := by decide +kernel
theorem d_jdk_42_method_54_0 : decode jdk_42_method_54_code 0 = .ok (.aload_n 0, 1) := by decide +kernel
theorem d_jdk_42_method_54_1 : decode jdk_42_method_54_code 1 = .ok (.getfield 9, 3) := by decide +kernel
theorem d_jdk_42_method_54_4 : decode jdk_42_method_54_code 4 = .ok (.arraylength, 1) := by decide +kernel
theorem d_jdk_42_method_54_5 : decode jdk_42_method_54_code 5 = .ok (.aload_n 0, 1) := by decide +kernel
theorem d_jdk_42_method_54_6 : decode jdk_42_method_54_code 6 = .ok (.invokevirtual 335, 3) := by decide +kernel
theorem d_jdk_42_method_54_9 : decode jdk_42_method_54_code 9 = .ok (.ishr, 1) := by decide +kernel
theorem d_jdk_42_method_54_10 : decode jdk_42_method_54_code 10 = .ok (.ireturn, 1) := by decide +kernel
theorem d_jdk_42_method_154_0 : decode jdk_42_method_154_code 0 = .ok (.getstatic 38, 3) := by decide +kernel
theorem d_jdk_42_method_154_3 : decode jdk_42_method_154_code 3 = .ok (.ifCond .eq 14, 3) := by decide +kernel
theorem d_jdk_42_method_154_6 : decode jdk_42_method_154_code 6 = .ok (.aload_n 0, 1) := by decide +kernel
theorem d_jdk_42_method_154_7 : decode jdk_42_method_154_code 7 = .ok (.getfield 15, 3) := by decide +kernel
theorem d_jdk_42_method_154_10 : decode jdk_42_method_154_code 10 = .ok (.ifCond .ne 7, 3) := by decide +kernel
theorem d_jdk_42_method_154_13 : decode jdk_42_method_154_code 13 = .ok (.iconst 1, 1) := by decide +kernel
theorem d_jdk_42_method_154_14 : decode jdk_42_method_154_code 14 = .ok (.goto 4, 3) := by decide +kernel
theorem d_jdk_42_method_154_18 : decode jdk_42_method_154_code 18 = .ok (.ireturn, 1) := by decide +kernel
theorem d_jdk_41_method_11_0 : decode jdk_41_method_11_code 0 = .ok (.iload_n 0, 1) := by decide +kernel
theorem d_jdk_41_method_11_1 : decode jdk_41_method_11_code 1 = .ok (.ifCond .lt 8, 3) := by decide +kernel
theorem d_jdk_41_method_11_4 : decode jdk_41_method_11_code 4 = .ok (.iload_n 0, 1) := by decide +kernel
theorem d_jdk_41_method_11_5 : decode jdk_41_method_11_code 5 = .ok (.iload_n 1, 1) := by decide +kernel
theorem d_jdk_41_method_11_6 : decode jdk_41_method_11_code 6 = .ok (.if_icmp .lt 10, 3) := by decide +kernel
theorem d_jdk_41_method_11_16 : decode jdk_41_method_11_code 16 = .ok (.iload_n 0, 1) := by decide +kernel
theorem d_jdk_41_method_11_17 : decode jdk_41_method_11_code 17 = .ok (.ireturn, 1) := by decide +kernel
theorem d_jdk_42_method_155_0 : decode jdk_42_method_155_code 0 = .ok (.iload_n 0, 1) := by decide +kernel
theorem d_jdk_42_method_155_1 : decode jdk_42_method_155_code 1 = .ok (.iload_n 1, 1) := by decide +kernel
theorem d_jdk_42_method_155_2 : decode jdk_42_method_155_code 2 = .ok (.getstatic 1053, 3) := by decide +kernel
theorem d_jdk_42_method_155_5 : decode jdk_42_method_155_code 5 = .ok (.invokestatic 1059, 3) := by decide +kernel
theorem d_jdk_42_method_155_8 : decode jdk_42_method_155_code 8 = .ok (.pop, 1) := by decide +kernel
theorem d_jdk_42_method_155_9 : decode jdk_42_method_155_code 9 = .ok (.return_, 1) := by decide +kernel
theorem d_jdk_43_method_2_0 : decode jdk_43_method_2_code 0 = .ok (.iload_n 1, 1) := by decide +kernel
theorem d_jdk_43_method_2_1 : decode jdk_43_method_2_code 1 = .ok (.aload_n 0, 1) := by decide +kernel
theorem d_jdk_43_method_2_2 : decode jdk_43_method_2_code 2 = .ok (.arraylength, 1) := by decide +kernel
theorem d_jdk_43_method_2_3 : decode jdk_43_method_2_code 3 = .ok (.invokestatic 9, 3) := by decide +kernel
theorem d_jdk_43_method_2_6 : decode jdk_43_method_2_code 6 = .ok (.aload_n 0, 1) := by decide +kernel
theorem d_jdk_43_method_2_7 : decode jdk_43_method_2_code 7 = .ok (.iload_n 1, 1) := by decide +kernel
theorem d_jdk_43_method_2_8 : decode jdk_43_method_2_code 8 = .ok (.baload, 1) := by decide +kernel
theorem d_jdk_43_method_2_9 : decode jdk_43_method_2_code 9 = .ok (.sipush 255, 3) := by decide +kernel
theorem d_jdk_43_method_2_12 : decode jdk_43_method_2_code 12 = .ok (.iand, 1) := by decide +kernel
theorem d_jdk_43_method_2_13 : decode jdk_43_method_2_code 13 = .ok (.i2c, 1) := by decide +kernel
theorem d_jdk_43_method_2_14 : decode jdk_43_method_2_code 14 = .ok (.ireturn, 1) := by decide +kernel
theorem d_jdk_42_method_56_0 : decode jdk_42_method_56_code 0 = .ok (.aload_n 0, 1) := by decide +kernel
theorem d_jdk_42_method_56_1 : decode jdk_42_method_56_code 1 = .ok (.invokevirtual 492, 3) := by decide +kernel
theorem d_jdk_42_method_56_4 : decode jdk_42_method_56_code 4 = .ok (.ifCond .eq 12, 3) := by decide +kernel
theorem d_jdk_42_method_56_7 : decode jdk_42_method_56_code 7 = .ok (.aload_n 0, 1) := by decide +kernel
theorem d_jdk_42_method_56_8 : decode jdk_42_method_56_code 8 = .ok (.getfield 9, 3) := by decide +kernel
theorem d_jdk_42_method_56_11 : decode jdk_42_method_56_code 11 = .ok (.iload_n 1, 1) := by decide +kernel
theorem d_jdk_42_method_56_12 : decode jdk_42_method_56_code 12 = .ok (.invokestatic 495, 3) := by decide +kernel
theorem d_jdk_42_method_56_15 : decode jdk_42_method_56_code 15 = .ok (.ireturn, 1) := by decide +kernel
theorem d_jdk_52_method_21_0 : decode jdk_52_method_21_code 0 = .ok (.iconst 0, 1) := by decide +kernel
theorem d_jdk_52_method_21_1 : decode jdk_52_method_21_code 1 = .ok (.istore 5, 2) := by decide +kernel
theorem d_jdk_52_method_21_3 : decode jdk_52_method_21_code 3 = .ok (.iload 5, 2) := by decide +kernel
theorem d_jdk_52_method_21_5 : decode jdk_52_method_21_code 5 = .ok (.iload 4, 2) := by decide +kernel
theorem d_jdk_52_method_21_7 : decode jdk_52_method_21_code 7 = .ok (.if_icmp .ge 37, 3) := by decide +kernel
theorem d_jdk_52_method_21_44 : decode jdk_52_method_21_code 44 = .ok (.iload 4, 2) := by decide +kernel
theorem d_jdk_52_method_21_46 : decode jdk_52_method_21_code 46 = .ok (.ireturn, 1) := by decide +kernel
theorem d_jdk_52_method_21_10 : decode jdk_52_method_21_code 10 = .ok (.aload_n 0, 1) := by decide +kernel
theorem d_jdk_52_method_21_11 : decode jdk_52_method_21_code 11 = .ok (.iload_n 1, 1) := by decide +kernel
theorem d_jdk_52_method_21_12 : decode jdk_52_method_21_code 12 = .ok (.caload, 1) := by decide +kernel
theorem d_jdk_52_method_21_13 : decode jdk_52_method_21_code 13 = .ok (.istore 6, 2) := by decide +kernel
theorem d_jdk_52_method_21_15 : decode jdk_52_method_21_code 15 = .ok (.iload 6, 2) := by decide +kernel
theorem d_jdk_52_method_21_17 : decode jdk_52_method_21_code 17 = .ok (.sipush 255, 3) := by decide +kernel
theorem d_jdk_52_method_21_20 : decode jdk_52_method_21_code 20 = .ok (.if_icmp .le 6, 3) := by decide +kernel
theorem d_jdk_52_method_21_26 : decode jdk_52_method_21_code 26 = .ok (.aload_n 2, 1) := by decide +kernel
theorem d_jdk_52_method_21_27 : decode jdk_52_method_21_code 27 = .ok (.iload_n 3, 1) := by decide +kernel
theorem d_jdk_52_method_21_28 : decode jdk_52_method_21_code 28 = .ok (.iload 6, 2) := by decide +kernel
theorem d_jdk_52_method_21_30 : decode jdk_52_method_21_code 30 = .ok (.i2b, 1) := by decide +kernel
theorem d_jdk_52_method_21_31 : decode jdk_52_method_21_code 31 = .ok (.bastore, 1) := by decide +kernel
theorem d_jdk_52_method_21_32 : decode jdk_52_method_21_code 32 = .ok (.iinc 1 1, 3) := by decide +kernel
theorem d_jdk_52_method_21_35 : decode jdk_52_method_21_code 35 = .ok (.iinc 3 1, 3) := by decide +kernel
theorem d_jdk_52_method_21_38 : decode jdk_52_method_21_code 38 = .ok (.iinc 5 1, 3) := by decide +kernel
theorem d_jdk_52_method_21_41 : decode jdk_52_method_21_code 41 = .ok (.goto (-38), 3) := by decide +kernel
theorem d_jdk_52_method_16_0 : decode jdk_52_method_16_code 0 = .ok (.iload_n 2, 1) := by decide +kernel
theorem d_jdk_52_method_16_1 : decode jdk_52_method_16_code 1 = .ok (.newarray .byte, 2) := by decide +kernel
theorem d_jdk_52_method_16_3 : decode jdk_52_method_16_code 3 = .ok (.astore_n 3, 1) := by decide +kernel
theorem d_jdk_52_method_16_4 : decode jdk_52_method_16_code 4 = .ok (.aload_n 0, 1) := by decide +kernel
theorem d_jdk_52_method_16_5 : decode jdk_52_method_16_code 5 = .ok (.iload_n 1, 1) := by decide +kernel
theorem d_jdk_52_method_16_6 : decode jdk_52_method_16_code 6 = .ok (.aload_n 3, 1) := by decide +kernel
theorem d_jdk_52_method_16_7 : decode jdk_52_method_16_code 7 = .ok (.iconst 0, 1) := by decide +kernel
theorem d_jdk_52_method_16_8 : decode jdk_52_method_16_code 8 = .ok (.iload_n 2, 1) := by decide +kernel
theorem d_jdk_52_method_16_9 : decode jdk_52_method_16_code 9 = .ok (.invokestatic 115, 3) := by decide +kernel
theorem d_jdk_52_method_16_12 : decode jdk_52_method_16_code 12 = .ok (.istore 4, 2) := by decide +kernel
theorem d_jdk_52_method_16_14 : decode jdk_52_method_16_code 14 = .ok (.iload 4, 2) := by decide +kernel
theorem d_jdk_52_method_16_16 : decode jdk_52_method_16_code 16 = .ok (.iload_n 2, 1) := by decide +kernel
theorem d_jdk_52_method_16_17 : decode jdk_52_method_16_code 17 = .ok (.if_icmp .eq 40, 3) := by decide +kernel
theorem d_jdk_52_method_16_57 : decode jdk_52_method_16_code 57 = .ok (.aload_n 3, 1) := by decide +kernel
theorem d_jdk_52_method_16_58 : decode jdk_52_method_16_code 58 = .ok (.areturn, 1) := by decide +kernel
theorem d_jdk_52_method_15_0 : decode jdk_52_method_15_code 0 = .ok (.iload_n 1, 1) := by decide +kernel
theorem d_jdk_52_method_15_1 : decode jdk_52_method_15_code 1 = .ok (.aload_n 0, 1) := by decide +kernel
theorem d_jdk_52_method_15_2 : decode jdk_52_method_15_code 2 = .ok (.arraylength, 1) := by decide +kernel
theorem d_jdk_52_method_15_3 : decode jdk_52_method_15_code 3 = .ok (.isub, 1) := by decide +kernel
theorem d_jdk_52_method_15_4 : decode jdk_52_method_15_code 4 = .ok (.bipush 31, 2) := by decide +kernel
theorem d_jdk_52_method_15_6 : decode jdk_52_method_15_code 6 = .ok (.iushr, 1) := by decide +kernel
theorem d_jdk_52_method_15_7 : decode jdk_52_method_15_code 7 = .ok (.i2b, 1) := by decide +kernel
theorem d_jdk_52_method_15_8 : decode jdk_52_method_15_code 8 = .ok (.ireturn, 1) := by decide +kernel
theorem d_jdk_42_method_149_0 : decode jdk_42_method_149_code 0 = .ok (.aload_n 0, 1) := by decide +kernel
theorem d_jdk_42_method_149_1 : decode jdk_42_method_149_code 1 = .ok (.invokespecial 1, 3) := by decide +kernel
theorem d_jdk_42_method_149_4 : decode jdk_42_method_149_code 4 = .ok (.iload_n 3, 1) := by decide +kernel
theorem d_jdk_42_method_149_5 : decode jdk_42_method_149_code 5 = .ok (.ifCond .ne 22, 3) := by decide +kernel
theorem d_jdk_42_method_149_8 : decode jdk_42_method_149_code 8 = .ok (.aload_n 0, 1) := by decide +kernel
theorem d_jdk_42_method_149_9 : decode jdk_42_method_149_code 9 = .ok (.ldc 7, 2) := by decide +kernel
theorem d_jdk_42_method_149_11 : decode jdk_42_method_149_code 11 = .ok (.getfield 9, 3) := by decide +kernel
theorem d_jdk_42_method_149_14 : decode jdk_42_method_149_code 14 = .ok (.putfield 9, 3) := by decide +kernel
theorem d_jdk_42_method_149_17 : decode jdk_42_method_149_code 17 = .ok (.aload_n 0, 1) := by decide +kernel
theorem d_jdk_42_method_149_18 : decode jdk_42_method_149_code 18 = .ok (.ldc 7, 2) := by decide +kernel
theorem d_jdk_42_method_149_20 : decode jdk_42_method_149_code 20 = .ok (.getfield 15, 3) := by decide +kernel
theorem d_jdk_42_method_149_23 : decode jdk_42_method_149_code 23 = .ok (.putfield 15, 3) := by decide +kernel
theorem d_jdk_42_method_149_26 : decode jdk_42_method_149_code 26 = .ok (.return_, 1) := by decide +kernel
theorem d_jdk_42_method_149_27 : decode jdk_42_method_149_code 27 = .ok (.getstatic 38, 3) := by decide +kernel
theorem d_jdk_42_method_149_30 : decode jdk_42_method_149_code 30 = .ok (.ifCond .eq 28, 3) := by decide +kernel
theorem d_jdk_42_method_149_33 : decode jdk_42_method_149_code 33 = .ok (.aload_n 1, 1) := by decide +kernel
theorem d_jdk_42_method_149_34 : decode jdk_42_method_149_code 34 = .ok (.iload_n 2, 1) := by decide +kernel
theorem d_jdk_42_method_149_35 : decode jdk_42_method_149_code 35 = .ok (.iload_n 3, 1) := by decide +kernel
theorem d_jdk_42_method_149_36 : decode jdk_42_method_149_code 36 = .ok (.invokestatic 177, 3) := by decide +kernel
theorem d_jdk_42_method_149_39 : decode jdk_42_method_149_code 39 = .ok (.astore 5, 2) := by decide +kernel
theorem d_jdk_42_method_149_41 : decode jdk_42_method_149_code 41 = .ok (.aload_n 0, 1) := by decide +kernel
theorem d_jdk_42_method_149_42 : decode jdk_42_method_149_code 42 = .ok (.aload 5, 2) := by decide +kernel
theorem d_jdk_42_method_149_44 : decode jdk_42_method_149_code 44 = .ok (.iload_n 3, 1) := by decide +kernel
theorem d_jdk_42_method_149_45 : decode jdk_42_method_149_code 45 = .ok (.invokestatic 47, 3) := by decide +kernel
theorem d_jdk_42_method_149_48 : decode jdk_42_method_149_code 48 = .ok (.putfield 15, 3) := by decide +kernel
theorem d_jdk_42_method_149_51 : decode jdk_42_method_149_code 51 = .ok (.aload_n 0, 1) := by decide +kernel
theorem d_jdk_42_method_149_52 : decode jdk_42_method_149_code 52 = .ok (.aload 5, 2) := by decide +kernel
theorem d_jdk_42_method_149_54 : decode jdk_42_method_149_code 54 = .ok (.putfield 9, 3) := by decide +kernel
theorem d_jdk_42_method_149_57 : decode jdk_42_method_149_code 57 = .ok (.return_, 1) := by decide +kernel
theorem d_jdk_42_method_3_0 : decode jdk_42_method_3_code 0 = .ok (.aload_n 0, 1) := by decide +kernel
theorem d_jdk_42_method_3_1 : decode jdk_42_method_3_code 1 = .ok (.aload_n 1, 1) := by decide +kernel
theorem d_jdk_42_method_3_2 : decode jdk_42_method_3_code 2 = .ok (.iconst 0, 1) := by decide +kernel
theorem d_jdk_42_method_3_3 : decode jdk_42_method_3_code 3 = .ok (.aload_n 1, 1) := by decide +kernel
theorem d_jdk_42_method_3_4 : decode jdk_42_method_3_code 4 = .ok (.arraylength, 1) := by decide +kernel
theorem d_jdk_42_method_3_5 : decode jdk_42_method_3_code 5 = .ok (.aconst_null, 1) := by decide +kernel
theorem d_jdk_42_method_3_6 : decode jdk_42_method_3_code 6 = .ok (.invokespecial 27, 3) := by decide +kernel
theorem d_jdk_42_method_3_9 : decode jdk_42_method_3_code 9 = .ok (.return_, 1) := by decide +kernel
theorem d_jdk_68_method_2_0 : decode jdk_68_method_2_code 0 = .ok (.aload_n 0, 1) := by decide +kernel
theorem d_jdk_68_method_2_1 : decode jdk_68_method_2_code 1 = .ok (.invokespecial 3, 3) := by decide +kernel
theorem d_jdk_68_method_2_4 : decode jdk_68_method_2_code 4 = .ok (.getstatic 18, 3) := by decide +kernel
theorem d_jdk_68_method_2_7 : decode jdk_68_method_2_code 7 = .ok (.ifCond .eq 18, 3) := by decide +kernel
theorem d_jdk_68_method_2_10 : decode jdk_68_method_2_code 10 = .ok (.aload_n 0, 1) := by decide +kernel
theorem d_jdk_68_method_2_11 : decode jdk_68_method_2_code 11 = .ok (.iload_n 1, 1) := by decide +kernel
theorem d_jdk_68_method_2_12 : decode jdk_68_method_2_code 12 = .ok (.newarray .byte, 2) := by decide +kernel
theorem d_jdk_68_method_2_14 : decode jdk_68_method_2_code 14 = .ok (.putfield 15, 3) := by decide +kernel
theorem d_jdk_68_method_2_17 : decode jdk_68_method_2_code 17 = .ok (.aload_n 0, 1) := by decide +kernel
theorem d_jdk_68_method_2_18 : decode jdk_68_method_2_code 18 = .ok (.iconst 0, 1) := by decide +kernel
theorem d_jdk_68_method_2_19 : decode jdk_68_method_2_code 19 = .ok (.putfield 22, 3) := by decide +kernel
theorem d_jdk_68_method_2_22 : decode jdk_68_method_2_code 22 = .ok (.goto 16, 3) := by decide +kernel
theorem d_jdk_68_method_2_38 : decode jdk_68_method_2_code 38 = .ok (.return_, 1) := by decide +kernel
theorem d_jdk_67_method_1_0 : decode jdk_67_method_1_code 0 = .ok (.aload_n 0, 1) := by decide +kernel
theorem d_jdk_67_method_1_1 : decode jdk_67_method_1_code 1 = .ok (.bipush 16, 2) := by decide +kernel
theorem d_jdk_67_method_1_3 : decode jdk_67_method_1_code 3 = .ok (.invokespecial 1, 3) := by decide +kernel
theorem d_jdk_67_method_1_6 : decode jdk_67_method_1_code 6 = .ok (.return_, 1) := by decide +kernel
theorem d_jdk_68_method_64_0 : decode jdk_68_method_64_code 0 = .ok (.aload_n 0, 1) := by decide +kernel
theorem d_jdk_68_method_64_1 : decode jdk_68_method_64_code 1 = .ok (.getfield 15, 3) := by decide +kernel
theorem d_jdk_68_method_64_4 : decode jdk_68_method_64_code 4 = .ok (.areturn, 1) := by decide +kernel
theorem d_jdk_68_method_6_0 : decode jdk_68_method_6_code 0 = .ok (.aload_n 0, 1) := by decide +kernel
theorem d_jdk_68_method_6_1 : decode jdk_68_method_6_code 1 = .ok (.getfield 79, 3) := by decide +kernel
theorem d_jdk_68_method_6_4 : decode jdk_68_method_6_code 4 = .ok (.ireturn, 1) := by decide +kernel
theorem d_jdk_67_method_93_0 : decode jdk_67_method_93_code 0 = .ok (.aload_n 0, 1) := by decide +kernel
theorem d_jdk_67_method_93_1 : decode jdk_67_method_93_code 1 = .ok (.invokespecial 343, 3) := by decide +kernel
theorem d_jdk_67_method_93_4 : decode jdk_67_method_93_code 4 = .ok (.ireturn, 1) := by decide +kernel
theorem d_jdk_68_method_68_0 : decode jdk_68_method_68_code 0 = .ok (.getstatic 18, 3) := by decide +kernel
theorem d_jdk_68_method_68_3 : decode jdk_68_method_68_code 3 = .ok (.ifCond .eq 14, 3) := by decide +kernel
theorem d_jdk_68_method_68_6 : decode jdk_68_method_68_code 6 = .ok (.aload_n 0, 1) := by decide +kernel
theorem d_jdk_68_method_68_7 : decode jdk_68_method_68_code 7 = .ok (.getfield 22, 3) := by decide +kernel
theorem d_jdk_68_method_68_10 : decode jdk_68_method_68_code 10 = .ok (.ifCond .ne 7, 3) := by decide +kernel
theorem d_jdk_68_method_68_13 : decode jdk_68_method_68_code 13 = .ok (.iconst 1, 1) := by decide +kernel
theorem d_jdk_68_method_68_14 : decode jdk_68_method_68_code 14 = .ok (.goto 4, 3) := by decide +kernel
theorem d_jdk_68_method_68_18 : decode jdk_68_method_68_code 18 = .ok (.ireturn, 1) := by decide +kernel
theorem d_jdk_68_method_9_0 : decode jdk_68_method_9_code 0 = .ok (.aload_n 0, 1) := by decide +kernel
theorem d_jdk_68_method_9_1 : decode jdk_68_method_9_code 1 = .ok (.getfield 15, 3) := by decide +kernel
theorem d_jdk_68_method_9_4 : decode jdk_68_method_9_code 4 = .ok (.arraylength, 1) := by decide +kernel
theorem d_jdk_68_method_9_5 : decode jdk_68_method_9_code 5 = .ok (.aload_n 0, 1) := by decide +kernel
theorem d_jdk_68_method_9_6 : decode jdk_68_method_9_code 6 = .ok (.getfield 22, 3) := by decide +kernel
theorem d_jdk_68_method_9_9 : decode jdk_68_method_9_code 9 = .ok (.ishr, 1) := by decide +kernel
theorem d_jdk_68_method_9_10 : decode jdk_68_method_9_code 10 = .ok (.istore_n 2, 1) := by decide +kernel
theorem d_jdk_68_method_9_11 : decode jdk_68_method_9_code 11 = .ok (.iload_n 1, 1) := by decide +kernel
theorem d_jdk_68_method_9_12 : decode jdk_68_method_9_code 12 = .ok (.iload_n 2, 1) := by decide +kernel
theorem d_jdk_68_method_9_13 : decode jdk_68_method_9_code 13 = .ok (.isub, 1) := by decide +kernel
theorem d_jdk_68_method_9_14 : decode jdk_68_method_9_code 14 = .ok (.ifCond .le 24, 3) := by decide +kernel
theorem d_jdk_68_method_9_38 : decode jdk_68_method_9_code 38 = .ok (.return_, 1) := by decide +kernel
theorem d_jdk_68_method_71_0 : decode jdk_68_method_71_code 0 = .ok (.getstatic 18, 3) := by decide +kernel
theorem d_jdk_68_method_71_3 : decode jdk_68_method_71_code 3 = .ok (.ifCond .eq 18, 3) := by decide +kernel
theorem d_jdk_68_method_71_6 : decode jdk_68_method_71_code 6 = .ok (.aload_n 0, 1) := by decide +kernel
theorem d_jdk_68_method_71_7 : decode jdk_68_method_71_code 7 = .ok (.getfield 22, 3) := by decide +kernel
theorem d_jdk_68_method_71_10 : decode jdk_68_method_71_code 10 = .ok (.aload_n 1, 1) := by decide +kernel
theorem d_jdk_68_method_71_11 : decode jdk_68_method_71_code 11 = .ok (.invokevirtual 40, 3) := by decide +kernel
theorem d_jdk_68_method_71_14 : decode jdk_68_method_71_code 14 = .ok (.if_icmp .eq 7, 3) := by decide +kernel
theorem d_jdk_68_method_71_21 : decode jdk_68_method_71_code 21 = .ok (.return_, 1) := by decide +kernel
theorem d_jdk_42_method_147_0 : decode jdk_42_method_147_code 0 = .ok (.aload_n 0, 1) := by decide +kernel
theorem d_jdk_42_method_147_1 : decode jdk_42_method_147_code 1 = .ok (.invokevirtual 335, 3) := by decide +kernel
theorem d_jdk_42_method_147_4 : decode jdk_42_method_147_code 4 = .ok (.iload_n 3, 1) := by decide +kernel
theorem d_jdk_42_method_147_5 : decode jdk_42_method_147_code 5 = .ok (.if_icmp .ne 23, 3) := by decide +kernel
theorem d_jdk_42_method_147_8 : decode jdk_42_method_147_code 8 = .ok (.aload_n 0, 1) := by decide +kernel
theorem d_jdk_42_method_147_9 : decode jdk_42_method_147_code 9 = .ok (.getfield 9, 3) := by decide +kernel
theorem d_jdk_42_method_147_12 : decode jdk_42_method_147_code 12 = .ok (.iconst 0, 1) := by decide +kernel
theorem d_jdk_42_method_147_13 : decode jdk_42_method_147_code 13 = .ok (.aload_n 1, 1) := by decide +kernel
theorem d_jdk_42_method_147_14 : decode jdk_42_method_147_code 14 = .ok (.iload_n 2, 1) := by decide +kernel
theorem d_jdk_42_method_147_15 : decode jdk_42_method_147_code 15 = .ok (.iload_n 3, 1) := by decide +kernel
theorem d_jdk_42_method_147_16 : decode jdk_42_method_147_code 16 = .ok (.ishl, 1) := by decide +kernel
theorem d_jdk_42_method_147_17 : decode jdk_42_method_147_code 17 = .ok (.aload_n 0, 1) := by decide +kernel
theorem d_jdk_42_method_147_18 : decode jdk_42_method_147_code 18 = .ok (.getfield 9, 3) := by decide +kernel
theorem d_jdk_42_method_147_21 : decode jdk_42_method_147_code 21 = .ok (.arraylength, 1) := by decide +kernel
theorem d_jdk_42_method_147_22 : decode jdk_42_method_147_code 22 = .ok (.invokestatic 212, 3) := by decide +kernel
theorem d_jdk_42_method_147_25 : decode jdk_42_method_147_code 25 = .ok (.goto 18, 3) := by decide +kernel
theorem d_jdk_42_method_147_43 : decode jdk_42_method_147_code 43 = .ok (.return_, 1) := by decide +kernel
theorem d_jdk_68_method_73_0 : decode jdk_68_method_73_code 0 = .ok (.aload_n 0, 1) := by decide +kernel
theorem d_jdk_68_method_73_1 : decode jdk_68_method_73_code 1 = .ok (.aload_n 2, 1) := by decide +kernel
theorem d_jdk_68_method_73_2 : decode jdk_68_method_73_code 2 = .ok (.invokevirtual 397, 3) := by decide +kernel
theorem d_jdk_68_method_73_5 : decode jdk_68_method_73_code 5 = .ok (.aload_n 2, 1) := by decide +kernel
theorem d_jdk_68_method_73_6 : decode jdk_68_method_73_code 6 = .ok (.aload_n 0, 1) := by decide +kernel
theorem d_jdk_68_method_73_7 : decode jdk_68_method_73_code 7 = .ok (.getfield 15, 3) := by decide +kernel
theorem d_jdk_68_method_73_10 : decode jdk_68_method_73_code 10 = .ok (.iload_n 1, 1) := by decide +kernel
theorem d_jdk_68_method_73_11 : decode jdk_68_method_73_code 11 = .ok (.aload_n 0, 1) := by decide +kernel
theorem d_jdk_68_method_73_12 : decode jdk_68_method_73_code 12 = .ok (.getfield 22, 3) := by decide +kernel
theorem d_jdk_68_method_73_15 : decode jdk_68_method_73_code 15 = .ok (.invokevirtual 399, 3) := by decide +kernel
theorem d_jdk_68_method_73_18 : decode jdk_68_method_73_code 18 = .ok (.return_, 1) := by decide +kernel
theorem d_jdk_68_method_22_0 : decode jdk_68_method_22_code 0 = .ok (.aload_n 1, 1) := by decide +kernel
theorem d_jdk_68_method_22_1 : decode jdk_68_method_22_code 1 = .ok (.ifnonnull 8, 3) := by decide +kernel
theorem d_jdk_68_method_22_9 : decode jdk_68_method_22_code 9 = .ok (.aload_n 1, 1) := by decide +kernel
theorem d_jdk_68_method_22_10 : decode jdk_68_method_22_code 10 = .ok (.invokevirtual 32, 3) := by decide +kernel
theorem d_jdk_68_method_22_13 : decode jdk_68_method_22_code 13 = .ok (.istore_n 2, 1) := by decide +kernel
theorem d_jdk_68_method_22_14 : decode jdk_68_method_22_code 14 = .ok (.aload_n 0, 1) := by decide +kernel
theorem d_jdk_68_method_22_15 : decode jdk_68_method_22_code 15 = .ok (.aload_n 0, 1) := by decide +kernel
theorem d_jdk_68_method_22_16 : decode jdk_68_method_22_code 16 = .ok (.getfield 79, 3) := by decide +kernel
theorem d_jdk_68_method_22_19 : decode jdk_68_method_22_code 19 = .ok (.iload_n 2, 1) := by decide +kernel
theorem d_jdk_68_method_22_20 : decode jdk_68_method_22_code 20 = .ok (.iadd, 1) := by decide +kernel
theorem d_jdk_68_method_22_21 : decode jdk_68_method_22_code 21 = .ok (.invokevirtual 100, 3) := by decide +kernel
theorem d_jdk_68_method_22_24 : decode jdk_68_method_22_code 24 = .ok (.aload_n 0, 1) := by decide +kernel
theorem d_jdk_68_method_22_25 : decode jdk_68_method_22_code 25 = .ok (.aload_n 0, 1) := by decide +kernel
theorem d_jdk_68_method_22_26 : decode jdk_68_method_22_code 26 = .ok (.getfield 79, 3) := by decide +kernel
theorem d_jdk_68_method_22_29 : decode jdk_68_method_22_code 29 = .ok (.aload_n 1, 1) := by decide +kernel
theorem d_jdk_68_method_22_30 : decode jdk_68_method_22_code 30 = .ok (.invokevirtual 208, 3) := by decide +kernel
theorem d_jdk_68_method_22_33 : decode jdk_68_method_22_code 33 = .ok (.aload_n 0, 1) := by decide +kernel
theorem d_jdk_68_method_22_34 : decode jdk_68_method_22_code 34 = .ok (.dup, 1) := by decide +kernel
theorem d_jdk_68_method_22_35 : decode jdk_68_method_22_code 35 = .ok (.getfield 79, 3) := by decide +kernel
theorem d_jdk_68_method_22_38 : decode jdk_68_method_22_code 38 = .ok (.iload_n 2, 1) := by decide +kernel
theorem d_jdk_68_method_22_39 : decode jdk_68_method_22_code 39 = .ok (.iadd, 1) := by decide +kernel
theorem d_jdk_68_method_22_40 : decode jdk_68_method_22_code 40 = .ok (.putfield 79, 3) := by decide +kernel
theorem d_jdk_68_method_22_43 : decode jdk_68_method_22_code 43 = .ok (.aload_n 0, 1) := by decide +kernel
theorem d_jdk_68_method_22_44 : decode jdk_68_method_22_code 44 = .ok (.areturn, 1) := by decide +kernel
theorem d_jdk_67_method_7_0 : decode jdk_67_method_7_code 0 = .ok (.aload_n 0, 1) := by decide +kernel
theorem d_jdk_67_method_7_1 : decode jdk_67_method_7_code 1 = .ok (.aload_n 1, 1) := by decide +kernel
theorem d_jdk_67_method_7_2 : decode jdk_67_method_7_code 2 = .ok (.invokespecial 29, 3) := by decide +kernel
theorem d_jdk_67_method_7_5 : decode jdk_67_method_7_code 5 = .ok (.pop, 1) := by decide +kernel
theorem d_jdk_67_method_7_6 : decode jdk_67_method_7_code 6 = .ok (.aload_n 0, 1) := by decide +kernel
theorem d_jdk_67_method_7_7 : decode jdk_67_method_7_code 7 = .ok (.areturn, 1) := by decide +kernel
theorem d_jdk_65_method_131_0 : decode jdk_65_method_131_code 0 = .ok (.iload_n 1, 1) := by decide +kernel
theorem d_jdk_65_method_131_1 : decode jdk_65_method_131_code 1 = .ok (.iload_n 0, 1) := by decide +kernel
theorem d_jdk_65_method_131_2 : decode jdk_65_method_131_code 2 = .ok (.if_icmp .ge 35, 3) := by decide +kernel
theorem d_jdk_65_method_131_37 : decode jdk_65_method_131_code 37 = .ok (.return_, 1) := by decide +kernel
theorem d_jdk_29_method_69_0 : decode jdk_29_method_69_code 0 = .ok (.iload_n 0, 1) := by decide +kernel
theorem d_jdk_29_method_69_1 : decode jdk_29_method_69_code 1 = .ok (.iload_n 1, 1) := by decide +kernel
theorem d_jdk_29_method_69_2 : decode jdk_29_method_69_code 2 = .ok (.if_icmp .gt 7, 3) := by decide +kernel
theorem d_jdk_29_method_69_9 : decode jdk_29_method_69_code 9 = .ok (.iload_n 1, 1) := by decide +kernel
theorem d_jdk_29_method_69_10 : decode jdk_29_method_69_code 10 = .ok (.ireturn, 1) := by decide +kernel
theorem d_jdk_65_method_133_0 : decode jdk_65_method_133_code 0 = .ok (.iload_n 1, 1) := by decide +kernel
theorem d_jdk_65_method_133_1 : decode jdk_65_method_133_code 1 = .ok (.iload_n 2, 1) := by decide +kernel
theorem d_jdk_65_method_133_2 : decode jdk_65_method_133_code 2 = .ok (.invokestatic 343, 3) := by decide +kernel
theorem d_jdk_65_method_133_5 : decode jdk_65_method_133_code 5 = .ok (.iload_n 2, 1) := by decide +kernel
theorem d_jdk_65_method_133_6 : decode jdk_65_method_133_code 6 = .ok (.iload_n 1, 1) := by decide +kernel
theorem d_jdk_65_method_133_7 : decode jdk_65_method_133_code 7 = .ok (.isub, 1) := by decide +kernel
theorem d_jdk_65_method_133_8 : decode jdk_65_method_133_code 8 = .ok (.istore_n 3, 1) := by decide +kernel
theorem d_jdk_65_method_133_9 : decode jdk_65_method_133_code 9 = .ok (.iload_n 3, 1) := by decide +kernel
theorem d_jdk_65_method_133_10 : decode jdk_65_method_133_code 10 = .ok (.newarray .byte, 2) := by decide +kernel
theorem d_jdk_65_method_133_12 : decode jdk_65_method_133_code 12 = .ok (.astore 4, 2) := by decide +kernel
theorem d_jdk_65_method_133_14 : decode jdk_65_method_133_code 14 = .ok (.aload_n 0, 1) := by decide +kernel
theorem d_jdk_65_method_133_15 : decode jdk_65_method_133_code 15 = .ok (.iload_n 1, 1) := by decide +kernel
theorem d_jdk_65_method_133_16 : decode jdk_65_method_133_code 16 = .ok (.aload 4, 2) := by decide +kernel
theorem d_jdk_65_method_133_18 : decode jdk_65_method_133_code 18 = .ok (.iconst 0, 1) := by decide +kernel
theorem d_jdk_65_method_133_19 : decode jdk_65_method_133_code 19 = .ok (.aload_n 0, 1) := by decide +kernel
theorem d_jdk_65_method_133_20 : decode jdk_65_method_133_code 20 = .ok (.arraylength, 1) := by decide +kernel
theorem d_jdk_65_method_133_21 : decode jdk_65_method_133_code 21 = .ok (.iload_n 1, 1) := by decide +kernel
theorem d_jdk_65_method_133_22 : decode jdk_65_method_133_code 22 = .ok (.isub, 1) := by decide +kernel
theorem d_jdk_65_method_133_23 : decode jdk_65_method_133_code 23 = .ok (.iload_n 3, 1) := by decide +kernel
theorem d_jdk_65_method_133_24 : decode jdk_65_method_133_code 24 = .ok (.invokestatic 304, 3) := by decide +kernel
theorem d_jdk_65_method_133_27 : decode jdk_65_method_133_code 27 = .ok (.invokestatic 150, 3) := by decide +kernel
theorem d_jdk_65_method_133_30 : decode jdk_65_method_133_code 30 = .ok (.aload 4, 2) := by decide +kernel
theorem d_jdk_65_method_133_32 : decode jdk_65_method_133_code 32 = .ok (.areturn, 1) := by decide +kernel
theorem d_jdk_65_method_132_0 : decode jdk_65_method_132_code 0 = .ok (.iload_n 1, 1) := by decide +kernel
theorem d_jdk_65_method_132_1 : decode jdk_65_method_132_code 1 = .ok (.ifCond .ne 9, 3) := by decide +kernel
theorem d_jdk_65_method_132_4 : decode jdk_65_method_132_code 4 = .ok (.iload_n 2, 1) := by decide +kernel
theorem d_jdk_65_method_132_5 : decode jdk_65_method_132_code 5 = .ok (.aload_n 0, 1) := by decide +kernel
theorem d_jdk_65_method_132_6 : decode jdk_65_method_132_code 6 = .ok (.arraylength, 1) := by decide +kernel
theorem d_jdk_65_method_132_7 : decode jdk_65_method_132_code 7 = .ok (.if_icmp .eq 10, 3) := by decide +kernel
theorem d_jdk_65_method_132_10 : decode jdk_65_method_132_code 10 = .ok (.aload_n 0, 1) := by decide +kernel
theorem d_jdk_65_method_132_11 : decode jdk_65_method_132_code 11 = .ok (.iload_n 1, 1) := by decide +kernel
theorem d_jdk_65_method_132_12 : decode jdk_65_method_132_code 12 = .ok (.iload_n 2, 1) := by decide +kernel
theorem d_jdk_65_method_132_13 : decode jdk_65_method_132_code 13 = .ok (.invokestatic 339, 3) := by decide +kernel
theorem d_jdk_65_method_132_16 : decode jdk_65_method_132_code 16 = .ok (.areturn, 1) := by decide +kernel
theorem d_jdk_42_method_150_0 : decode jdk_42_method_150_code 0 = .ok (.aload_n 0, 1) := by decide +kernel
theorem d_jdk_42_method_150_1 : decode jdk_42_method_150_code 1 = .ok (.invokespecial 1, 3) := by decide +kernel
theorem d_jdk_42_method_150_4 : decode jdk_42_method_150_code 4 = .ok (.aload_n 1, 1) := by decide +kernel
theorem d_jdk_42_method_150_5 : decode jdk_42_method_150_code 5 = .ok (.invokevirtual 552, 3) := by decide +kernel
theorem d_jdk_42_method_150_8 : decode jdk_42_method_150_code 8 = .ok (.astore_n 3, 1) := by decide +kernel
theorem d_jdk_42_method_150_9 : decode jdk_42_method_150_code 9 = .ok (.aload_n 1, 1) := by decide +kernel
theorem d_jdk_42_method_150_10 : decode jdk_42_method_150_code 10 = .ok (.invokevirtual 549, 3) := by decide +kernel
theorem d_jdk_42_method_150_13 : decode jdk_42_method_150_code 13 = .ok (.istore 4, 2) := by decide +kernel
theorem d_jdk_42_method_150_15 : decode jdk_42_method_150_code 15 = .ok (.aload_n 1, 1) := by decide +kernel
theorem d_jdk_42_method_150_16 : decode jdk_42_method_150_code 16 = .ok (.invokevirtual 1047, 3) := by decide +kernel
theorem d_jdk_42_method_150_19 : decode jdk_42_method_150_code 19 = .ok (.ifCond .eq 22, 3) := by decide +kernel
theorem d_jdk_42_method_150_22 : decode jdk_42_method_150_code 22 = .ok (.aload_n 0, 1) := by decide +kernel
theorem d_jdk_42_method_150_23 : decode jdk_42_method_150_code 23 = .ok (.iconst 0, 1) := by decide +kernel
theorem d_jdk_42_method_150_24 : decode jdk_42_method_150_code 24 = .ok (.putfield 15, 3) := by decide +kernel
theorem d_jdk_42_method_150_27 : decode jdk_42_method_150_code 27 = .ok (.aload_n 0, 1) := by decide +kernel
theorem d_jdk_42_method_150_28 : decode jdk_42_method_150_code 28 = .ok (.aload_n 3, 1) := by decide +kernel
theorem d_jdk_42_method_150_29 : decode jdk_42_method_150_code 29 = .ok (.iconst 0, 1) := by decide +kernel
theorem d_jdk_42_method_150_30 : decode jdk_42_method_150_code 30 = .ok (.iload 4, 2) := by decide +kernel
theorem d_jdk_42_method_150_32 : decode jdk_42_method_150_code 32 = .ok (.invokestatic 54, 3) := by decide +kernel
theorem d_jdk_42_method_150_35 : decode jdk_42_method_150_code 35 = .ok (.putfield 9, 3) := by decide +kernel
theorem d_jdk_42_method_150_38 : decode jdk_42_method_150_code 38 = .ok (.goto 59, 3) := by decide +kernel
theorem d_jdk_42_method_150_97 : decode jdk_42_method_150_code 97 = .ok (.return_, 1) := by decide +kernel
theorem d_jdk_42_method_53_0 : decode jdk_42_method_53_code 0 = .ok (.aload_n 0, 1) := by decide +kernel
theorem d_jdk_42_method_53_1 : decode jdk_42_method_53_code 1 = .ok (.aload_n 1, 1) := by decide +kernel
theorem d_jdk_42_method_53_2 : decode jdk_42_method_53_code 2 = .ok (.aconst_null, 1) := by decide +kernel
theorem d_jdk_42_method_53_3 : decode jdk_42_method_53_code 3 = .ok (.invokespecial 489, 3) := by decide +kernel
theorem d_jdk_42_method_53_6 : decode jdk_42_method_53_code 6 = .ok (.return_, 1) := by decide +kernel
theorem d_jdk_67_method_42_0 : decode jdk_67_method_42_code 0 = .ok (.new 18, 3) := by decide +kernel
theorem d_jdk_67_method_42_3 : decode jdk_67_method_42_code 3 = .ok (.dup, 1) := by decide +kernel
theorem d_jdk_67_method_42_4 : decode jdk_67_method_42_code 4 = .ok (.aload_n 0, 1) := by decide +kernel
theorem d_jdk_67_method_42_5 : decode jdk_67_method_42_code 5 = .ok (.invokespecial 137, 3) := by decide +kernel
theorem d_jdk_67_method_42_8 : decode jdk_67_method_42_code 8 = .ok (.areturn, 1) := by decide +kernel
theorem d_jdk_78_method_5_0 : decode jdk_78_method_5_code 0 = .ok (.aload_n 0, 1) := by decide +kernel
theorem d_jdk_78_method_5_1 : decode jdk_78_method_5_code 1 = .ok (.invokespecial 1, 3) := by decide +kernel
theorem d_jdk_78_method_5_4 : decode jdk_78_method_5_code 4 = .ok (.aload_n 0, 1) := by decide +kernel
theorem d_jdk_78_method_5_5 : decode jdk_78_method_5_code 5 = .ok (.aload_n 0, 1) := by decide +kernel
theorem d_jdk_78_method_5_6 : decode jdk_78_method_5_code 6 = .ok (.putfield 7, 3) := by decide +kernel
theorem d_jdk_78_method_5_9 : decode jdk_78_method_5_code 9 = .ok (.aload_n 0, 1) := by decide +kernel
theorem d_jdk_78_method_5_10 : decode jdk_78_method_5_code 10 = .ok (.getstatic 13, 3) := by decide +kernel
theorem d_jdk_78_method_5_13 : decode jdk_78_method_5_code 13 = .ok (.putfield 17, 3) := by decide +kernel
theorem d_jdk_78_method_5_16 : decode jdk_78_method_5_code 16 = .ok (.aload_n 0, 1) := by decide +kernel
theorem d_jdk_78_method_5_17 : decode jdk_78_method_5_code 17 = .ok (.getstatic 20, 3) := by decide +kernel
theorem d_jdk_78_method_5_20 : decode jdk_78_method_5_code 20 = .ok (.putfield 24, 3) := by decide +kernel
theorem d_jdk_78_method_5_23 : decode jdk_78_method_5_code 23 = .ok (.iload 4, 2) := by decide +kernel
theorem d_jdk_78_method_5_25 : decode jdk_78_method_5_code 25 = .ok (.ifCond .eq 11, 3) := by decide +kernel
theorem d_jdk_78_method_5_36 : decode jdk_78_method_5_code 36 = .ok (.aload_n 0, 1) := by decide +kernel
theorem d_jdk_78_method_5_37 : decode jdk_78_method_5_code 37 = .ok (.aconst_null, 1) := by decide +kernel
theorem d_jdk_78_method_5_38 : decode jdk_78_method_5_code 38 = .ok (.putfield 17, 3) := by decide +kernel
theorem d_jdk_78_method_5_41 : decode jdk_78_method_5_code 41 = .ok (.aload_n 0, 1) := by decide +kernel
theorem d_jdk_78_method_5_42 : decode jdk_78_method_5_code 42 = .ok (.aload_n 1, 1) := by decide +kernel
theorem d_jdk_78_method_5_43 : decode jdk_78_method_5_code 43 = .ok (.putfield 31, 3) := by decide +kernel
theorem d_jdk_78_method_5_46 : decode jdk_78_method_5_code 46 = .ok (.aload_n 0, 1) := by decide +kernel
theorem d_jdk_78_method_5_47 : decode jdk_78_method_5_code 47 = .ok (.aload_n 2, 1) := by decide +kernel
theorem d_jdk_78_method_5_48 : decode jdk_78_method_5_code 48 = .ok (.putfield 7, 3) := by decide +kernel
theorem d_jdk_78_method_5_51 : decode jdk_78_method_5_code 51 = .ok (.iload_n 3, 1) := by decide +kernel
theorem d_jdk_78_method_5_52 : decode jdk_78_method_5_code 52 = .ok (.ifCond .ne 8, 3) := by decide +kernel
theorem d_jdk_78_method_5_55 : decode jdk_78_method_5_code 55 = .ok (.aload_n 0, 1) := by decide +kernel
theorem d_jdk_78_method_5_56 : decode jdk_78_method_5_code 56 = .ok (.aconst_null, 1) := by decide +kernel
theorem d_jdk_78_method_5_57 : decode jdk_78_method_5_code 57 = .ok (.putfield 24, 3) := by decide +kernel
theorem d_jdk_78_method_5_60 : decode jdk_78_method_5_code 60 = .ok (.return_, 1) := by decide +kernel
theorem d_jdk_59_method_5_0 : decode jdk_59_method_5_code 0 = .ok (.aload_n 0, 1) := by decide +kernel
theorem d_jdk_59_method_5_1 : decode jdk_59_method_5_code 1 = .ok (.aload_n 1, 1) := by decide +kernel
theorem d_jdk_59_method_5_2 : decode jdk_59_method_5_code 2 = .ok (.aload_n 2, 1) := by decide +kernel
theorem d_jdk_59_method_5_3 : decode jdk_59_method_5_code 3 = .ok (.iload_n 3, 1) := by decide +kernel
theorem d_jdk_59_method_5_4 : decode jdk_59_method_5_code 4 = .ok (.iload 4, 2) := by decide +kernel
theorem d_jdk_59_method_5_6 : decode jdk_59_method_5_code 6 = .ok (.invokespecial 16, 3) := by decide +kernel
theorem d_jdk_59_method_5_9 : decode jdk_59_method_5_code 9 = .ok (.return_, 1) := by decide +kernel
theorem d_jdk_78_method_6_0 : decode jdk_78_method_6_code 0 = .ok (.aload_n 0, 1) := by decide +kernel
theorem d_jdk_78_method_6_1 : decode jdk_78_method_6_code 1 = .ok (.getfield 31, 3) := by decide +kernel
theorem d_jdk_78_method_6_4 : decode jdk_78_method_6_code 4 = .ok (.areturn, 1) := by decide +kernel
theorem d_prog_4_method_1_0 : decode prog_4_method_1_code 0 = .ok (.aload_n 0, 1) := by decide +kernel
theorem d_prog_4_method_1_1 : decode prog_4_method_1_code 1 = .ok (.new 1, 3) := by decide +kernel
theorem d_prog_4_method_1_4 : decode prog_4_method_1_code 4 = .ok (.dup, 1) := by decide +kernel
theorem d_prog_4_method_1_5 : decode prog_4_method_1_code 5 = .ok (.invokespecial 3, 3) := by decide +kernel
theorem d_prog_4_method_1_8 : decode prog_4_method_1_code 8 = .ok (.aload_n 1, 1) := by decide +kernel
theorem d_prog_4_method_1_9 : decode prog_4_method_1_code 9 = .ok (.invokevirtual 7, 3) := by decide +kernel
theorem d_prog_4_method_1_12 : decode prog_4_method_1_code 12 = .ok (.ldc 11, 2) := by decide +kernel
theorem d_prog_4_method_1_14 : decode prog_4_method_1_code 14 = .ok (.invokevirtual 7, 3) := by decide +kernel
theorem d_prog_4_method_1_17 : decode prog_4_method_1_code 17 = .ok (.aload_n 2, 1) := by decide +kernel
theorem d_prog_4_method_1_18 : decode prog_4_method_1_code 18 = .ok (.invokevirtual 7, 3) := by decide +kernel
theorem d_prog_4_method_1_21 : decode prog_4_method_1_code 21 = .ok (.invokevirtual 13, 3) := by decide +kernel
theorem d_prog_4_method_1_24 : decode prog_4_method_1_code 24 = .ok (.aconst_null, 1) := by decide +kernel
theorem d_prog_4_method_1_25 : decode prog_4_method_1_code 25 = .ok (.iconst 0, 1) := by decide +kernel
theorem d_prog_4_method_1_26 : decode prog_4_method_1_code 26 = .ok (.iconst 0, 1) := by decide +kernel
theorem d_prog_4_method_1_27 : decode prog_4_method_1_code 27 = .ok (.invokespecial 17, 3) := by decide +kernel
theorem d_prog_4_method_1_30 : decode prog_4_method_1_code 30 = .ok (.aload_n 0, 1) := by decide +kernel
theorem d_prog_4_method_1_31 : decode prog_4_method_1_code 31 = .ok (.aload_n 1, 1) := by decide +kernel
theorem d_prog_4_method_1_32 : decode prog_4_method_1_code 32 = .ok (.putfield 22, 3) := by decide +kernel
theorem d_prog_4_method_1_35 : decode prog_4_method_1_code 35 = .ok (.aload_n 0, 1) := by decide +kernel
theorem d_prog_4_method_1_36 : decode prog_4_method_1_code 36 = .ok (.aload_n 2, 1) := by decide +kernel
theorem d_prog_4_method_1_37 : decode prog_4_method_1_code 37 = .ok (.putfield 28, 3) := by decide +kernel
theorem d_prog_4_method_1_40 : decode prog_4_method_1_code 40 = .ok (.return_, 1) := by decide +kernel
theorem d_prog_4_method_2_0 : decode prog_4_method_2_code 0 = .ok (.new 23, 3) := by decide +kernel
theorem d_prog_4_method_2_3 : decode prog_4_method_2_code 3 = .ok (.dup, 1) := by decide +kernel
theorem d_prog_4_method_2_4 : decode prog_4_method_2_code 4 = .ok (.new 1, 3) := by decide +kernel
theorem d_prog_4_method_2_7 : decode prog_4_method_2_code 7 = .ok (.dup, 1) := by decide +kernel
theorem d_prog_4_method_2_8 : decode prog_4_method_2_code 8 = .ok (.invokespecial 3, 3) := by decide +kernel
theorem d_prog_4_method_2_11 : decode prog_4_method_2_code 11 = .ok (.aload_n 1, 1) := by decide +kernel
theorem d_prog_4_method_2_12 : decode prog_4_method_2_code 12 = .ok (.invokevirtual 7, 3) := by decide +kernel
theorem d_prog_4_method_2_15 : decode prog_4_method_2_code 15 = .ok (.ldc 31, 2) := by decide +kernel
theorem d_prog_4_method_2_17 : decode prog_4_method_2_code 17 = .ok (.invokevirtual 7, 3) := by decide +kernel
theorem d_prog_4_method_2_20 : decode prog_4_method_2_code 20 = .ok (.aload_n 0, 1) := by decide +kernel
theorem d_prog_4_method_2_21 : decode prog_4_method_2_code 21 = .ok (.getfield 22, 3) := by decide +kernel
theorem d_prog_4_method_2_24 : decode prog_4_method_2_code 24 = .ok (.invokevirtual 7, 3) := by decide +kernel
theorem d_prog_4_method_2_27 : decode prog_4_method_2_code 27 = .ok (.invokevirtual 13, 3) := by decide +kernel
theorem d_prog_4_method_2_30 : decode prog_4_method_2_code 30 = .ok (.aload_n 0, 1) := by decide +kernel
theorem d_prog_4_method_2_31 : decode prog_4_method_2_code 31 = .ok (.getfield 28, 3) := by decide +kernel
theorem d_prog_4_method_2_34 : decode prog_4_method_2_code 34 = .ok (.invokespecial 33, 3) := by decide +kernel
theorem d_prog_4_method_2_37 : decode prog_4_method_2_code 37 = .ok (.areturn, 1) := by decide +kernel
theorem d_method_2_0 : decode method_2_code 0 = .ok (.iload_n 0, 1) := by decide +kernel
theorem d_method_2_1 : decode method_2_code 1 = .ok (.bipush 16, 2) := by decide +kernel
theorem d_method_2_3 : decode method_2_code 3 = .ok (.iushr, 1) := by decide +kernel
theorem d_method_2_4 : decode method_2_code 4 = .ok (.sipush 255, 3) := by decide +kernel
theorem d_method_2_7 : decode method_2_code 7 = .ok (.iand, 1) := by decide +kernel
theorem d_method_2_8 : decode method_2_code 8 = .ok (.iconst 3, 1) := by decide +kernel
theorem d_method_2_9 : decode method_2_code 9 = .ok (.irem, 1) := by decide +kernel
theorem d_method_2_10 : decode method_2_code 10 = .ok (.istore_n 1, 1) := by decide +kernel
theorem d_method_2_11 : decode method_2_code 11 = .ok (.iload_n 0, 1) := by decide +kernel
theorem d_method_2_12 : decode method_2_code 12 = .ok (.sipush 255, 3) := by decide +kernel
theorem d_method_2_15 : decode method_2_code 15 = .ok (.iand, 1) := by decide +kernel
theorem d_method_2_16 : decode method_2_code 16 = .ok (.i2c, 1) := by decide +kernel
theorem d_method_2_17 : decode method_2_code 17 = .ok (.istore_n 2, 1) := by decide +kernel
theorem d_method_2_18 : decode method_2_code 18 = .ok (.iload_n 0, 1) := by decide +kernel
theorem d_method_2_19 : decode method_2_code 19 = .ok (.bipush 8, 2) := by decide +kernel
theorem d_method_2_21 : decode method_2_code 21 = .ok (.iushr, 1) := by decide +kernel
theorem d_method_2_22 : decode method_2_code 22 = .ok (.sipush 255, 3) := by decide +kernel
theorem d_method_2_25 : decode method_2_code 25 = .ok (.iand, 1) := by decide +kernel
theorem d_method_2_26 : decode method_2_code 26 = .ok (.i2c, 1) := by decide +kernel
theorem d_method_2_27 : decode method_2_code 27 = .ok (.istore_n 3, 1) := by decide +kernel
theorem d_method_2_28 : decode method_2_code 28 = .ok (.iload_n 1, 1) := by decide +kernel
theorem d_method_2_29 : decode method_2_code 29 = .ok (.ifCond .ne 14, 3) := by decide +kernel
theorem d_method_2_32 : decode method_2_code 32 = .ok (.new 7, 3) := by decide +kernel
theorem d_method_2_35 : decode method_2_code 35 = .ok (.dup, 1) := by decide +kernel
theorem d_method_2_36 : decode method_2_code 36 = .ok (.iconst 0, 1) := by decide +kernel
theorem d_method_2_37 : decode method_2_code 37 = .ok (.newarray .char, 2) := by decide +kernel
theorem d_method_2_39 : decode method_2_code 39 = .ok (.invokespecial 9, 3) := by decide +kernel
theorem d_method_2_42 : decode method_2_code 42 = .ok (.areturn, 1) := by decide +kernel
theorem d_method_2_43 : decode method_2_code 43 = .ok (.iload_n 1, 1) := by decide +kernel
theorem d_method_2_44 : decode method_2_code 44 = .ok (.iconst 1, 1) := by decide +kernel
theorem d_method_2_45 : decode method_2_code 45 = .ok (.if_icmp .ne 8, 3) := by decide +kernel
theorem d_method_2_48 : decode method_2_code 48 = .ok (.iload_n 2, 1) := by decide +kernel
theorem d_method_2_49 : decode method_2_code 49 = .ok (.invokestatic 12, 3) := by decide +kernel
theorem d_method_2_52 : decode method_2_code 52 = .ok (.areturn, 1) := by decide +kernel
theorem d_method_2_53 : decode method_2_code 53 = .ok (.new 7, 3) := by decide +kernel
theorem d_method_2_56 : decode method_2_code 56 = .ok (.dup, 1) := by decide +kernel
theorem d_method_2_57 : decode method_2_code 57 = .ok (.iconst 2, 1) := by decide +kernel
theorem d_method_2_58 : decode method_2_code 58 = .ok (.newarray .char, 2) := by decide +kernel
theorem d_method_2_60 : decode method_2_code 60 = .ok (.dup, 1) := by decide +kernel
theorem d_method_2_61 : decode method_2_code 61 = .ok (.iconst 0, 1) := by decide +kernel
theorem d_method_2_62 : decode method_2_code 62 = .ok (.iload_n 2, 1) := by decide +kernel
theorem d_method_2_63 : decode method_2_code 63 = .ok (.castore, 1) := by decide +kernel
theorem d_method_2_64 : decode method_2_code 64 = .ok (.dup, 1) := by decide +kernel
theorem d_method_2_65 : decode method_2_code 65 = .ok (.iconst 1, 1) := by decide +kernel
theorem d_method_2_66 : decode method_2_code 66 = .ok (.iload_n 3, 1) := by decide +kernel
theorem d_method_2_67 : decode method_2_code 67 = .ok (.castore, 1) := by decide +kernel
theorem d_method_2_68 : decode method_2_code 68 = .ok (.invokespecial 9, 3) := by decide +kernel
theorem d_method_2_71 : decode method_2_code 71 = .ok (.areturn, 1) := by decide +kernel
theorem d_method_3_0 : decode method_3_code 0 = .ok (.aload_n 2, 1) := by decide +kernel
theorem d_method_3_1 : decode method_3_code 1 = .ok (.invokevirtual 16, 3) := by decide +kernel
theorem d_method_3_4 : decode method_3_code 4 = .ok (.iconst 1, 1) := by decide +kernel
theorem d_method_3_5 : decode method_3_code 5 = .ok (.if_icmp .lt 18, 3) := by decide +kernel
theorem d_method_3_23 : decode method_3_code 23 = .ok (.aload_n 2, 1) := by decide +kernel
theorem d_method_3_24 : decode method_3_code 24 = .ok (.invokevirtual 16, 3) := by decide +kernel
theorem d_method_3_27 : decode method_3_code 27 = .ok (.iconst 2, 1) := by decide +kernel
theorem d_method_3_28 : decode method_3_code 28 = .ok (.if_icmp .lt 20, 3) := by decide +kernel
theorem d_method_3_48 : decode method_3_code 48 = .ok (.iconst 1, 1) := by decide +kernel
theorem d_method_3_49 : decode method_3_code 49 = .ok (.ireturn, 1) := by decide +kernel
theorem d_method_3_8 : decode method_3_code 8 = .ok (.aload_n 0, 1) := by decide +kernel
theorem d_method_3_9 : decode method_3_code 9 = .ok (.iload_n 1, 1) := by decide +kernel
theorem d_method_3_10 : decode method_3_code 10 = .ok (.invokevirtual 20, 3) := by decide +kernel
theorem d_method_3_13 : decode method_3_code 13 = .ok (.aload_n 2, 1) := by decide +kernel
theorem d_method_3_14 : decode method_3_code 14 = .ok (.iconst 0, 1) := by decide +kernel
theorem d_method_3_15 : decode method_3_code 15 = .ok (.invokevirtual 20, 3) := by decide +kernel
theorem d_method_3_18 : decode method_3_code 18 = .ok (.if_icmp .eq 5, 3) := by decide +kernel
theorem d_method_3_31 : decode method_3_code 31 = .ok (.aload_n 0, 1) := by decide +kernel
theorem d_method_3_32 : decode method_3_code 32 = .ok (.iload_n 1, 1) := by decide +kernel
theorem d_method_3_33 : decode method_3_code 33 = .ok (.iconst 1, 1) := by decide +kernel
theorem d_method_3_34 : decode method_3_code 34 = .ok (.iadd, 1) := by decide +kernel
theorem d_method_3_35 : decode method_3_code 35 = .ok (.invokevirtual 20, 3) := by decide +kernel
theorem d_method_3_38 : decode method_3_code 38 = .ok (.aload_n 2, 1) := by decide +kernel
theorem d_method_3_39 : decode method_3_code 39 = .ok (.iconst 1, 1) := by decide +kernel
theorem d_method_3_40 : decode method_3_code 40 = .ok (.invokevirtual 20, 3) := by decide +kernel
theorem d_method_3_43 : decode method_3_code 43 = .ok (.if_icmp .eq 5, 3) := by decide +kernel
theorem pd_0 : parseMethodDescriptor "(C)Z" = some ⟨[.char], some .boolean⟩ := by decide +kernel
theorem pd_1 : parseMethodDescriptor "(C)[B" = some ⟨[.char], some (.array .byte)⟩ := by decide +kernel
theorem pd_2 : parseMethodDescriptor "([BB)V" = some ⟨[(.array .byte), .byte], none⟩ := by decide +kernel
theorem pd_3 : parseMethodDescriptor "()B" = some ⟨[], some .byte⟩ := by decide +kernel
theorem pd_4 : parseMethodDescriptor "(IILjava/util/function/BiFunction;)I" = some ⟨[.int, .int, (.object "java/util/function/BiFunction")], some .int⟩ := by decide +kernel
theorem pd_5 : parseMethodDescriptor "(II)V" = some ⟨[.int, .int], none⟩ := by decide +kernel
theorem pd_6 : parseMethodDescriptor "()Z" = some ⟨[], some .boolean⟩ := by decide +kernel
theorem pd_7 : parseMethodDescriptor "([BI)C" = some ⟨[(.array .byte), .int], some .char⟩ := by decide +kernel
theorem pd_8 : parseMethodDescriptor "([CI[BII)I" = some ⟨[(.array .char), .int, (.array .byte), .int, .int], some .int⟩ := by decide +kernel
theorem pd_9 : parseMethodDescriptor "([CII)[B" = some ⟨[(.array .char), .int, .int], some (.array .byte)⟩ := by decide +kernel
theorem pd_10 : parseMethodDescriptor "([BI)B" = some ⟨[(.array .byte), .int], some .byte⟩ := by decide +kernel
theorem pd_11 : parseMethodDescriptor "([CIILjava/lang/Void;)V" = some ⟨[(.array .char), .int, .int, (.object "java/lang/Void")], none⟩ := by decide +kernel
theorem pd_12 : parseMethodDescriptor "(I)V" = some ⟨[.int], none⟩ := by decide +kernel
theorem pd_13 : parseMethodDescriptor "()I" = some ⟨[], some .int⟩ := by decide +kernel
theorem pd_14 : parseMethodDescriptor "(Ljava/lang/String;)V" = some ⟨[(.object "java/lang/String")], none⟩ := by decide +kernel
theorem pd_15 : parseMethodDescriptor "([BIB)V" = some ⟨[(.array .byte), .int, .byte], none⟩ := by decide +kernel
theorem pd_16 : parseMethodDescriptor "(ILjava/lang/String;)V" = some ⟨[.int, (.object "java/lang/String")], none⟩ := by decide +kernel
theorem pd_17 : parseMethodDescriptor "(Ljava/lang/String;)Ljava/lang/AbstractStringBuilder;" = some ⟨[(.object "java/lang/String")], some (.object "java/lang/AbstractStringBuilder")⟩ := by decide +kernel
theorem pd_18 : parseMethodDescriptor "(II)I" = some ⟨[.int, .int], some .int⟩ := by decide +kernel
theorem pd_19 : parseMethodDescriptor "([BII)[B" = some ⟨[(.array .byte), .int, .int], some (.array .byte)⟩ := by decide +kernel
theorem pd_20 : parseMethodDescriptor "()[B" = some ⟨[], some (.array .byte)⟩ := by decide +kernel
theorem pd_21 : parseMethodDescriptor "(Ljava/lang/AbstractStringBuilder;Ljava/lang/Void;)V" = some ⟨[(.object "java/lang/AbstractStringBuilder"), (.object "java/lang/Void")], none⟩ := by decide +kernel
theorem pd_22 : parseMethodDescriptor "(Ljava/lang/StringBuilder;)V" = some ⟨[(.object "java/lang/StringBuilder")], none⟩ := by decide +kernel
theorem pd_23 : parseMethodDescriptor "(Ljava/lang/String;Ljava/lang/Throwable;ZZ)V" = some ⟨[(.object "java/lang/String"), (.object "java/lang/Throwable"), .boolean, .boolean], none⟩ := by decide +kernel
theorem pd_24 : parseMethodDescriptor "()V" = some ⟨[], none⟩ := by decide +kernel
theorem pd_25 : parseMethodDescriptor "(Ljava/lang/String;)Ljava/lang/StringBuilder;" = some ⟨[(.object "java/lang/String")], some (.object "java/lang/StringBuilder")⟩ := by decide +kernel
theorem pd_26 : parseMethodDescriptor "()Ljava/lang/String;" = some ⟨[], some (.object "java/lang/String")⟩ := by decide +kernel
theorem pd_27 : parseMethodDescriptor "(Ljava/lang/String;Ljava/lang/String;)V" = some ⟨[(.object "java/lang/String"), (.object "java/lang/String")], none⟩ := by decide +kernel
theorem pd_28 : parseMethodDescriptor "([C)V" = some ⟨[(.array .char)], none⟩ := by decide +kernel
theorem pd_29 : parseMethodDescriptor "(C)Ljava/lang/String;" = some ⟨[.char], some (.object "java/lang/String")⟩ := by decide +kernel
theorem pd_30 : parseMethodDescriptor "(I)C" = some ⟨[.int], some .char⟩ := by decide +kernel
theorem pd_31 : parseMethodDescriptor "(I)Ljava/lang/String;" = some ⟨[.int], some (.object "java/lang/String")⟩ := by decide +kernel
theorem pd_32 : parseMethodDescriptor "(Ljava/lang/String;)Lcom/example/vestline/vestline/input/MalformedFieldException;" = some ⟨[(.object "java/lang/String")], some (.object "com/example/vestline/vestline/input/MalformedFieldException")⟩ := by decide +kernel
theorem pd_33 : parseMethodDescriptor "(Ljava/lang/String;ILjava/lang/String;)Z" = some ⟨[(.object "java/lang/String"), .int, (.object "java/lang/String")], some .boolean⟩ := by decide +kernel
theorem ushr_nn (x s : Int32) (k : Nat) (hk : s.toBitVec.toNat % 32 = k) (h0 : 0 < k) : 0 ≤ (XT.ushr x s).toInt := by
  have := c_iushr x s k hk h0
  unfold XT.ushr
  rw [this]
  exact Int.ediv_nonneg (Int.emod_nonneg _ (by decide)) (by exact_mod_cast Nat.zero_le _)
set_option maxRecDepth 65536 in
set_option maxHeartbeats 4000000 in
theorem k_canL (l : Launch) (Z : State) (a0 : Array Value) (hE : Ev Z a0) (c : Int32) (h : Heap) (hc : ¬ (255 : Int32) < c) : Con l Z false (⟨"java/lang/StringLatin1", "canEncode", "(C)Z"⟩ : MethodName) jdk_43_method_3_code 1 (some .boolean) ({ frames := 0, cells := 0, slots := 0, locals := 0 } : Room) [(.int c)] h [] false (fun M v h' => v = some (.int 1) ∧ h' = h) := by
  have hw := hE.1
  refine Con.intro (L0 := #[.val (.int c)]) (by decide +kernel) (fun m => ef_of rfl) ?_
  intro B M hwsM ok
  refine W.iloadN ok (pc' := 1) d_jdk_43_method_3_0 rfl rfl ?_
  refine W.sipush ok (pc' := 4) (255 : Int32) d_jdk_43_method_3_1 rfl rfl ?_
  refine W.icmpgt ok (pcY := 11) (pcN := 7) d_jdk_43_method_3_4 rfl (by decide) rfl (fun q => absurd q hc) (fun _ => ?_)
  refine W.iconst ok (pc' := 8) (1 : Int32) d_jdk_43_method_3_7 rfl rfl ?_
  refine W.goto ok (pc' := 12) d_jdk_43_method_3_8 (by decide) rfl ?_
  exact W.retZ ok d_jdk_43_method_3_12 rfl (Nat.le_of_ble_eq_true rfl) (Nat.le_of_ble_eq_true rfl) (fun x (q : x ∈ M) => q) (fun kp => ⟨rfl, rfl⟩)
set_option maxRecDepth 65536 in
set_option maxHeartbeats 4000000 in
theorem k_canW (l : Launch) (Z : State) (a0 : Array Value) (hE : Ev Z a0) (c : Int32) (h : Heap) (hc : (255 : Int32) < c) : Con l Z false (⟨"java/lang/StringLatin1", "canEncode", "(C)Z"⟩ : MethodName) jdk_43_method_3_code 1 (some .boolean) ({ frames := 0, cells := 0, slots := 0, locals := 0 } : Room) [(.int c)] h [] false (fun M v h' => v = some (.int 0) ∧ h' = h) := by
  have hw := hE.1
  refine Con.intro (L0 := #[.val (.int c)]) (by decide +kernel) (fun m => ef_of rfl) ?_
  intro B M hwsM ok
  refine W.iloadN ok (pc' := 1) d_jdk_43_method_3_0 rfl rfl ?_
  refine W.sipush ok (pc' := 4) (255 : Int32) d_jdk_43_method_3_1 rfl rfl ?_
  refine W.icmpgt ok (pcY := 11) (pcN := 7) d_jdk_43_method_3_4 rfl (by decide) rfl (fun _ => ?_) (fun q => absurd hc q)
  refine W.iconst ok (pc' := 12) (0 : Int32) d_jdk_43_method_3_11 rfl rfl ?_
  exact W.retZ ok d_jdk_43_method_3_12 rfl (Nat.le_of_ble_eq_true rfl) (Nat.le_of_ble_eq_true rfl) (fun x (q : x ∈ M) => q) (fun kp => ⟨rfl, rfl⟩)
set_option maxRecDepth 65536 in
set_option maxHeartbeats 4000000 in
theorem k_toBytesL (l : Launch) (Z : State) (a0 : Array Value) (hE : Ev Z a0) (c : Int32) (h : Heap)  : Con l Z false (⟨"java/lang/StringLatin1", "toBytes", "(C)[B"⟩ : MethodName) jdk_43_method_46_code 1 (some (.array .byte)) ({ frames := 0, cells := 1, slots := 1, locals := 0 } : Room) [(.int c)] h [] false (fun M v h' => ∃ t, v = some (.ref t) ∧ h.size ≤ t ∧ ArI Z h' t .byte [b8 c]) := by
  have hw := hE.1
  refine Con.intro (L0 := #[.val (.int c)]) (by decide +kernel) (fun m => ef_of rfl) ?_
  intro B M hwsM ok
  refine W.iconst ok (pc' := 1) (1 : Int32) d_jdk_43_method_46_0 rfl rfl ?_
  refine W.newB ok (pc' := 3) (cap := 1) (w19 hw) (by decide) (by decide) (by decide) d_jdk_43_method_46_1 rfl (Nat.le_of_ble_eq_true rfl) (Nat.le_of_ble_eq_true rfl) (fun a1 h2 z3 ea4 E5 A6 => ?_)
  refine W.dup ok (pc' := 4) d_jdk_43_method_46_3 rfl rfl ?_
  refine W.iconst ok (pc' := 5) (0 : Int32) d_jdk_43_method_46_4 rfl rfl ?_
  refine W.iloadN ok (pc' := 6) d_jdk_43_method_46_5 rfl rfl ?_
  refine W.i2b ok (pc' := 7) d_jdk_43_method_46_6 rfl ?_
  refine W.bastore ok (pc' := 8) (cl' := (true, [])) A6 (by decide) (Nat.le_of_ble_eq_true rfl) (List.mem_cons_self ..) (Or.inr z3) (fun q => ⟨q, z3⟩) rfl d_jdk_43_method_46_7 rfl (fun h7 Wr8 A9 => ?_)
  replace A9 := A9.cast (cs' := [b8 (b8 c)]) rfl
  exact W.retA ok d_jdk_43_method_46_8 rfl rfl (Nat.le_of_ble_eq_true rfl) (Nat.le_of_ble_eq_true rfl) (fun x (q : x ∈ M) => (List.mem_cons_of_mem _ q)) (fun kp => ⟨a1, rfl, Nat.le_of_eq ea4, A9.cast (by rw [b8_b8])⟩)
set_option maxRecDepth 65536 in
set_option maxHeartbeats 4000000 in
theorem k_initBB (l : Launch) (Z : State) (a0 : Array Value) (hE : Ev Z a0) (a t : Addr) (cd : Int32) (h : Heap) (X : Exa Z h a ST) (F1 : Fld Z h a ST "value" "[B" .null) (F2 : Fld Z h a ST "coder" "B" (.int 0)) (hcd : b8 cd = cd) : Con l Z false (⟨"java/lang/String", "<init>", "([BB)V"⟩ : MethodName) jdk_42_method_151_code 3 none ({ frames := 1, cells := 0, slots := 0, locals := 12 } : Room) [(.ref a), (.ref t), (.int cd)] h [a] false (fun M v h' => v = none ∧ Fld Z h' a ST "value" "[B" (.ref t) ∧ Fld Z h' a ST "coder" "B" (.int cd)) := by
  have hw := hE.1
  refine Con.intro (L0 := #[.val (.ref a), .val (.ref t), .val (.int cd)]) (by decide +kernel) (fun m => ef_of rfl) ?_
  intro B M hwsM ok
  have hn : narrow .byte (.int cd) = .int cd := congrArg Value.int hcd
  have hf : fits .byte (.int cd) = true := hcd ▸ fits_nar_byte cd
  refine W.aloadN ok (pc' := 1) d_jdk_42_method_151_0 rfl rfl rfl ?_
  refine W.initO ok (pc' := 4) (w15 hw) (w16 hw) (w17 hw) rfl (Nat.le_of_ble_eq_true rfl) (Nat.le_of_ble_eq_true rfl) d_jdk_42_method_151_1 rfl ?_
  refine W.aloadN ok (pc' := 5) d_jdk_42_method_151_4 rfl rfl rfl ?_
  refine W.aloadN ok (pc' := 6) d_jdk_42_method_151_5 rfl rfl rfl ?_
  refine W.putF ok (pc' := 9) (cl' := (false, [])) (w24 hw) Via.refl F1 X (Or.inr ⟨(w20 hw), rfl, rfl⟩) (w5 hw) (ty := (.array .byte)) (by decide) rfl rfl (hwsM _ (List.mem_of_getElem? (i := 0) rfl)) (Or.inl (List.mem_of_getElem? (i := 0) rfl)) (fun q => by cases q) rfl d_jdk_42_method_151_6 rfl (fun h1 W2 => ?_)
  refine W.aloadN ok (pc' := 10) d_jdk_42_method_151_9 rfl rfl rfl ?_
  refine W.iloadN ok (pc' := 11) d_jdk_42_method_151_10 rfl rfl ?_
  refine W.putF ok (pc' := 14) (cl' := (false, [])) (w25 hw) Via.refl (F2.other W2 (Or.inr (slot_ne (Or.inr (w21 hw)) (Or.inr (w20 hw)) (by decide) (t := .byte) (by decide) (t' := (.array .byte)) (by decide)))) (X.wr W2) (Or.inr ⟨(w21 hw), rfl, rfl⟩) (w5 hw) (ty := .byte) (by decide) (by first | rfl | assumption) (by first | rfl | assumption) (hwsM _ (List.mem_of_getElem? (i := 0) rfl)) (Or.inl (List.mem_of_getElem? (i := 0) rfl)) (fun q => by cases q) rfl d_jdk_42_method_151_11 rfl (fun h3 W4 => ?_)
  exact W.retV ok d_jdk_42_method_151_14 (Nat.le_of_ble_eq_true rfl) (Nat.le_of_ble_eq_true rfl) (fun x (q : x ∈ M) => q) (fun kp => ⟨rfl, (F1.same W2).other W4 (Or.inr (slot_ne (Or.inr (w20 hw)) (Or.inr (w21 hw)) (by decide) (t := (.array .byte)) (by decide) (t' := .byte) (by decide))), (F2.other W2 (Or.inr (slot_ne (Or.inr (w21 hw)) (Or.inr (w20 hw)) (by decide) (t := .byte) (by decide) (t' := (.array .byte)) (by decide)))).same W4⟩)
set_option maxRecDepth 65536 in
set_option maxHeartbeats 4000000 in
theorem k_valL (l : Launch) (Z : State) (a0 : Array Value) (hE : Ev Z a0) (c : Int32) (h : Heap) (hc : 0 ≤ c.toInt ∧ c.toInt ≤ 255) : Con l Z false (⟨"java/lang/String", "valueOf", "(C)Ljava/lang/String;"⟩ : MethodName) jdk_42_method_139_code 1 (some (.object "java/lang/String")) ({ frames := 2, cells := 2, slots := 5, locals := 27 } : Room) [(.int c)] h [] false (fun M v h' => ∃ a, v = some (.ref a) ∧ h.size ≤ a ∧ StrM Z h' M a [c]) := by
  have hw := hE.1
  refine Con.intro (L0 := #[.val (.int c)]) (by decide +kernel) (fun m => ef_of rfl) ?_
  intro B M hwsM ok
  refine W.lt fun hM => ?_
  obtain ⟨g, hg, Fg⟩ := hE.compact
  refine W.getS ok (pc' := 3) (w36 hw) Via.refl Fg d_jdk_42_method_139_0 rfl ?_
  refine W.ifeq ok (pcY := 26) (pcN := 6) d_jdk_42_method_139_3 rfl (by decide) rfl (fun q => absurd q hg) (fun _ => ?_)
  refine W.iloadN ok (pc' := 7) d_jdk_42_method_139_6 rfl rfl ?_
  refine W.callS ok (rest := []) (cl' := (true, [])) (pc' := 10) (w213 hw) (w214 hw) (w200 hw) (w215 hw) (by decide) pd_0 rfl (k_canL l Z a0 hE c h (by rw [Int32.lt_iff_toInt_lt]; have : (255 : Int32).toInt = 255 := rfl; omega)) (fun _ q => (nomatch q)) (fun q => ⟨q, fun _ q => (nomatch q)⟩) rfl rfl (Nat.le_of_ble_eq_true rfl) (Nat.le_of_ble_eq_true rfl) (Nat.le_of_ble_eq_true rfl) (Nat.le_of_ble_eq_true rfl) d_jdk_42_method_139_7 rfl rfl (pureK ?_)
  show W B h 0 0 M (true, []) 10 #[.val (.int c)] [(.int 1)]
  refine W.ifeq ok (pcY := 26) (pcN := 13) d_jdk_42_method_139_10 rfl (by decide) rfl (fun q => absurd q (by decide)) (fun _ => ?_)
  refine W.new ok (pc' := 16) (w216 hw) (w5 hw) (w6 hw) d_jdk_42_method_139_13 rfl (Nat.le_of_ble_eq_true rfl) (Nat.le_of_ble_eq_true rfl) (fun a1 h2 z3 ea4 E5 X6 D7 U8 => ?_)
  refine W.dup ok (pc' := 17) d_jdk_42_method_139_16 rfl rfl ?_
  refine W.iloadN ok (pc' := 18) d_jdk_42_method_139_17 rfl rfl ?_
  have lt1 := gtE X6
  have le1 := E5.1
  refine W.callS ok (rest := [(.ref a1), (.ref a1)]) (cl' := (true, [])) (pc' := 21) (w217 hw) (w218 hw) (w200 hw) (w219 hw) (by decide) pd_1 rfl (k_toBytesL l Z a0 hE c h2) (fun _ q => (nomatch q)) (fun q => ⟨q, fun _ q => (nomatch q)⟩) rfl rfl (Nat.le_of_ble_eq_true rfl) (Nat.le_of_ble_eq_true rfl) (Nat.le_of_ble_eq_true rfl) (Nat.le_of_ble_eq_true rfl) d_jdk_42_method_139_18 rfl rfl (oldK fun v h9 hq K10 => ?_)
  obtain ⟨t, rfl, ht, At⟩ := hq
  show W B h9 2 5 (a1 :: M) (true, []) 21 #[.val (.int c)] [(.ref t), (.ref a1), (.ref a1)]
  refine W.iconst ok (pc' := 22) (0 : Int32) d_jdk_42_method_139_21 rfl rfl ?_
  have le2 := K10.1
  refine W.callI ok (rest := [(.ref a1)]) (cl' := (true, [])) (pc' := 25) rfl (w220 hw) (w221 hw) (w6 hw) (w222 hw) (by decide) pd_2 rfl (k_initBB l Z a0 hE a1 t (0 : Int32) h9 (X6.ext (ext_keep K10)) ((D7 (Or.inr (w20 hw)) (ty := (.array .byte)) (by decide)).ext (ext_keep K10)) ((D7 (Or.inr (w21 hw)) (ty := .byte) (by decide)).ext (ext_keep K10)) rfl) (fun w q => by simp only [List.mem_cons, List.not_mem_nil, or_false] at q; subst q; exact ⟨(List.mem_cons_self ..), (Or.inr z3)⟩) (fun q => ⟨q, fun w q => by simp only [List.mem_cons, List.not_mem_nil, or_false] at q; subst q; exact z3⟩) rfl rfl (Nat.le_of_ble_eq_true rfl) (Nat.le_of_ble_eq_true rfl) (Nat.le_of_ble_eq_true rfl) (Nat.le_of_ble_eq_true rfl) d_jdk_42_method_139_22 rfl rfl (oldK fun v h11 hq K12 => ?_)
  obtain ⟨rfl, G1, G2⟩ := hq
  show W B h11 2 5 (a1 :: M) (true, []) 25 #[.val (.int c)] [(.ref a1)]
  exact W.retA ok d_jdk_42_method_139_25 rfl rfl (Nat.le_of_ble_eq_true rfl) (Nat.le_of_ble_eq_true rfl) (fun x (q : x ∈ M) => (List.mem_cons_of_mem _ q)) (fun kp => ⟨a1, rfl, Nat.le_of_eq ea4, t, _, _, fun q => absurd (hM _ q) (by omega), fun q => absurd (hM _ q) (by omega), ((X6.ext (ext_keep K10)).keep K12), G1, G2, At.keep K12 (nin1 (by omega)), Or.inl ⟨rfl, rfl, by simpa using hc⟩⟩)
set_option maxRecDepth 65536 in
set_option maxHeartbeats 4000000 in
theorem k_coder (l : Launch) (Z : State) (a0 : Array Value) (hE : Ev Z a0) (a : Addr) (cd : Int32) (h : Heap) (F : Fld Z h a ST "coder" "B" (.int cd)) (hc : b8 cd = cd) : Con l Z false (⟨"java/lang/String", "coder", "()B"⟩ : MethodName) jdk_42_method_152_code 1 (some .byte) ({ frames := 0, cells := 0, slots := 0, locals := 0 } : Room) [(.ref a)] h [] false (fun M v h' => v = some (.int cd) ∧ h' = h) := by
  have hw := hE.1
  refine Con.intro (L0 := #[.val (.ref a)]) (by decide +kernel) (fun m => ef_of rfl) ?_
  intro B M hwsM ok
  obtain ⟨g, hg, Fg⟩ := hE.compact
  refine W.getS ok (pc' := 3) (w36 hw) Via.refl Fg d_jdk_42_method_152_0 rfl ?_
  refine W.ifeq ok (pcY := 13) (pcN := 6) d_jdk_42_method_152_3 rfl (by decide) rfl (fun q => absurd q hg) (fun _ => ?_)
  refine W.aloadN ok (pc' := 7) d_jdk_42_method_152_6 rfl rfl rfl ?_
  refine W.getF ok (pc' := 10) (w25 hw) Via.refl F d_jdk_42_method_152_7 rfl ?_
  refine W.goto ok (pc' := 14) d_jdk_42_method_152_10 (by decide) rfl ?_
  exact W.retB ok d_jdk_42_method_152_14 hc (Nat.le_of_ble_eq_true rfl) (Nat.le_of_ble_eq_true rfl) (fun x (q : x ∈ M) => q) (fun kp => ⟨rfl, rfl⟩)
set_option maxRecDepth 65536 in
set_option maxHeartbeats 4000000 in
theorem k_length (l : Launch) (Z : State) (a0 : Array Value) (hE : Ev Z a0) (a : Addr) (cs : List Int32) (h : Heap) (S : Str Z h a cs) (hl : cs.length < 1000000) : Con l Z false (⟨"java/lang/String", "length", "()I"⟩ : MethodName) jdk_42_method_54_code 1 (some .int) ({ frames := 1, cells := 0, slots := 0, locals := 13 } : Room) [(.ref a)] h [] false (fun M v h' => v = some (.int cs.length.toInt32) ∧ h' = h) := by
  have hw := hE.1
  refine Con.intro (L0 := #[.val (.ref a)]) (by decide +kernel) (fun m => ef_of rfl) ?_
  intro B M hwsM ok
  obtain ⟨t, cd, bs, X, F1, F2, A, hc⟩ := S
  refine W.aloadN ok (pc' := 1) d_jdk_42_method_54_0 rfl rfl rfl ?_
  refine W.getF ok (pc' := 4) (w24 hw) Via.refl F1 d_jdk_42_method_54_1 rfl ?_
  refine W.lenI ok (pc' := 5) A bs.length.toInt32 rfl d_jdk_42_method_54_4 rfl ?_
  refine W.aloadN ok (pc' := 6) d_jdk_42_method_54_5 rfl rfl rfl ?_
  refine W.callV ok (rest := [(.int bs.length.toInt32)]) (cl' := (true, [])) (pc' := 9) (w31 hw) (w32 hw) (w34 hw) (w33 hw) (w6 hw) (w35 hw) (by decide) X pd_3 rfl (k_coder l Z a0 hE a cd h F2 hc.cd01) (fun _ q => (nomatch q)) (fun q => ⟨q, fun _ q => (nomatch q)⟩) rfl rfl (Nat.le_of_ble_eq_true rfl) (Nat.le_of_ble_eq_true rfl) (Nat.le_of_ble_eq_true rfl) (Nat.le_of_ble_eq_true rfl) d_jdk_42_method_54_6 rfl rfl (pureK ?_)
  show W B h 0 0 M (true, []) 9 #[.val (.ref a)] [(.int cd), (.int bs.length.toInt32)]
  refine W.ishr ok (pc' := 10) d_jdk_42_method_54_9 rfl ?_
  exact W.retI ok d_jdk_42_method_54_10 (Nat.le_of_ble_eq_true rfl) (Nat.le_of_ble_eq_true rfl) (fun x (q : x ∈ M) => q) (fun kp => ⟨by rw [hc.len hl], rfl⟩)
set_option maxRecDepth 65536 in
set_option maxHeartbeats 4000000 in
theorem k_isLatL (l : Launch) (Z : State) (a0 : Array Value) (hE : Ev Z a0) (a : Addr) (h : Heap) (F : Fld Z h a ST "coder" "B" (.int 0)) : Con l Z false (⟨"java/lang/String", "isLatin1", "()Z"⟩ : MethodName) jdk_42_method_154_code 1 (some .boolean) ({ frames := 0, cells := 0, slots := 0, locals := 0 } : Room) [(.ref a)] h [] false (fun M v h' => v = some (.int 1) ∧ h' = h) := by
  have hw := hE.1
  refine Con.intro (L0 := #[.val (.ref a)]) (by decide +kernel) (fun m => ef_of rfl) ?_
  intro B M hwsM ok
  obtain ⟨g, hg, Fg⟩ := hE.compact
  refine W.getS ok (pc' := 3) (w36 hw) Via.refl Fg d_jdk_42_method_154_0 rfl ?_
  refine W.ifeq ok (pcY := 17) (pcN := 6) d_jdk_42_method_154_3 rfl (by decide) rfl (fun q => absurd q hg) (fun _ => ?_)
  refine W.aloadN ok (pc' := 7) d_jdk_42_method_154_6 rfl rfl rfl ?_
  refine W.getF ok (pc' := 10) (w25 hw) Via.refl F d_jdk_42_method_154_7 rfl ?_
  refine W.ifne ok (pcY := 17) (pcN := 13) d_jdk_42_method_154_10 rfl (by decide) rfl (fun _ => ?_) (fun q => absurd rfl q)
  refine W.iconst ok (pc' := 14) (1 : Int32) d_jdk_42_method_154_13 rfl rfl ?_
  refine W.goto ok (pc' := 18) d_jdk_42_method_154_14 (by decide) rfl ?_
  exact W.retZ ok d_jdk_42_method_154_18 rfl (Nat.le_of_ble_eq_true rfl) (Nat.le_of_ble_eq_true rfl) (fun x (q : x ∈ M) => q) (fun kp => ⟨rfl, rfl⟩)
set_option maxRecDepth 65536 in
set_option maxHeartbeats 4000000 in
theorem k_pCheck (l : Launch) (Z : State) (a0 : Array Value) (hE : Ev Z a0) (i n : Int32) (g : Value) (h : Heap) (hg : g.isRef = true) (h1 : ¬ i < 0) (h2 : i < n) : Con l Z false (⟨"jdk/internal/util/Preconditions", "checkIndex", "(IILjava/util/function/BiFunction;)I"⟩ : MethodName) jdk_41_method_11_code 3 (some .int) ({ frames := 0, cells := 0, slots := 0, locals := 0 } : Room) [(.int i), (.int n), g] h [] false (fun M v h' => v = some (.int i) ∧ h' = h) := by
  have hw := hE.1
  refine Con.intro (L0 := #[.val (.int i), .val (.int n), .val g]) (by decide +kernel) (fun m => ef_of (by rcases XT.refc hg with rfl | ⟨r, rfl⟩ <;> rfl)) ?_
  intro B M hwsM ok
  refine W.iloadN ok (pc' := 1) d_jdk_41_method_11_0 rfl rfl ?_
  refine W.iflt ok (pcY := 9) (pcN := 4) d_jdk_41_method_11_1 rfl (by decide) rfl (fun q => absurd q h1) (fun _ => ?_)
  refine W.iloadN ok (pc' := 5) d_jdk_41_method_11_4 rfl rfl ?_
  refine W.iloadN ok (pc' := 6) d_jdk_41_method_11_5 rfl rfl ?_
  refine W.icmplt ok (pcY := 16) (pcN := 9) d_jdk_41_method_11_6 rfl (by decide) rfl (fun _ => ?_) (fun q => absurd h2 q)
  refine W.iloadN ok (pc' := 17) d_jdk_41_method_11_16 rfl rfl ?_
  exact W.retI ok d_jdk_41_method_11_17 (Nat.le_of_ble_eq_true rfl) (Nat.le_of_ble_eq_true rfl) (fun x (q : x ∈ M) => q) (fun kp => ⟨rfl, rfl⟩)
set_option maxRecDepth 65536 in
set_option maxHeartbeats 4000000 in
theorem k_sCheck (l : Launch) (Z : State) (a0 : Array Value) (hE : Ev Z a0) (i n : Int32) (h : Heap) (h1 : ¬ i < 0) (h2 : i < n) : Con l Z false (⟨"java/lang/String", "checkIndex", "(II)V"⟩ : MethodName) jdk_42_method_155_code 2 none ({ frames := 1, cells := 0, slots := 0, locals := 14 } : Room) [(.int i), (.int n)] h [] false (fun M v h' => v = none ∧ h' = h) := by
  have hw := hE.1
  refine Con.intro (L0 := #[.val (.int i), .val (.int n)]) (by decide +kernel) (fun m => ef_of rfl) ?_
  intro B M hwsM ok
  obtain ⟨g, hg, Fg⟩ := hE.fmt
  refine W.iloadN ok (pc' := 1) d_jdk_42_method_155_0 rfl rfl ?_
  refine W.iloadN ok (pc' := 2) d_jdk_42_method_155_1 rfl rfl ?_
  refine W.getS ok (pc' := 5) (w205 hw) Via.refl Fg d_jdk_42_method_155_2 rfl ?_
  refine W.callS ok (rest := []) (cl' := (true, [])) (pc' := 8) (w207 hw) (w208 hw) (w206 hw) (w209 hw) (by decide) pd_4 rfl (k_pCheck l Z a0 hE i n g h hg h1 h2) (fun _ q => (nomatch q)) (fun q => ⟨q, fun _ q => (nomatch q)⟩) rfl rfl (Nat.le_of_ble_eq_true rfl) (Nat.le_of_ble_eq_true rfl) (Nat.le_of_ble_eq_true rfl) (Nat.le_of_ble_eq_true rfl) d_jdk_42_method_155_5 rfl rfl (pureK ?_)
  show W B h 0 0 M (true, []) 8 #[.val (.int i), .val (.int n)] [(.int i)]
  refine W.pop1 ok (pc' := 9) d_jdk_42_method_155_8 rfl rfl ?_
  exact W.retV ok d_jdk_42_method_155_9 (Nat.le_of_ble_eq_true rfl) (Nat.le_of_ble_eq_true rfl) (fun x (q : x ∈ M) => q) (fun kp => ⟨rfl, rfl⟩)
set_option maxRecDepth 65536 in
set_option maxHeartbeats 4000000 in
theorem k_chL (l : Launch) (Z : State) (a0 : Array Value) (hE : Ev Z a0) (t : Addr) (bs : List Int32) (iN : Nat) (u : Int32) (h : Heap) (A : ArI Z h t .byte bs) (hi : bs[iN]? = some u) (hl : bs.length < 2000000) : Con l Z false (⟨"java/lang/StringLatin1", "charAt", "([BI)C"⟩ : MethodName) jdk_43_method_2_code 2 (some .char) ({ frames := 2, cells := 0, slots := 0, locals := 27 } : Room) [(.ref t), (.int iN.toInt32)] h [] false (fun M v h' => v = some (.int (c16 (u &&& 255))) ∧ h' = h) := by
  have hw := hE.1
  refine Con.intro (L0 := #[.val (.ref t), .val (.int iN.toInt32)]) (by decide +kernel) (fun m => ef_of rfl) ?_
  intro B M hwsM ok
  have li := lt_of_at hi
  have m0 : ¬ iN.toInt32 < 0 := by rw [neg_iff, i32_len (by omega)]; omega
  have ni : (iN.toInt32).toNatClampNeg = iN := nat_i32 (by omega)
  have m1 : iN.toInt32 < bs.length.toInt32 := by rw [Int32.lt_iff_toInt_lt, i32_len (by omega), i32_len (by omega)]; omega
  refine W.iloadN ok (pc' := 1) d_jdk_43_method_2_0 rfl rfl ?_
  refine W.aloadN ok (pc' := 2) d_jdk_43_method_2_1 rfl rfl rfl ?_
  refine W.lenI ok (pc' := 3) A bs.length.toInt32 rfl d_jdk_43_method_2_2 rfl ?_
  refine W.callS ok (rest := []) (cl' := (true, [])) (pc' := 6) (w202 hw) (w203 hw) (w6 hw) (w204 hw) (by decide) pd_5 rfl (k_sCheck l Z a0 hE (iN.toInt32) (bs.length.toInt32) h m0 m1) (fun _ q => (nomatch q)) (fun q => ⟨q, fun _ q => (nomatch q)⟩) rfl rfl (Nat.le_of_ble_eq_true rfl) (Nat.le_of_ble_eq_true rfl) (Nat.le_of_ble_eq_true rfl) (Nat.le_of_ble_eq_true rfl) d_jdk_43_method_2_3 rfl rfl (pureK0 ?_)
  show W B h 0 0 M (true, []) 6 #[.val (.ref t), .val (.int iN.toInt32)] []
  refine W.aloadN ok (pc' := 7) d_jdk_43_method_2_6 rfl rfl rfl ?_
  refine W.iloadN ok (pc' := 8) d_jdk_43_method_2_7 rfl rfl ?_
  refine W.baload ok (pc' := 9) A u m0 (by rw [ni]; exact hi) d_jdk_43_method_2_8 rfl ?_
  refine W.sipush ok (pc' := 12) (255 : Int32) d_jdk_43_method_2_9 rfl rfl ?_
  refine W.iand ok (pc' := 13) d_jdk_43_method_2_12 rfl ?_
  refine W.i2c ok (pc' := 14) d_jdk_43_method_2_13 rfl ?_
  exact W.retC ok d_jdk_43_method_2_14 (c16_c16 _) (Nat.le_of_ble_eq_true rfl) (Nat.le_of_ble_eq_true rfl) (fun x (q : x ∈ M) => q) (fun kp => ⟨rfl, rfl⟩)
set_option maxRecDepth 65536 in
set_option maxHeartbeats 4000000 in
theorem k_charAt (l : Launch) (Z : State) (a0 : Array Value) (hE : Ev Z a0) (a : Addr) (cs : List Int32) (iN : Nat) (c : Int32) (h : Heap) (S : Str Z h a cs) (hi : cs[iN]? = some c) (hl : cs.length < 1000000) (hlat : ∀ x ∈ cs, x.toInt ≤ 255) : Con l Z false (⟨"java/lang/String", "charAt", "(I)C"⟩ : MethodName) jdk_42_method_56_code 2 (some .char) ({ frames := 3, cells := 0, slots := 0, locals := 40 } : Room) [(.ref a), (.int iN.toInt32)] h [] false (fun M v h' => v = some (.int c) ∧ h' = h) := by
  have hw := hE.1
  refine Con.intro (L0 := #[.val (.ref a), .val (.int iN.toInt32)]) (by decide +kernel) (fun m => ef_of rfl) ?_
  intro B M hwsM ok
  obtain ⟨t, cd, bs, X, F1, F2, A, hc⟩ := S
  have hr := hc.rng c (mem_of_at hi)
  have li := lt_of_at hi
  rcases hc with ⟨rfl, rfl, hc⟩ | ⟨rfl, rfl, hc, hx⟩
  · refine W.aloadN ok (pc' := 1) d_jdk_42_method_56_0 rfl rfl rfl ?_
    refine W.callV ok (rest := []) (cl' := (true, [])) (pc' := 4) (w193 hw) (w194 hw) (w196 hw) (w195 hw) (w6 hw) (w197 hw) (by decide) X pd_6 rfl (k_isLatL l Z a0 hE a h F2) (fun _ q => (nomatch q)) (fun q => ⟨q, fun _ q => (nomatch q)⟩) rfl rfl (Nat.le_of_ble_eq_true rfl) (Nat.le_of_ble_eq_true rfl) (Nat.le_of_ble_eq_true rfl) (Nat.le_of_ble_eq_true rfl) d_jdk_42_method_56_1 rfl rfl (pureK ?_)
    show W B h 0 0 M (true, []) 4 #[.val (.ref a), .val (.int iN.toInt32)] [(.int 1)]
    refine W.ifeq ok (pcY := 16) (pcN := 7) d_jdk_42_method_56_4 rfl (by decide) rfl (fun q => absurd q (by decide)) (fun _ => ?_)
    refine W.aloadN ok (pc' := 8) d_jdk_42_method_56_7 rfl rfl rfl ?_
    refine W.getF ok (pc' := 11) (w24 hw) Via.refl F1 d_jdk_42_method_56_8 rfl ?_
    refine W.iloadN ok (pc' := 12) d_jdk_42_method_56_11 rfl rfl ?_
    have e1 : c16 (b8 c &&& 255) = c := by rw [b8_and (hc c (mem_of_at hi)), c16_of hr]
    refine W.callS ok (rest := []) (cl' := (true, [])) (pc' := 15) (w198 hw) (w199 hw) (w200 hw) (w201 hw) (by decide) pd_7 rfl (k_chL l Z a0 hE t (cs.map b8) iN (b8 c) h A (by simp [hi]) (by rw [List.length_map]; omega)) (fun _ q => (nomatch q)) (fun q => ⟨q, fun _ q => (nomatch q)⟩) rfl rfl (Nat.le_of_ble_eq_true rfl) (Nat.le_of_ble_eq_true rfl) (Nat.le_of_ble_eq_true rfl) (Nat.le_of_ble_eq_true rfl) d_jdk_42_method_56_12 rfl rfl (pureK ?_)
    show W B h 0 0 M (true, []) 15 #[.val (.ref a), .val (.int iN.toInt32)] [(.int (c16 (b8 c &&& 255)))]
    rw [e1]
    exact W.retC ok d_jdk_42_method_56_15 (c16_of hr) (Nat.le_of_ble_eq_true rfl) (Nat.le_of_ble_eq_true rfl) (fun x (q : x ∈ M) => q) (fun kp => ⟨rfl, rfl⟩)
  · exact absurd hlat (by obtain ⟨x, hx, h2⟩ := hx; exact fun q => by have := q x hx; omega)
set_option maxRecDepth 65536 in
set_option maxHeartbeats 4000000 in
theorem k_cmpL (l : Launch) (Z : State) (a0 : Array Value) (hE : Ev Z a0) (b d : Addr) (cs : List Int32) (h : Heap) (Ab : ArI Z h b .char cs) (Ad : ArI Z h d .byte (List.replicate cs.length 0)) (hbd : b ≠ d) (hl : cs.length < 1000000) (hlat : ∀ c ∈ cs, c.toInt ≤ 255) : Con l Z false (⟨"java/lang/StringUTF16", "compress", "([CI[BII)I"⟩ : MethodName) jdk_52_method_21_code 7 (some .int) ({ frames := 0, cells := 0, slots := 0, locals := 0 } : Room) [(.ref b), (.int (0 : Int32)), (.ref d), (.int (0 : Int32)), (.int cs.length.toInt32)] h [d] false (fun M v h' => v = some (.int cs.length.toInt32) ∧ ArI Z h' d .byte (cs.map b8)) := by
  have hw := hE.1
  refine Con.intro (L0 := #[.val (.ref b), .val (.int (0 : Int32)), .val (.ref d), .val (.int (0 : Int32)), .val (.int cs.length.toInt32), .unset, .unset]) (by decide +kernel) (fun m => ef_of rfl) ?_
  intro B M hwsM ok
  refine W.iconst ok (pc' := 1) (0 : Int32) d_jdk_52_method_21_0 rfl rfl ?_
  refine W.istore ok (pc' := 3) (L' := #[.val (.ref b), .val (.int (0 : Int32)), .val (.ref d), .val (.int (0 : Int32)), .val (.int cs.length.toInt32), .val (.int (0 : Int32)), .unset]) d_jdk_52_method_21_1 rfl rfl ?_
  have loop : ∀ (m i : Nat) (hh : Heap) (cl : Cl) (s6 : Slot), i + m = cs.length → One s6 → ArI Z hh b .char cs → ArI Z hh d .byte ((cs.take i).map b8 ++ List.replicate m 0) → W B hh 0 0 M cl 3 #[.val (.ref b), .val (.int i.toInt32), .val (.ref d), .val (.int i.toInt32), .val (.int cs.length.toInt32), .val (.int i.toInt32), s6] [] := by
    intro m
    induction m with
    | zero =>
      intro i hh cl s6 hi h6 Ab Ad
      refine W.iload ok (pc' := 5) d_jdk_52_method_21_3 rfl rfl ?_
      refine W.iload ok (pc' := 7) d_jdk_52_method_21_5 rfl rfl ?_
      refine W.icmpge ok (pcY := 44) (pcN := 10) d_jdk_52_method_21_7 rfl (by decide) rfl (fun q => absurd q (by rw [i32_lt (by omega) (by omega)]; omega)) (fun _ => ?_)
      refine W.iload ok (pc' := 46) d_jdk_52_method_21_44 rfl rfl ?_
      exact W.retI ok d_jdk_52_method_21_46 (Nat.le_of_ble_eq_true rfl) (Nat.le_of_ble_eq_true rfl) (fun x (q : x ∈ M) => q) (fun kp => ⟨rfl, Ad.cast (take_all cs i (by omega))⟩)
    | succ m ih =>
      intro i hh cl s6 hi h6 Ab Ad
      have li : i < cs.length := by omega
      obtain ⟨c, hc⟩ := at_lt li
      have c255 : c.toInt ≤ 255 := hlat c (mem_of_at hc)
      refine W.iload ok (pc' := 5) d_jdk_52_method_21_3 rfl rfl ?_
      refine W.iload ok (pc' := 7) d_jdk_52_method_21_5 rfl rfl ?_
      refine W.icmpge ok (pcY := 44) (pcN := 10) d_jdk_52_method_21_7 rfl (by decide) rfl (fun _ => ?_) (fun q => absurd ((i32_lt (by omega) (by omega)).mpr (by omega)) q)
      refine W.aloadN ok (pc' := 11) d_jdk_52_method_21_10 rfl rfl rfl ?_
      refine W.iloadN ok (pc' := 12) d_jdk_52_method_21_11 rfl rfl ?_
      refine W.caload ok (pc' := 13) Ab c (i32_nn (by omega)) (by rw [nat_i32 (by omega)]; exact hc) d_jdk_52_method_21_12 rfl ?_
      refine W.istoreS ok (pc' := 15) (L' := #[.val (.ref b), .val (.int i.toInt32), .val (.ref d), .val (.int i.toInt32), .val (.int cs.length.toInt32), .val (.int i.toInt32), .val (.int c)]) d_jdk_52_method_21_13 rfl rfl h6 rfl ?_
      refine W.iload ok (pc' := 17) d_jdk_52_method_21_15 rfl rfl ?_
      refine W.sipush ok (pc' := 20) (255 : Int32) d_jdk_52_method_21_17 rfl rfl ?_
      refine W.icmple ok (pcY := 26) (pcN := 23) d_jdk_52_method_21_20 rfl (by decide) rfl (fun q => absurd q (le255 c255)) (fun _ => ?_)
      refine W.aloadN ok (pc' := 27) d_jdk_52_method_21_26 rfl rfl rfl ?_
      refine W.iloadN ok (pc' := 28) d_jdk_52_method_21_27 rfl rfl ?_
      refine W.iload ok (pc' := 30) d_jdk_52_method_21_28 rfl rfl ?_
      refine W.i2b ok (pc' := 31) d_jdk_52_method_21_30 rfl ?_
      refine W.bastore ok (pc' := 32) (cl' := (false, cl.2)) Ad (i32_nn (by omega)) (by rw [nat_i32 (by omega)]; simp; omega) (hwsM _ (List.mem_of_getElem? (i := 0) rfl)) (Or.inl (List.mem_of_getElem? (i := 0) rfl)) (fun q => by cases q) rfl d_jdk_52_method_21_31 rfl (fun h1 Wr2 A3 => ?_)
      refine W.iinc ok (pc' := 35) (L' := #[.val (.ref b), .val (.int (i.toInt32 + (1 : Int32))), .val (.ref d), .val (.int i.toInt32), .val (.int cs.length.toInt32), .val (.int i.toInt32), .val (.int c)]) (1 : Int32) d_jdk_52_method_21_32 rfl rfl rfl rfl ?_
      refine W.iinc ok (pc' := 38) (L' := #[.val (.ref b), .val (.int (i.toInt32 + (1 : Int32))), .val (.ref d), .val (.int (i.toInt32 + (1 : Int32))), .val (.int cs.length.toInt32), .val (.int i.toInt32), .val (.int c)]) (1 : Int32) d_jdk_52_method_21_35 rfl rfl rfl rfl ?_
      refine W.iinc ok (pc' := 41) (L' := #[.val (.ref b), .val (.int (i.toInt32 + (1 : Int32))), .val (.ref d), .val (.int (i.toInt32 + (1 : Int32))), .val (.int cs.length.toInt32), .val (.int (i.toInt32 + (1 : Int32))), .val (.int c)]) (1 : Int32) d_jdk_52_method_21_38 rfl rfl rfl rfl ?_
      refine W.goto ok (pc' := 3) d_jdk_52_method_21_41 (by decide) rfl ?_
      rw [i32_succ]
      exact ih (i + 1) _ _ _ (by omega) (One.val rfl) (Ab.other Wr2 hbd) (A3.cast (by rw [nat_i32 (by omega), b8_b8, fill_step hc]))
  exact loop cs.length 0 h _ .unset (by omega) One.u Ab (Ad.cast (by simp))
set_option maxRecDepth 65536 in
set_option maxHeartbeats 4000000 in
theorem k_cmp3L (l : Launch) (Z : State) (a0 : Array Value) (hE : Ev Z a0) (b : Addr) (cs : List Int32) (h : Heap) (Ab : ArI Z h b .char cs) (hcap : cs.length ≤ 2) (hlat : ∀ c ∈ cs, c.toInt ≤ 255) : Con l Z false (⟨"java/lang/StringUTF16", "compress", "([CII)[B"⟩ : MethodName) jdk_52_method_16_code 6 (some (.array .byte)) ({ frames := 1, cells := 1, slots := 2, locals := 18 } : Room) [(.ref b), (.int (0 : Int32)), (.int cs.length.toInt32)] h [] false (fun M v h' => ∃ t, v = some (.ref t) ∧ h.size ≤ t ∧ ArI Z h' t .byte (cs.map b8)) := by
  have hw := hE.1
  refine Con.intro (L0 := #[.val (.ref b), .val (.int (0 : Int32)), .val (.int cs.length.toInt32), .unset, .unset, .unset]) (by decide +kernel) (fun m => ef_of rfl) ?_
  intro B M hwsM ok
  have ltb := Ab.gt
  refine W.iloadN ok (pc' := 1) d_jdk_52_method_16_0 rfl rfl ?_
  refine W.newB ok (pc' := 3) (cap := 2) (w19 hw) (i32_nn (by omega)) (by rw [nat_i32 (by omega)]; omega) (by decide) d_jdk_52_method_16_1 rfl (Nat.le_of_ble_eq_true rfl) (Nat.le_of_ble_eq_true rfl) (fun a1 h2 z3 ea4 E5 A6 => ?_)
  replace A6 := A6.cast (cs' := List.replicate cs.length 0) (by rw [nat_i32 (by omega)])
  refine W.astoreN ok (pc' := 4) (L' := #[.val (.ref b), .val (.int (0 : Int32)), .val (.int cs.length.toInt32), .val (.ref a1), .unset, .unset]) d_jdk_52_method_16_3 rfl rfl rfl ?_
  refine W.aloadN ok (pc' := 5) d_jdk_52_method_16_4 rfl rfl rfl ?_
  refine W.iloadN ok (pc' := 6) d_jdk_52_method_16_5 rfl rfl ?_
  refine W.aloadN ok (pc' := 7) d_jdk_52_method_16_6 rfl rfl rfl ?_
  refine W.iconst ok (pc' := 8) (0 : Int32) d_jdk_52_method_16_7 rfl rfl ?_
  refine W.iloadN ok (pc' := 9) d_jdk_52_method_16_8 rfl rfl ?_
  refine W.callS ok (rest := []) (cl' := (true, [])) (pc' := 12) (w227 hw) (w228 hw) (w225 hw) (w229 hw) (by decide) pd_8 rfl (k_cmpL l Z a0 hE b a1 cs h2 (Ab.ext E5) A6 (ane (by omega)) (by omega) hlat) (fun w q => by simp only [List.mem_cons, List.not_mem_nil, or_false] at q; subst q; exact ⟨(List.mem_cons_self ..), (Or.inr z3)⟩) (fun q => ⟨q, fun w q => by simp only [List.mem_cons, List.not_mem_nil, or_false] at q; subst q; exact z3⟩) rfl rfl (Nat.le_of_ble_eq_true rfl) (Nat.le_of_ble_eq_true rfl) (Nat.le_of_ble_eq_true rfl) (Nat.le_of_ble_eq_true rfl) d_jdk_52_method_16_9 rfl rfl (oldK fun v h7 hq K8 => ?_)
  obtain ⟨rfl, A2⟩ := hq
  show W B h7 1 2 (a1 :: M) (true, []) 12 #[.val (.ref b), .val (.int (0 : Int32)), .val (.int cs.length.toInt32), .val (.ref a1), .unset, .unset] [(.int cs.length.toInt32)]
  refine W.istore ok (pc' := 14) (L' := #[.val (.ref b), .val (.int (0 : Int32)), .val (.int cs.length.toInt32), .val (.ref a1), .val (.int cs.length.toInt32), .unset]) d_jdk_52_method_16_12 rfl rfl ?_
  refine W.iload ok (pc' := 16) d_jdk_52_method_16_14 rfl rfl ?_
  refine W.iloadN ok (pc' := 17) d_jdk_52_method_16_16 rfl rfl ?_
  refine W.icmpeq ok (pcY := 57) (pcN := 20) d_jdk_52_method_16_17 rfl (by decide) rfl (fun _ => ?_) (fun q => absurd rfl q)
  refine W.aloadN ok (pc' := 58) d_jdk_52_method_16_57 rfl rfl rfl ?_
  exact W.retA ok d_jdk_52_method_16_58 rfl rfl (Nat.le_of_ble_eq_true rfl) (Nat.le_of_ble_eq_true rfl) (fun x (q : x ∈ M) => (List.mem_cons_of_mem _ q)) (fun kp => ⟨a1, rfl, Nat.le_of_eq ea4, A2⟩)
set_option maxRecDepth 65536 in
set_option maxHeartbeats 4000000 in
theorem k_cLen (l : Launch) (Z : State) (a0 : Array Value) (hE : Ev Z a0) (t : Addr) (bs : List Int32) (n : Int32) (h : Heap) (A : ArI Z h t .byte bs) : Con l Z false (⟨"java/lang/StringUTF16", "coderFromArrayLen", "([BI)B"⟩ : MethodName) jdk_52_method_15_code 2 (some .byte) ({ frames := 0, cells := 0, slots := 0, locals := 0 } : Room) [(.ref t), (.int n)] h [] false (fun M v h' => v = some (.int (b8 (XT.ushr (n - bs.length.toInt32) (31 : Int32)))) ∧ h' = h) := by
  have hw := hE.1
  refine Con.intro (L0 := #[.val (.ref t), .val (.int n)]) (by decide +kernel) (fun m => ef_of rfl) ?_
  intro B M hwsM ok
  refine W.iloadN ok (pc' := 1) d_jdk_52_method_15_0 rfl rfl ?_
  refine W.aloadN ok (pc' := 2) d_jdk_52_method_15_1 rfl rfl rfl ?_
  refine W.lenI ok (pc' := 3) A bs.length.toInt32 rfl d_jdk_52_method_15_2 rfl ?_
  refine W.isub ok (pc' := 4) d_jdk_52_method_15_3 rfl ?_
  refine W.bipush ok (pc' := 6) (31 : Int32) d_jdk_52_method_15_4 rfl rfl ?_
  refine W.iushr ok (pc' := 7) d_jdk_52_method_15_6 rfl ?_
  refine W.i2b ok (pc' := 8) d_jdk_52_method_15_7 rfl ?_
  exact W.retB ok d_jdk_52_method_15_8 (b8_b8 _) (Nat.le_of_ble_eq_true rfl) (Nat.le_of_ble_eq_true rfl) (fun x (q : x ∈ M) => q) (fun kp => ⟨rfl, rfl⟩)
set_option maxRecDepth 65536 in
set_option maxHeartbeats 4000000 in
theorem k_init4 (l : Launch) (Z : State) (a0 : Array Value) (hE : Ev Z a0) (a b : Addr) (cs : List Int32) (h : Heap) (X : Exa Z h a ST) (F1 : Fld Z h a ST "value" "[B" .null) (F2 : Fld Z h a ST "coder" "B" (.int 0)) (Ab : ArI Z h b .char cs) (hcap : cs.length ≤ 2) (hlat : ∀ c ∈ cs, c.toInt ≤ 255) : Con l Z false (⟨"java/lang/String", "<init>", "([CIILjava/lang/Void;)V"⟩ : MethodName) jdk_42_method_149_code 6 none ({ frames := 2, cells := 4, slots := 8, locals := 35 } : Room) [(.ref a), (.ref b), (.int (0 : Int32)), (.int cs.length.toInt32), .null] h [a] false (fun M v h' => v = none ∧ ∃ t cd bs, t ∉ M ∧ Fld Z h' a ST "value" "[B" (.ref t) ∧ Fld Z h' a ST "coder" "B" (.int cd) ∧ ArI Z h' t .byte bs ∧ Cod cd cs bs) := by
  have hw := hE.1
  refine Con.intro (L0 := #[.val (.ref a), .val (.ref b), .val (.int (0 : Int32)), .val (.int cs.length.toInt32), .val .null, .unset]) (by decide +kernel) (fun m => ef_of rfl) ?_
  intro B M hwsM ok
  refine W.lt fun hM => ?_
  have lta := gtE X
  have ltb := Ab.gt
  have haM : a ∈ M := hwsM _ (List.mem_cons_self ..)
  have ne1 := Exa.neArI X (w5 hw) Ab
  have rc : ∀ c ∈ cs, 0 ≤ c.toInt ∧ c.toInt ≤ 65535 := fun c hc => fits_char_rng (Ab.fit c hc)
  refine W.aloadN ok (pc' := 1) d_jdk_42_method_149_0 rfl rfl rfl ?_
  refine W.initO ok (pc' := 4) (w15 hw) (w16 hw) (w17 hw) rfl (Nat.le_of_ble_eq_true rfl) (Nat.le_of_ble_eq_true rfl) d_jdk_42_method_149_1 rfl ?_
  refine W.iloadN ok (pc' := 5) d_jdk_42_method_149_4 rfl rfl ?_
  refine W.ifne ok (pcY := 27) (pcN := 8) d_jdk_42_method_149_5 rfl (by decide) rfl (fun c0 => ?_) (fun c0 => ?_)
  · have e0 : cs = [] := List.length_eq_zero_iff.mp (by have := (i32_inj (a := cs.length) (b := 0) (by omega) (by omega)).mp c0; exact this)
    subst e0
    refine W.aloadN ok (pc' := 9) d_jdk_42_method_149_8 rfl rfl rfl ?_
    refine W.ldcS ok (pc' := 11) rfl (text := "") (sz := 0) (w18 hw) (fun d hd => hw d ((by decide +kernel : ∀ d ∈ Bundle.stringAtoms, d ∈ tables_1) d hd)) (hE.held _ (List.mem_of_getElem? (i := 2) rfl)) hE.cw (by decide) (Or.inl rfl) (by decide) (by decide) d_jdk_42_method_149_9 rfl (Nat.le_of_ble_eq_true rfl) (Nat.le_of_ble_eq_true rfl) (fun a1 h2 E3 S1 => ?_)
    have S1' := S1
    obtain ⟨t1, cd1, bs1, n1, n2, n3, n4, n5, n6, n7⟩ := S1'
    refine W.getF ok (pc' := 14) (w24 hw) Via.refl n4 d_jdk_42_method_149_11 rfl ?_
    have hat : t1 ≠ a := fun e => n2 (e ▸ haM)
    refine W.putF ok (pc' := 17) (cl' := (false, ("java/lang/String", 7) :: [])) (w24 hw) Via.refl (F1.ext E3) (X.ext E3) (Or.inr ⟨(w20 hw), rfl, rfl⟩) (w5 hw) (ty := (.array .byte)) (by decide) rfl rfl (hwsM _ (List.mem_of_getElem? (i := 0) rfl)) (Or.inl (List.mem_of_getElem? (i := 0) rfl)) (fun q => by cases q) rfl d_jdk_42_method_149_14 rfl (fun h4 W5 => ?_)
    refine W.aloadN ok (pc' := 18) d_jdk_42_method_149_17 rfl rfl rfl ?_
    refine W.ldcS ok (pc' := 20) rfl (text := "") (sz := 0) (w18 hw) (fun d hd => hw d ((by decide +kernel : ∀ d ∈ Bundle.stringAtoms, d ∈ tables_1) d hd)) (hE.held _ (List.mem_of_getElem? (i := 2) rfl)) hE.cw (by decide) (Or.inr (by simp)) (by decide) (by decide) d_jdk_42_method_149_18 rfl (Nat.le_of_ble_eq_true rfl) (Nat.le_of_ble_eq_true rfl) (fun a6 h7 E8 S2 => ?_)
    obtain ⟨t2, cd2, bs2, m1, m2, m3, m4, m5, m6, m7⟩ := S2
    have e7 : cd2 = 0 := by rcases m7 with ⟨q, -⟩ | ⟨-, -, -, q⟩; · exact q
                            · simp [chs] at q
    subst e7
    refine W.getF ok (pc' := 23) (w25 hw) Via.refl m5 d_jdk_42_method_149_20 rfl ?_
    refine W.putF ok (pc' := 26) (cl' := (false, ("java/lang/String", 7) :: ("java/lang/String", 7) :: [])) (w25 hw) Via.refl ((F2.ext E3).other W5 (Or.inr (slot_ne (Or.inr (w21 hw)) (Or.inr (w20 hw)) (by decide) (t := .byte) (by decide) (t' := (.array .byte)) (by decide))) |>.ext E8) (((X.ext E3).wr W5).ext E8) (Or.inr ⟨(w21 hw), rfl, rfl⟩) (w5 hw) (ty := .byte) (by decide) (by first | rfl | assumption) (by first | rfl | assumption) (hwsM _ (List.mem_of_getElem? (i := 0) rfl)) (Or.inl (List.mem_of_getElem? (i := 0) rfl)) (fun q => by cases q) rfl d_jdk_42_method_149_23 rfl (fun h9 W10 => ?_)
    have e8 : cd1 = 0 := by rcases n7 with ⟨q, -⟩ | ⟨-, -, -, q⟩; · exact q
                            · simp [chs] at q
    subst e8
    exact W.retV ok d_jdk_42_method_149_26 (Nat.le_of_ble_eq_true rfl) (Nat.le_of_ble_eq_true rfl) (fun x (q : x ∈ M) => q) (fun kp => ⟨rfl, t1, 0, bs1, n2, ((((F1.ext E3).same W5).ext E8).other W10 (Or.inr (slot_ne (Or.inr (w20 hw)) (Or.inr (w21 hw)) (by decide) (t := (.array .byte)) (by decide) (t' := .byte) (by decide)))), (((F2.ext E3).other W5 (Or.inr (slot_ne (Or.inr (w21 hw)) (Or.inr (w20 hw)) (by decide) (t := .byte) (by decide) (t' := (.array .byte)) (by decide)))).ext E8).same W10, (((n6.other W5 hat).ext E8).other W10 hat), n7⟩)
  · have hne : cs ≠ [] := fun e => c0 (by rw [e]; rfl)
    have hpos : 0 < cs.length := List.length_pos_iff.mpr hne
    obtain ⟨g, hg, Fg⟩ := hE.compact
    refine W.getS ok (pc' := 30) (w36 hw) Via.refl Fg d_jdk_42_method_149_27 rfl ?_
    refine W.ifeq ok (pcY := 58) (pcN := 33) d_jdk_42_method_149_30 rfl (by decide) rfl (fun q => absurd q hg) (fun _ => ?_)
    refine W.aloadN ok (pc' := 34) d_jdk_42_method_149_33 rfl rfl rfl ?_
    refine W.iloadN ok (pc' := 35) d_jdk_42_method_149_34 rfl rfl ?_
    refine W.iloadN ok (pc' := 36) d_jdk_42_method_149_35 rfl rfl ?_
    refine W.callS ok (rest := []) (cl' := (true, [])) (pc' := 39) (w223 hw) (w224 hw) (w225 hw) (w226 hw) (by decide) pd_9 rfl (k_cmp3L l Z a0 hE b cs h Ab hcap hlat) (fun _ q => (nomatch q)) (fun q => ⟨q, fun _ q => (nomatch q)⟩) rfl rfl (Nat.le_of_ble_eq_true rfl) (Nat.le_of_ble_eq_true rfl) (Nat.le_of_ble_eq_true rfl) (Nat.le_of_ble_eq_true rfl) d_jdk_42_method_149_36 rfl rfl (oldK fun v h11 hq K12 => ?_)
    obtain ⟨t, rfl, ht, At⟩ := hq
    show W B h11 1 2 M (true, []) 39 #[.val (.ref a), .val (.ref b), .val (.int (0 : Int32)), .val (.int cs.length.toInt32), .val .null, .unset] [(.ref t)]
    refine W.astore ok (pc' := 41) (L' := #[.val (.ref a), .val (.ref b), .val (.int (0 : Int32)), .val (.int cs.length.toInt32), .val .null, .val (.ref t)]) d_jdk_42_method_149_39 rfl rfl rfl ?_
    refine W.aloadN ok (pc' := 42) d_jdk_42_method_149_41 rfl rfl rfl ?_
    refine W.aload ok (pc' := 44) d_jdk_42_method_149_42 rfl rfl rfl ?_
    refine W.iloadN ok (pc' := 45) d_jdk_42_method_149_44 rfl rfl ?_
    refine W.callS ok (rest := [(.ref a)]) (cl' := (true, [])) (pc' := 48) (w230 hw) (w231 hw) (w225 hw) (w232 hw) (by decide) pd_10 rfl (k_cLen l Z a0 hE t (cs.map b8) cs.length.toInt32 h11 At) (fun _ q => (nomatch q)) (fun q => ⟨q, fun _ q => (nomatch q)⟩) rfl rfl (Nat.le_of_ble_eq_true rfl) (Nat.le_of_ble_eq_true rfl) (Nat.le_of_ble_eq_true rfl) (Nat.le_of_ble_eq_true rfl) d_jdk_42_method_149_45 rfl rfl (pureK ?_)
    show W B h11 1 2 M (true, []) 48 #[.val (.ref a), .val (.ref b), .val (.int (0 : Int32)), .val (.int cs.length.toInt32), .val .null, .val (.ref t)] [(.int (b8 (XT.ushr (cs.length.toInt32 - (cs.map b8).length.toInt32) (31 : Int32)))), (.ref a)]
    rw [show b8 (XT.ushr (cs.length.toInt32 - (cs.map b8).length.toInt32) (31 : Int32)) = 0 by rw [List.length_map, Int32.sub_self]; exact ushr31_zero]
    have ltt := At.gt
    refine W.putF ok (pc' := 51) (cl' := (false, [])) (w25 hw) Via.refl (F2.ext (ext_keep K12)) (X.ext (ext_keep K12)) (Or.inr ⟨(w21 hw), rfl, rfl⟩) (w5 hw) (ty := .byte) (by decide) (by first | rfl | assumption) (by first | rfl | assumption) (hwsM _ (List.mem_of_getElem? (i := 0) rfl)) (Or.inl (List.mem_of_getElem? (i := 0) rfl)) (fun q => by cases q) rfl d_jdk_42_method_149_48 rfl (fun h13 W14 => ?_)
    refine W.aloadN ok (pc' := 52) d_jdk_42_method_149_51 rfl rfl rfl ?_
    refine W.aload ok (pc' := 54) d_jdk_42_method_149_52 rfl rfl rfl ?_
    refine W.putF ok (pc' := 57) (cl' := (false, [])) (w24 hw) Via.refl ((F1.ext (ext_keep K12)).other W14 (Or.inr (slot_ne (Or.inr (w20 hw)) (Or.inr (w21 hw)) (by decide) (t := (.array .byte)) (by decide) (t' := .byte) (by decide)))) ((X.ext (ext_keep K12)).wr W14) (Or.inr ⟨(w20 hw), rfl, rfl⟩) (w5 hw) (ty := (.array .byte)) (by decide) rfl rfl (hwsM _ (List.mem_of_getElem? (i := 0) rfl)) (Or.inl (List.mem_of_getElem? (i := 0) rfl)) (fun q => by cases q) rfl d_jdk_42_method_149_54 rfl (fun h15 W16 => ?_)
    exact W.retV ok d_jdk_42_method_149_57 (Nat.le_of_ble_eq_true rfl) (Nat.le_of_ble_eq_true rfl) (fun x (q : x ∈ M) => q) (fun kp => ⟨rfl, t, (0 : Int32), _, fun q => absurd (hM _ q) (by omega), ((F1.ext (ext_keep K12)).other W14 (Or.inr (slot_ne (Or.inr (w20 hw)) (Or.inr (w21 hw)) (by decide) (t := (.array .byte)) (by decide) (t' := .byte) (by decide)))).same W16, ((F2.ext (ext_keep K12)).same W14).other W16 (Or.inr (slot_ne (Or.inr (w21 hw)) (Or.inr (w20 hw)) (by decide) (t := .byte) (by decide) (t' := (.array .byte)) (by decide))), (At.other W14 (ane (by omega))).other W16 (ane (by omega)), Or.inl ⟨rfl, rfl, fun c hc => ⟨(rc c hc).1, hlat c hc⟩⟩⟩)
set_option maxRecDepth 65536 in
set_option maxHeartbeats 4000000 in
theorem k_initC (l : Launch) (Z : State) (a0 : Array Value) (hE : Ev Z a0) (a b : Addr) (cs : List Int32) (h : Heap) (X : Exa Z h a ST) (F1 : Fld Z h a ST "value" "[B" .null) (F2 : Fld Z h a ST "coder" "B" (.int 0)) (Ab : ArI Z h b .char cs) (hcap : cs.length ≤ 2) (hlat : ∀ c ∈ cs, c.toInt ≤ 255) : Con l Z false (⟨"java/lang/String", "<init>", "([C)V"⟩ : MethodName) jdk_42_method_3_code 2 none ({ frames := 3, cells := 4, slots := 8, locals := 52 } : Room) [(.ref a), (.ref b)] h [a] false (fun M v h' => v = none ∧ ∃ t cd bs, t ∉ M ∧ Fld Z h' a ST "value" "[B" (.ref t) ∧ Fld Z h' a ST "coder" "B" (.int cd) ∧ ArI Z h' t .byte bs ∧ Cod cd cs bs) := by
  have hw := hE.1
  refine Con.intro (L0 := #[.val (.ref a), .val (.ref b)]) (by decide +kernel) (fun m => ef_of rfl) ?_
  intro B M hwsM ok
  refine W.aloadN ok (pc' := 1) d_jdk_42_method_3_0 rfl rfl rfl ?_
  refine W.aloadN ok (pc' := 2) d_jdk_42_method_3_1 rfl rfl rfl ?_
  refine W.iconst ok (pc' := 3) (0 : Int32) d_jdk_42_method_3_2 rfl rfl ?_
  refine W.aloadN ok (pc' := 4) d_jdk_42_method_3_3 rfl rfl rfl ?_
  refine W.lenI ok (pc' := 5) Ab cs.length.toInt32 rfl d_jdk_42_method_3_4 rfl ?_
  refine W.aconstNull ok (pc' := 6) d_jdk_42_method_3_5 rfl ?_
  refine W.callI ok (rest := []) (cl' := (false, [])) (pc' := 9) rfl (w11 hw) (w12 hw) (w6 hw) (w14 hw) (by decide) pd_11 rfl (k_init4 l Z a0 hE a b cs h X F1 F2 Ab hcap hlat) (fun w q => by simp only [List.mem_cons, List.not_mem_nil, or_false] at q; subst q; exact ⟨(hwsM _ (List.mem_of_getElem? (i := 0) rfl)), (Or.inl (List.mem_of_getElem? (i := 0) rfl))⟩) (fun q => by cases q) rfl rfl (Nat.le_of_ble_eq_true rfl) (Nat.le_of_ble_eq_true rfl) (Nat.le_of_ble_eq_true rfl) (Nat.le_of_ble_eq_true rfl) d_jdk_42_method_3_6 rfl rfl (oldK fun v h1 hq K2 => ?_)
  obtain ⟨rfl, hq⟩ := hq
  show W B h1 4 8 M (false, []) 9 #[.val (.ref a), .val (.ref b)] []
  exact W.retV ok d_jdk_42_method_3_9 (Nat.le_of_ble_eq_true rfl) (Nat.le_of_ble_eq_true rfl) (fun x (q : x ∈ M) => q) (fun kp => ⟨rfl, hq⟩)
set_option maxRecDepth 65536 in
set_option maxHeartbeats 4000000 in
theorem k_asbInit (l : Launch) (Z : State) (a0 : Array Value) (hE : Ev Z a0) (a : Addr) (nN : Nat) (h : Heap) (X : Exa Z h a SBC) (F1 : Fld Z h a ASB "value" "[B" .null) (F2 : Fld Z h a ASB "coder" "B" (.int 0)) (F3 : Fld Z h a ASB "count" "I" (.int 0)) (hn : nN ≤ 16) : Con2 l Z false (⟨"java/lang/AbstractStringBuilder", "<init>", "(I)V"⟩ : MethodName) jdk_68_method_2_code 2 none ({ frames := 1, cells := 1, slots := 16, locals := 12 } : Room) [(.ref a), (.int nN.toInt32)] h [a]  (fun M N v h' => ∃ t, N = [t] ∧ h.size ≤ t ∧ v = none ∧ SBd Z h' a t [] (List.replicate nN 0)) := by
  have hw := hE.1
  refine Con2.intro (L0 := #[.val (.ref a), .val (.int nN.toInt32)]) (by decide +kernel) (fun m => ef_of rfl) ?_
  intro B M hwsM ok
  have lta := gtE X
  refine W.old ok fun _ le0 => ?_
  refine W.aloadN ok (pc' := 1) d_jdk_68_method_2_0 rfl rfl rfl ?_
  refine W.initO ok (pc' := 4) (w55 hw) (w16 hw) (w17 hw) rfl (Nat.le_of_ble_eq_true rfl) (Nat.le_of_ble_eq_true rfl) d_jdk_68_method_2_1 rfl ?_
  obtain ⟨g, hg, Fg⟩ := hE.compact
  refine W.getS ok (pc' := 7) (w56 hw) Via.refl Fg d_jdk_68_method_2_4 rfl ?_
  refine W.ifeq ok (pcY := 25) (pcN := 10) d_jdk_68_method_2_7 rfl (by decide) rfl (fun q => absurd q hg) (fun _ => ?_)
  refine W.aloadN ok (pc' := 11) d_jdk_68_method_2_10 rfl rfl rfl ?_
  refine W.iloadN ok (pc' := 12) d_jdk_68_method_2_11 rfl rfl ?_
  refine W.newB ok (pc' := 14) (cap := 16) (w19 hw) (i32_nn (by omega)) (by rw [nat_i32 (by omega)]; omega) (by decide) d_jdk_68_method_2_12 rfl (Nat.le_of_ble_eq_true rfl) (Nat.le_of_ble_eq_true rfl) (fun a1 h2 z3 ea4 E5 A6 => ?_)
  replace A6 := A6.cast (cs' := List.replicate nN 0) (by rw [nat_i32 (by omega)])
  have ox7 := X.ext E5
  have of8 := F1.ext E5
  have of9 := F2.ext E5
  have of10 := F3.ext E5
  refine W.putF ok (pc' := 17) (cl' := (false, [])) (w57 hw) Via.refl of8 ox7 (Or.inl (w58 hw)) (w44 hw) (ty := (.array .byte)) (by decide) rfl rfl (List.mem_cons_of_mem _ (hwsM _ (List.mem_of_getElem? (i := 0) rfl))) (Or.inl (List.mem_of_getElem? (i := 0) rfl)) (fun q => by cases q) rfl d_jdk_68_method_2_14 rfl (fun h11 W12 => ?_)
  have ox13 := ox7.wr W12
  have of14 := of8.same W12
  have of15 := of9.other W12 (Or.inr (slot_ne (Or.inl (w60 hw)) (Or.inl (w58 hw)) (by decide) (t := .byte) (by decide) (t' := (.array .byte)) (by decide)))
  have of16 := of10.other W12 (Or.inr (slot_ne (Or.inl (w73 hw)) (Or.inl (w58 hw)) (by decide) (t := .int) (by decide) (t' := (.array .byte)) (by decide)))
  refine W.aloadN ok (pc' := 18) d_jdk_68_method_2_17 rfl rfl rfl ?_
  refine W.iconst ok (pc' := 19) (0 : Int32) d_jdk_68_method_2_18 rfl rfl ?_
  refine W.putF ok (pc' := 22) (cl' := (false, [])) (w59 hw) Via.refl of15 ox13 (Or.inl (w60 hw)) (w44 hw) (ty := .byte) (by decide) (by first | rfl | assumption) (by first | rfl | assumption) (List.mem_cons_of_mem _ (hwsM _ (List.mem_of_getElem? (i := 0) rfl))) (Or.inl (List.mem_of_getElem? (i := 0) rfl)) (fun q => by cases q) rfl d_jdk_68_method_2_19 rfl (fun h17 W18 => ?_)
  have ox19 := ox13.wr W18
  have of20 := of14.other W18 (Or.inr (slot_ne (Or.inl (w58 hw)) (Or.inl (w60 hw)) (by decide) (t := (.array .byte)) (by decide) (t' := .byte) (by decide)))
  have of21 := of15.same W18
  have of22 := of16.other W18 (Or.inr (slot_ne (Or.inl (w73 hw)) (Or.inl (w60 hw)) (by decide) (t := .int) (by decide) (t' := .byte) (by decide)))
  refine W.goto ok (pc' := 38) d_jdk_68_method_2_22 (by decide) rfl ?_
  exact W.retVN ok [a1] d_jdk_68_method_2_38 (Nat.le_of_ble_eq_true rfl) (Nat.le_of_ble_eq_true rfl) (fun x q => (List.mem_append.mp q).elim (fun q => (by rw [List.mem_singleton.mp q]; exact (List.mem_cons_self ..))) (fun q => (List.mem_cons_of_mem _ q))) (fun kp => ⟨a1, rfl, Nat.le_of_eq ea4, rfl, ox19, of20, of21, of22, (A6.other W12 (ane (by omega))).other W18 (ane (by omega)), fun _ q => (nomatch q)⟩)
set_option maxRecDepth 65536 in
set_option maxHeartbeats 4000000 in
theorem k_sbInit (l : Launch) (Z : State) (a0 : Array Value) (hE : Ev Z a0) (a : Addr) (h : Heap) (X : Exa Z h a SBC) (F1 : Fld Z h a ASB "value" "[B" .null) (F2 : Fld Z h a ASB "coder" "B" (.int 0)) (F3 : Fld Z h a ASB "count" "I" (.int 0)) : Con2 l Z false (⟨"java/lang/StringBuilder", "<init>", "()V"⟩ : MethodName) jdk_67_method_1_code 1 none ({ frames := 2, cells := 1, slots := 16, locals := 25 } : Room) [(.ref a)] h [a]  (fun M N v h' => ∃ t, N = [t] ∧ h.size ≤ t ∧ v = none ∧ SBd Z h' a t [] (List.replicate 16 0)) := by
  have hw := hE.1
  refine Con2.intro (L0 := #[.val (.ref a)]) (by decide +kernel) (fun m => ef_of rfl) ?_
  intro B M hwsM ok
  refine W.aloadN ok (pc' := 1) d_jdk_67_method_1_0 rfl rfl rfl ?_
  refine W.bipush ok (pc' := 3) (16 : Int32) d_jdk_67_method_1_1 rfl rfl ?_
  refine W.callI ok (rest := []) (cl' := (false, [])) (pc' := 6) rfl (w49 hw) (w50 hw) (w53 hw) (w54 hw) (by decide) pd_12 rfl (k_asbInit l Z a0 hE a 16 h X F1 F2 F3 (by decide)) (fun w q => by simp only [List.mem_cons, List.not_mem_nil, or_false] at q; subst q; exact ⟨(hwsM _ (List.mem_of_getElem? (i := 0) rfl)), (Or.inl (List.mem_of_getElem? (i := 0) rfl))⟩) (fun q => by cases q) rfl rfl (Nat.le_of_ble_eq_true rfl) (Nat.le_of_ble_eq_true rfl) (Nat.le_of_ble_eq_true rfl) (Nat.le_of_ble_eq_true rfl) d_jdk_67_method_1_3 rfl rfl (fun N3 v h1 hq K2 => ?_)
  obtain ⟨t, rfl, ht, rfl, S⟩ := hq
  show W B h1 1 16 (t :: M) (false, []) 6 #[.val (.ref a)] []
  exact W.retVN ok [t] d_jdk_67_method_1_6 (Nat.le_of_ble_eq_true rfl) (Nat.le_of_ble_eq_true rfl) (fun x q => (List.mem_append.mp q).elim (fun q => (by rw [List.mem_singleton.mp q]; exact (List.mem_cons_self ..))) (fun q => (List.mem_cons_of_mem _ q))) (fun kp => ⟨t, rfl, ht, rfl, S⟩)
set_option maxRecDepth 65536 in
set_option maxHeartbeats 4000000 in
theorem k_sbVal (l : Launch) (Z : State) (a0 : Array Value) (hE : Ev Z a0) (a t : Addr) (cs bs : List Int32) (h : Heap) (S : SBd Z h a t cs bs) : Con l Z false (⟨"java/lang/AbstractStringBuilder", "getValue", "()[B"⟩ : MethodName) jdk_68_method_64_code 1 (some (.array .byte)) ({ frames := 0, cells := 0, slots := 0, locals := 0 } : Room) [(.ref a)] h [] false (fun M v h' => v = some (.ref t) ∧ h' = h) := by
  have hw := hE.1
  refine Con.intro (L0 := #[.val (.ref a)]) (by decide +kernel) (fun m => ef_of rfl) ?_
  intro B M hwsM ok
  obtain ⟨q1, q2, q3, q4, q5, q6⟩ := S
  refine W.aloadN ok (pc' := 1) d_jdk_68_method_64_0 rfl rfl rfl ?_
  refine W.getF ok (pc' := 4) (w57 hw) Via.refl q2 d_jdk_68_method_64_1 rfl ?_
  exact W.retA ok d_jdk_68_method_64_4 rfl rfl (Nat.le_of_ble_eq_true rfl) (Nat.le_of_ble_eq_true rfl) (fun x (q : x ∈ M) => q) (fun kp => ⟨rfl, rfl⟩)
set_option maxRecDepth 65536 in
set_option maxHeartbeats 4000000 in
theorem k_asbLen (l : Launch) (Z : State) (a0 : Array Value) (hE : Ev Z a0) (a t : Addr) (cs bs : List Int32) (h : Heap) (S : SBd Z h a t cs bs) : Con l Z false (⟨"java/lang/AbstractStringBuilder", "length", "()I"⟩ : MethodName) jdk_68_method_6_code 1 (some .int) ({ frames := 0, cells := 0, slots := 0, locals := 0 } : Room) [(.ref a)] h [] false (fun M v h' => v = some (.int cs.length.toInt32) ∧ h' = h) := by
  have hw := hE.1
  refine Con.intro (L0 := #[.val (.ref a)]) (by decide +kernel) (fun m => ef_of rfl) ?_
  intro B M hwsM ok
  obtain ⟨q1, q2, q3, q4, q5, q6⟩ := S
  refine W.aloadN ok (pc' := 1) d_jdk_68_method_6_0 rfl rfl rfl ?_
  refine W.getF ok (pc' := 4) (w72 hw) Via.refl q4 d_jdk_68_method_6_1 rfl ?_
  exact W.retI ok d_jdk_68_method_6_4 (Nat.le_of_ble_eq_true rfl) (Nat.le_of_ble_eq_true rfl) (fun x (q : x ∈ M) => q) (fun kp => ⟨rfl, rfl⟩)
set_option maxRecDepth 65536 in
set_option maxHeartbeats 4000000 in
theorem k_sbLen (l : Launch) (Z : State) (a0 : Array Value) (hE : Ev Z a0) (a t : Addr) (cs bs : List Int32) (h : Heap) (S : SBd Z h a t cs bs) : Con l Z false (⟨"java/lang/StringBuilder", "length", "()I"⟩ : MethodName) jdk_67_method_93_code 1 (some .int) ({ frames := 1, cells := 0, slots := 0, locals := 12 } : Room) [(.ref a)] h [] false (fun M v h' => v = some (.int cs.length.toInt32) ∧ h' = h) := by
  have hw := hE.1
  refine Con.intro (L0 := #[.val (.ref a)]) (by decide +kernel) (fun m => ef_of rfl) ?_
  intro B M hwsM ok
  refine W.aloadN ok (pc' := 1) d_jdk_67_method_93_0 rfl rfl rfl ?_
  refine W.callU ok (rest := []) (cl' := (true, [])) (pc' := 4) (y := (⟨"java/lang/AbstractStringBuilder", "length", "()I"⟩ : MethodName)) (show NoFace Z "java/lang/AbstractStringBuilder" from NoFace.of (w77 hw)) (by decide) (w123 hw) (w119 hw) (w68 hw) (w53 hw) (w124 hw) (by decide) S.exa pd_13 rfl (k_asbLen l Z a0 hE a t cs bs h S) (fun _ q => (nomatch q)) (fun q => ⟨q, fun _ q => (nomatch q)⟩) rfl rfl (Nat.le_of_ble_eq_true rfl) (Nat.le_of_ble_eq_true rfl) (Nat.le_of_ble_eq_true rfl) (Nat.le_of_ble_eq_true rfl) d_jdk_67_method_93_1 rfl rfl (pureK ?_)
  show W B h 0 0 M (true, []) 4 #[.val (.ref a)] [(.int cs.length.toInt32)]
  exact W.retI ok d_jdk_67_method_93_4 (Nat.le_of_ble_eq_true rfl) (Nat.le_of_ble_eq_true rfl) (fun x (q : x ∈ M) => q) (fun kp => ⟨rfl, rfl⟩)
set_option maxRecDepth 65536 in
set_option maxHeartbeats 4000000 in
theorem k_sbLat (l : Launch) (Z : State) (a0 : Array Value) (hE : Ev Z a0) (a t : Addr) (cs bs : List Int32) (h : Heap) (S : SBd Z h a t cs bs) : Con l Z false (⟨"java/lang/AbstractStringBuilder", "isLatin1", "()Z"⟩ : MethodName) jdk_68_method_68_code 1 (some .boolean) ({ frames := 0, cells := 0, slots := 0, locals := 0 } : Room) [(.ref a)] h [] false (fun M v h' => v = some (.int 1) ∧ h' = h) := by
  have hw := hE.1
  refine Con.intro (L0 := #[.val (.ref a)]) (by decide +kernel) (fun m => ef_of rfl) ?_
  intro B M hwsM ok
  obtain ⟨q1, q2, q3, q4, q5, q6⟩ := S
  obtain ⟨g, hg, Fg⟩ := hE.compact
  refine W.getS ok (pc' := 3) (w56 hw) Via.refl Fg d_jdk_68_method_68_0 rfl ?_
  refine W.ifeq ok (pcY := 17) (pcN := 6) d_jdk_68_method_68_3 rfl (by decide) rfl (fun q => absurd q hg) (fun _ => ?_)
  refine W.aloadN ok (pc' := 7) d_jdk_68_method_68_6 rfl rfl rfl ?_
  refine W.getF ok (pc' := 10) (w59 hw) Via.refl q3 d_jdk_68_method_68_7 rfl ?_
  refine W.ifne ok (pcY := 17) (pcN := 13) d_jdk_68_method_68_10 rfl (by decide) rfl (fun _ => ?_) (fun q => absurd rfl q)
  refine W.iconst ok (pc' := 14) (1 : Int32) d_jdk_68_method_68_13 rfl rfl ?_
  refine W.goto ok (pc' := 18) d_jdk_68_method_68_14 (by decide) rfl ?_
  exact W.retZ ok d_jdk_68_method_68_18 rfl (Nat.le_of_ble_eq_true rfl) (Nat.le_of_ble_eq_true rfl) (fun x (q : x ∈ M) => q) (fun kp => ⟨rfl, rfl⟩)
set_option maxRecDepth 65536 in
set_option maxHeartbeats 4000000 in
theorem k_sbEns (l : Launch) (Z : State) (a0 : Array Value) (hE : Ev Z a0) (a t : Addr) (cs bs : List Int32) (mN : Nat) (h : Heap) (S : SBd Z h a t cs bs) (hm : mN ≤ cs.length + bs.length) (hl : cs.length + bs.length < 1000000) : Con l Z false (⟨"java/lang/AbstractStringBuilder", "ensureCapacityInternal", "(I)V"⟩ : MethodName) jdk_68_method_9_code 3 none ({ frames := 0, cells := 0, slots := 0, locals := 0 } : Room) [(.ref a), (.int mN.toInt32)] h [] false (fun M v h' => v = none ∧ h' = h) := by
  have hw := hE.1
  refine Con.intro (L0 := #[.val (.ref a), .val (.int mN.toInt32), .unset]) (by decide +kernel) (fun m => ef_of rfl) ?_
  intro B M hwsM ok
  obtain ⟨q1, q2, q3, q4, q5, q6⟩ := S
  refine W.aloadN ok (pc' := 1) d_jdk_68_method_9_0 rfl rfl rfl ?_
  refine W.getF ok (pc' := 4) (w57 hw) Via.refl q2 d_jdk_68_method_9_1 rfl ?_
  refine W.lenI ok (pc' := 5) q5 ((cs.map b8 ++ bs).length.toInt32) rfl d_jdk_68_method_9_4 rfl ?_
  refine W.aloadN ok (pc' := 6) d_jdk_68_method_9_5 rfl rfl rfl ?_
  refine W.getF ok (pc' := 9) (w59 hw) Via.refl q3 d_jdk_68_method_9_6 rfl ?_
  refine W.ishr ok (pc' := 10) d_jdk_68_method_9_9 rfl ?_
  refine W.istoreN ok (pc' := 11) (L' := #[.val (.ref a), .val (.int mN.toInt32), .val (.int (((cs.map b8 ++ bs).length.toInt32) >>> ((0 : Int32) &&& 31)))]) d_jdk_68_method_9_10 rfl rfl ?_
  refine W.iloadN ok (pc' := 12) d_jdk_68_method_9_11 rfl rfl ?_
  refine W.iloadN ok (pc' := 13) d_jdk_68_method_9_12 rfl rfl ?_
  refine W.isub ok (pc' := 14) d_jdk_68_method_9_13 rfl ?_
  have le : ¬ 0 < mN.toInt32 - (cs.map b8 ++ bs).length.toInt32 >>> ((0 : Int32) &&& 31) := by
    rw [shr0]; exact i32_le (by omega) (by simp; omega) (by simp; omega)
  refine W.ifle ok (pcY := 38) (pcN := 17) d_jdk_68_method_9_14 rfl (by decide) rfl (fun q => absurd q le) (fun _ => ?_)
  exact W.retV ok d_jdk_68_method_9_38 (Nat.le_of_ble_eq_true rfl) (Nat.le_of_ble_eq_true rfl) (fun x (q : x ∈ M) => q) (fun kp => ⟨rfl, rfl⟩)
set_option maxRecDepth 65536 in
set_option maxHeartbeats 4000000 in
theorem k_sbInf (l : Launch) (Z : State) (a0 : Array Value) (hE : Ev Z a0) (a t : Addr) (cs bs : List Int32) (s : Addr) (ds : List Int32) (h : Heap) (S : SBd Z h a t cs bs) (T : Str Z h s ds) (hlat : ∀ c ∈ ds, c.toInt ≤ 255) : Con l Z false (⟨"java/lang/AbstractStringBuilder", "inflateIfNeededFor", "(Ljava/lang/String;)V"⟩ : MethodName) jdk_68_method_71_code 2 none ({ frames := 1, cells := 0, slots := 0, locals := 13 } : Room) [(.ref a), (.ref s)] h [] false (fun M v h' => v = none ∧ h' = h) := by
  have hw := hE.1
  refine Con.intro (L0 := #[.val (.ref a), .val (.ref s)]) (by decide +kernel) (fun m => ef_of rfl) ?_
  intro B M hwsM ok
  obtain ⟨q1, q2, q3, q4, q5, q6⟩ := S
  obtain ⟨u, cd, es, X, G1, G2, A, hc⟩ := T
  obtain ⟨rfl, rfl, hr⟩ : cd = 0 ∧ es = ds.map b8 ∧ ∀ c ∈ ds, 0 ≤ c.toInt ∧ c.toInt ≤ 255 := by
    rcases hc with hc | ⟨-, -, -, x, hx, h2⟩
    · exact hc
    · have := hlat x hx; omega
  obtain ⟨g, hg, Fg⟩ := hE.compact
  refine W.getS ok (pc' := 3) (w56 hw) Via.refl Fg d_jdk_68_method_71_0 rfl ?_
  refine W.ifeq ok (pcY := 21) (pcN := 6) d_jdk_68_method_71_3 rfl (by decide) rfl (fun q => absurd q hg) (fun _ => ?_)
  refine W.aloadN ok (pc' := 7) d_jdk_68_method_71_6 rfl rfl rfl ?_
  refine W.getF ok (pc' := 10) (w59 hw) Via.refl q3 d_jdk_68_method_71_7 rfl ?_
  refine W.aloadN ok (pc' := 11) d_jdk_68_method_71_10 rfl rfl rfl ?_
  refine W.callV ok (rest := [(.int (0 : Int32))]) (cl' := (true, [])) (pc' := 14) (w89 hw) (w32 hw) (w34 hw) (w33 hw) (w6 hw) (w35 hw) (by decide) X pd_3 rfl (k_coder l Z a0 hE s 0 h G2 rfl) (fun _ q => (nomatch q)) (fun q => ⟨q, fun _ q => (nomatch q)⟩) rfl rfl (Nat.le_of_ble_eq_true rfl) (Nat.le_of_ble_eq_true rfl) (Nat.le_of_ble_eq_true rfl) (Nat.le_of_ble_eq_true rfl) d_jdk_68_method_71_11 rfl rfl (pureK ?_)
  show W B h 0 0 M (true, []) 14 #[.val (.ref a), .val (.ref s)] [(.int (0 : Int32)), (.int (0 : Int32))]
  refine W.icmpeq ok (pcY := 21) (pcN := 17) d_jdk_68_method_71_14 rfl (by decide) rfl (fun _ => ?_) (fun q => absurd rfl q)
  exact W.retV ok d_jdk_68_method_71_21 (Nat.le_of_ble_eq_true rfl) (Nat.le_of_ble_eq_true rfl) (fun x (q : x ∈ M) => q) (fun kp => ⟨rfl, rfl⟩)
set_option maxRecDepth 65536 in
set_option maxHeartbeats 4000000 in
theorem k_getB (l : Launch) (Z : State) (a0 : Array Value) (hE : Ev Z a0) (s t : Addr) (ds es : List Int32) (pN : Nat) (h : Heap) (T : Str Z h s ds) (hlat : ∀ c ∈ ds, c.toInt ≤ 255) (D : ArI Z h t .byte es) (hp : pN + ds.length ≤ es.length) (hl : es.length < 1000000) : Con l Z false (⟨"java/lang/String", "getBytes", "([BIB)V"⟩ : MethodName) jdk_42_method_147_code 4 none ({ frames := 1, cells := 0, slots := 0, locals := 18 } : Room) [(.ref s), (.ref t), (.int pN.toInt32), (.int (0 : Int32))] h [t] false (fun M v h' => v = none ∧ ArI Z h' t .byte (es.take pN ++ ds.map b8 ++ es.drop (pN + ds.length))) := by
  have hw := hE.1
  refine Con.intro (L0 := #[.val (.ref s), .val (.ref t), .val (.int pN.toInt32), .val (.int (0 : Int32))]) (by decide +kernel) (fun m => ef_of rfl) ?_
  intro B M hwsM ok
  obtain ⟨u, cd, es, X, G1, G2, A, hc⟩ := T
  obtain ⟨rfl, rfl, hr⟩ : cd = 0 ∧ es = ds.map b8 ∧ ∀ c ∈ ds, 0 ≤ c.toInt ∧ c.toInt ≤ 255 := by
    rcases hc with hc | ⟨-, -, -, x, hx, h2⟩
    · exact hc
    · have := hlat x hx; omega
  refine W.aloadN ok (pc' := 1) d_jdk_42_method_147_0 rfl rfl rfl ?_
  refine W.callV ok (rest := []) (cl' := (true, [])) (pc' := 4) (w31 hw) (w32 hw) (w34 hw) (w33 hw) (w6 hw) (w35 hw) (by decide) X pd_3 rfl (k_coder l Z a0 hE s 0 h G2 rfl) (fun _ q => (nomatch q)) (fun q => ⟨q, fun _ q => (nomatch q)⟩) rfl rfl (Nat.le_of_ble_eq_true rfl) (Nat.le_of_ble_eq_true rfl) (Nat.le_of_ble_eq_true rfl) (Nat.le_of_ble_eq_true rfl) d_jdk_42_method_147_1 rfl rfl (pureK ?_)
  show W B h 0 0 M (true, []) 4 #[.val (.ref s), .val (.ref t), .val (.int pN.toInt32), .val (.int (0 : Int32))] [(.int (0 : Int32))]
  refine W.iloadN ok (pc' := 5) d_jdk_42_method_147_4 rfl rfl ?_
  refine W.icmpne ok (pcY := 28) (pcN := 8) d_jdk_42_method_147_5 rfl (by decide) rfl (fun _ => ?_) (fun q => absurd rfl q)
  refine W.aloadN ok (pc' := 9) d_jdk_42_method_147_8 rfl rfl rfl ?_
  refine W.getF ok (pc' := 12) (w24 hw) Via.refl G1 d_jdk_42_method_147_9 rfl ?_
  refine W.iconst ok (pc' := 13) (0 : Int32) d_jdk_42_method_147_12 rfl rfl ?_
  refine W.aloadN ok (pc' := 14) d_jdk_42_method_147_13 rfl rfl rfl ?_
  refine W.iloadN ok (pc' := 15) d_jdk_42_method_147_14 rfl rfl ?_
  refine W.iloadN ok (pc' := 16) d_jdk_42_method_147_15 rfl rfl ?_
  refine W.ishl ok (pc' := 17) d_jdk_42_method_147_16 rfl ?_
  rw [shl0]
  refine W.aloadN ok (pc' := 18) d_jdk_42_method_147_17 rfl rfl rfl ?_
  refine W.getF ok (pc' := 21) (w24 hw) Via.refl G1 d_jdk_42_method_147_18 rfl ?_
  refine W.lenI ok (pc' := 22) A ((ds.map b8).length.toInt32) rfl d_jdk_42_method_147_21 rfl ?_
  refine W.acopy ok (pc' := 25) (cl' := (false, [])) (sp := 0) (dp := pN) (nn := (ds.map b8).length) (w95 hw) (w98 hw) (w96 hw) (w97 hw) A D rfl (by simp) (by simp; omega) (by simp; omega) (by omega) (hwsM _ (List.mem_of_getElem? (i := 0) rfl)) (Or.inl (List.mem_of_getElem? (i := 0) rfl)) (fun q => by cases q) rfl rfl (Nat.le_of_ble_eq_true rfl) (Nat.le_of_ble_eq_true rfl) d_jdk_42_method_147_22 rfl (fun h1 K2 A3 => ?_)
  show W B h1 0 0 M (false, []) 25 #[.val (.ref s), .val (.ref t), .val (.int pN.toInt32), .val (.int (0 : Int32))] []
  refine W.goto ok (pc' := 43) d_jdk_42_method_147_25 (by decide) rfl ?_
  exact W.retV ok d_jdk_42_method_147_43 (Nat.le_of_ble_eq_true rfl) (Nat.le_of_ble_eq_true rfl) (fun x (q : x ∈ M) => q) (fun kp => ⟨rfl, A3.cast (by rw [List.drop_zero, List.take_length, List.length_map])⟩)
set_option maxRecDepth 65536 in
set_option maxHeartbeats 4000000 in
theorem k_sbPut (l : Launch) (Z : State) (a0 : Array Value) (hE : Ev Z a0) (a t : Addr) (cs bs : List Int32) (s : Addr) (ds : List Int32) (h : Heap) (S : SBd Z h a t cs bs) (T : Str Z h s ds) (hlat : ∀ c ∈ ds, c.toInt ≤ 255) (hroom : ds.length ≤ bs.length) (hl : cs.length + bs.length < 1000000) : Con l Z false (⟨"java/lang/AbstractStringBuilder", "putStringAt", "(ILjava/lang/String;)V"⟩ : MethodName) jdk_68_method_73_code 3 none ({ frames := 2, cells := 0, slots := 0, locals := 33 } : Room) [(.ref a), (.int cs.length.toInt32), (.ref s)] h [t] false (fun M v h' => v = none ∧ ArI Z h' t .byte ((cs.map b8 ++ bs).take cs.length ++ ds.map b8 ++ (cs.map b8 ++ bs).drop (cs.length + ds.length))) := by
  have hw := hE.1
  refine Con.intro (L0 := #[.val (.ref a), .val (.int cs.length.toInt32), .val (.ref s)]) (by decide +kernel) (fun m => ef_of rfl) ?_
  intro B M hwsM ok
  refine W.aloadN ok (pc' := 1) d_jdk_68_method_73_0 rfl rfl rfl ?_
  refine W.aloadN ok (pc' := 2) d_jdk_68_method_73_1 rfl rfl rfl ?_
  refine W.callW ok (rest := []) (cl' := (true, [])) (pc' := 5) (yr := (⟨"java/lang/AbstractStringBuilder", "inflateIfNeededFor", "(Ljava/lang/String;)V"⟩ : MethodName)) (w84 hw) (decl_of (w85 hw) (w88 hw)) (show NoFace Z "java/lang/AbstractStringBuilder" from NoFace.of (w77 hw)) (w87 hw) (w85 hw) (w53 hw) (w88 hw) (by decide) S.exa pd_14 rfl (k_sbInf l Z a0 hE a t cs bs s ds h S T hlat) (fun _ q => (nomatch q)) (fun q => ⟨q, fun _ q => (nomatch q)⟩) rfl rfl (Nat.le_of_ble_eq_true rfl) (Nat.le_of_ble_eq_true rfl) (Nat.le_of_ble_eq_true rfl) (Nat.le_of_ble_eq_true rfl) d_jdk_68_method_73_2 rfl rfl (pureK0 ?_)
  show W B h 0 0 M (true, []) 5 #[.val (.ref a), .val (.int cs.length.toInt32), .val (.ref s)] []
  refine W.aloadN ok (pc' := 6) d_jdk_68_method_73_5 rfl rfl rfl ?_
  refine W.aloadN ok (pc' := 7) d_jdk_68_method_73_6 rfl rfl rfl ?_
  obtain ⟨q1, q2, q3, q4, q5, q6⟩ := S
  refine W.getF ok (pc' := 10) (w57 hw) Via.refl q2 d_jdk_68_method_73_7 rfl ?_
  refine W.iloadN ok (pc' := 11) d_jdk_68_method_73_10 rfl rfl ?_
  refine W.aloadN ok (pc' := 12) d_jdk_68_method_73_11 rfl rfl rfl ?_
  refine W.getF ok (pc' := 15) (w59 hw) Via.refl q3 d_jdk_68_method_73_12 rfl ?_
  refine W.callV ok (rest := []) (cl' := (false, [])) (pc' := 18) (w90 hw) (w91 hw) (w93 hw) (w92 hw) (w6 hw) (w94 hw) (by decide) T.exa pd_15 rfl (k_getB l Z a0 hE s t ds (cs.map b8 ++ bs) cs.length h T hlat q5 (by simp; omega) (by simp; omega)) (fun w q => by simp only [List.mem_cons, List.not_mem_nil, or_false] at q; subst q; exact ⟨(hwsM _ (List.mem_of_getElem? (i := 0) rfl)), (Or.inl (List.mem_of_getElem? (i := 0) rfl))⟩) (fun q => by cases q) rfl rfl (Nat.le_of_ble_eq_true rfl) (Nat.le_of_ble_eq_true rfl) (Nat.le_of_ble_eq_true rfl) (Nat.le_of_ble_eq_true rfl) d_jdk_68_method_73_15 rfl rfl (oldK fun v h1 hq K2 => ?_)
  obtain ⟨rfl, A⟩ := hq
  show W B h1 0 0 M (false, []) 18 #[.val (.ref a), .val (.int cs.length.toInt32), .val (.ref s)] []
  exact W.retV ok d_jdk_68_method_73_18 (Nat.le_of_ble_eq_true rfl) (Nat.le_of_ble_eq_true rfl) (fun x (q : x ∈ M) => q) (fun kp => ⟨rfl, A⟩)
set_option maxRecDepth 65536 in
set_option maxHeartbeats 4000000 in
theorem k_asbApp (l : Launch) (Z : State) (a0 : Array Value) (hE : Ev Z a0) (a t : Addr) (cs bs : List Int32) (s : Addr) (ds : List Int32) (h : Heap) (S : SBd Z h a t cs bs) (T : Str Z h s ds) (hlat : ∀ c ∈ ds, c.toInt ≤ 255) (hroom : ds.length ≤ bs.length) (hl : cs.length + bs.length < 1000000) : Con l Z false (⟨"java/lang/AbstractStringBuilder", "append", "(Ljava/lang/String;)Ljava/lang/AbstractStringBuilder;"⟩ : MethodName) jdk_68_method_22_code 3 (some (.object "java/lang/AbstractStringBuilder")) ({ frames := 3, cells := 0, slots := 0, locals := 47 } : Room) [(.ref a), (.ref s)] h [a, t] false (fun M v h' => v = some (.ref a) ∧ SBd Z h' a t (cs ++ ds) (bs.drop ds.length)) := by
  have hw := hE.1
  refine Con.intro (L0 := #[.val (.ref a), .val (.ref s), .unset]) (by decide +kernel) (fun m => ef_of rfl) ?_
  intro B M hwsM ok
  have S0 := S
  obtain ⟨q1, q2, q3, q4, q5, q6⟩ := S
  have nat_ := Exa.neArI q1 (w44 hw) q5
  refine W.aloadN ok (pc' := 1) d_jdk_68_method_22_0 rfl rfl rfl ?_
  refine W.ifnonnull ok (pcY := 9) (pcN := 4) d_jdk_68_method_22_1 rfl rfl (by decide) rfl (fun q => absurd q (fun e => by cases e)) (fun _ => ?_)
  refine W.aloadN ok (pc' := 10) d_jdk_68_method_22_9 rfl rfl rfl ?_
  refine W.callV ok (rest := []) (cl' := (true, [])) (pc' := 13) (w71 hw) (w27 hw) (w29 hw) (w28 hw) (w6 hw) (w30 hw) (by decide) T.exa pd_13 rfl (k_length l Z a0 hE s ds h T (by omega)) (fun _ q => (nomatch q)) (fun q => ⟨q, fun _ q => (nomatch q)⟩) rfl rfl (Nat.le_of_ble_eq_true rfl) (Nat.le_of_ble_eq_true rfl) (Nat.le_of_ble_eq_true rfl) (Nat.le_of_ble_eq_true rfl) d_jdk_68_method_22_10 rfl rfl (pureK ?_)
  show W B h 0 0 M (true, []) 13 #[.val (.ref a), .val (.ref s), .unset] [(.int ds.length.toInt32)]
  refine W.istoreN ok (pc' := 14) (L' := #[.val (.ref a), .val (.ref s), .val (.int ds.length.toInt32)]) d_jdk_68_method_22_13 rfl rfl ?_
  refine W.aloadN ok (pc' := 15) d_jdk_68_method_22_14 rfl rfl rfl ?_
  refine W.aloadN ok (pc' := 16) d_jdk_68_method_22_15 rfl rfl rfl ?_
  refine W.getF ok (pc' := 19) (w72 hw) Via.refl q4 d_jdk_68_method_22_16 rfl ?_
  refine W.iloadN ok (pc' := 20) d_jdk_68_method_22_19 rfl rfl ?_
  refine W.iadd ok (pc' := 21) d_jdk_68_method_22_20 rfl ?_
  rw [i32_add]
  refine W.callW ok (rest := []) (cl' := (true, [])) (pc' := 24) (yr := (⟨"java/lang/AbstractStringBuilder", "ensureCapacityInternal", "(I)V"⟩ : MethodName)) (w74 hw) (decl_of (w75 hw) (w78 hw)) (show NoFace Z "java/lang/AbstractStringBuilder" from NoFace.of (w77 hw)) (w77 hw) (w75 hw) (w53 hw) (w78 hw) (by decide) q1 pd_12 rfl (k_sbEns l Z a0 hE a t cs bs (cs.length + ds.length) h S0 (by omega) hl) (fun _ q => (nomatch q)) (fun q => ⟨q, fun _ q => (nomatch q)⟩) rfl rfl (Nat.le_of_ble_eq_true rfl) (Nat.le_of_ble_eq_true rfl) (Nat.le_of_ble_eq_true rfl) (Nat.le_of_ble_eq_true rfl) d_jdk_68_method_22_21 rfl rfl (pureK0 ?_)
  show W B h 0 0 M (true, []) 24 #[.val (.ref a), .val (.ref s), .val (.int ds.length.toInt32)] []
  refine W.aloadN ok (pc' := 25) d_jdk_68_method_22_24 rfl rfl rfl ?_
  refine W.aloadN ok (pc' := 26) d_jdk_68_method_22_25 rfl rfl rfl ?_
  refine W.getF ok (pc' := 29) (w72 hw) Via.refl q4 d_jdk_68_method_22_26 rfl ?_
  refine W.aloadN ok (pc' := 30) d_jdk_68_method_22_29 rfl rfl rfl ?_
  refine W.callW ok (rest := []) (cl' := (false, [])) (pc' := 33) (yr := (⟨"java/lang/AbstractStringBuilder", "putStringAt", "(ILjava/lang/String;)V"⟩ : MethodName)) (w79 hw) (decl_of (w80 hw) (w83 hw)) (show NoFace Z "java/lang/AbstractStringBuilder" from NoFace.of (w77 hw)) (w82 hw) (w80 hw) (w53 hw) (w83 hw) (by decide) q1 pd_16 rfl (k_sbPut l Z a0 hE a t cs bs s ds h S0 T hlat hroom hl) (fun w q => by simp only [List.mem_cons, List.not_mem_nil, or_false] at q; subst q; exact ⟨(hwsM _ (List.mem_of_getElem? (i := 1) rfl)), (Or.inl (List.mem_of_getElem? (i := 1) rfl))⟩) (fun q => by cases q) rfl rfl (Nat.le_of_ble_eq_true rfl) (Nat.le_of_ble_eq_true rfl) (Nat.le_of_ble_eq_true rfl) (Nat.le_of_ble_eq_true rfl) d_jdk_68_method_22_30 rfl rfl (oldK fun v h1 hq K2 => ?_)
  obtain ⟨rfl, A⟩ := hq
  show W B h1 0 0 M (false, []) 33 #[.val (.ref a), .val (.ref s), .val (.int ds.length.toInt32)] []
  refine W.aloadN ok (pc' := 34) d_jdk_68_method_22_33 rfl rfl rfl ?_
  refine W.dup ok (pc' := 35) d_jdk_68_method_22_34 rfl rfl ?_
  have nin : a ∉ [t] := by simp; exact nat_
  have ox3 := q1.keep K2
  have of4 := q2.keep K2 nin
  have of5 := q3.keep K2 nin
  have of6 := q4.keep K2 nin
  refine W.getF ok (pc' := 38) (w72 hw) Via.refl of6 d_jdk_68_method_22_35 rfl ?_
  refine W.iloadN ok (pc' := 39) d_jdk_68_method_22_38 rfl rfl ?_
  refine W.iadd ok (pc' := 40) d_jdk_68_method_22_39 rfl ?_
  rw [i32_add]
  refine W.putF ok (pc' := 43) (cl' := (false, [])) (w72 hw) Via.refl of6 ox3 (Or.inl (w73 hw)) (w44 hw) (ty := .int) (by decide) rfl rfl (hwsM _ (List.mem_of_getElem? (i := 0) rfl)) (Or.inl (List.mem_of_getElem? (i := 0) rfl)) (fun q => by cases q) rfl d_jdk_68_method_22_40 rfl (fun h7 W8 => ?_)
  have ox9 := ox3.wr W8
  have of10 := of4.other W8 (Or.inr (slot_ne (Or.inl (w58 hw)) (Or.inl (w73 hw)) (by decide) (t := (.array .byte)) (by decide) (t' := .int) (by decide)))
  have of11 := of5.other W8 (Or.inr (slot_ne (Or.inl (w60 hw)) (Or.inl (w73 hw)) (by decide) (t := .byte) (by decide) (t' := .int) (by decide)))
  have of12 := of6.same W8
  refine W.aloadN ok (pc' := 44) d_jdk_68_method_22_43 rfl rfl rfl ?_
  have hd0 : ∀ c ∈ ds, 0 ≤ c.toInt := fun c hc => (T.rng c hc).1
  exact W.retA ok d_jdk_68_method_22_44 rfl rfl (Nat.le_of_ble_eq_true rfl) (Nat.le_of_ble_eq_true rfl) (fun x (q : x ∈ M) => q) (fun kp => ⟨rfl, ox9, of10, of11, by rw [List.length_append]; exact of12, (A.other W8 (Ne.symm nat_)).cast (lay_sb cs bs ds hroom), fun c hc => (List.mem_append.mp hc).elim (q6 c) (fun q => ⟨hd0 c q, hlat c q⟩)⟩)
set_option maxRecDepth 65536 in
set_option maxHeartbeats 4000000 in
theorem k_sbApp (l : Launch) (Z : State) (a0 : Array Value) (hE : Ev Z a0) (a t : Addr) (cs bs : List Int32) (s : Addr) (ds : List Int32) (h : Heap) (S : SBd Z h a t cs bs) (T : Str Z h s ds) (hlat : ∀ c ∈ ds, c.toInt ≤ 255) (hroom : ds.length ≤ bs.length) (hl : cs.length + bs.length < 1000000) : Con l Z false (⟨"java/lang/StringBuilder", "append", "(Ljava/lang/String;)Ljava/lang/StringBuilder;"⟩ : MethodName) jdk_67_method_7_code 2 (some (.object "java/lang/StringBuilder")) ({ frames := 4, cells := 0, slots := 0, locals := 61 } : Room) [(.ref a), (.ref s)] h [a, t] false (fun M v h' => v = some (.ref a) ∧ SBd Z h' a t (cs ++ ds) (bs.drop ds.length)) := by
  have hw := hE.1
  refine Con.intro (L0 := #[.val (.ref a), .val (.ref s)]) (by decide +kernel) (fun m => ef_of rfl) ?_
  intro B M hwsM ok
  refine W.aloadN ok (pc' := 1) d_jdk_67_method_7_0 rfl rfl rfl ?_
  refine W.aloadN ok (pc' := 2) d_jdk_67_method_7_1 rfl rfl rfl ?_
  refine W.callU ok (rest := []) (cl' := (false, [])) (pc' := 5) (y := (⟨"java/lang/AbstractStringBuilder", "append", "(Ljava/lang/String;)Ljava/lang/AbstractStringBuilder;"⟩ : MethodName)) (show NoFace Z "java/lang/AbstractStringBuilder" from NoFace.of (w77 hw)) (by decide) (w66 hw) (w67 hw) (w68 hw) (w53 hw) (w70 hw) (by decide) S.exa pd_17 rfl (k_asbApp l Z a0 hE a t cs bs s ds h S T hlat hroom hl) (fun w q => by simp only [List.mem_cons, List.not_mem_nil, or_false] at q; rcases q with rfl | rfl; exact ⟨(hwsM _ (List.mem_of_getElem? (i := 0) rfl)), (Or.inl (List.mem_of_getElem? (i := 0) rfl))⟩; exact ⟨(hwsM _ (List.mem_of_getElem? (i := 1) rfl)), (Or.inl (List.mem_of_getElem? (i := 1) rfl))⟩) (fun q => by cases q) rfl rfl (Nat.le_of_ble_eq_true rfl) (Nat.le_of_ble_eq_true rfl) (Nat.le_of_ble_eq_true rfl) (Nat.le_of_ble_eq_true rfl) d_jdk_67_method_7_2 rfl rfl (oldK fun v h1 hq K2 => ?_)
  obtain ⟨rfl, S2⟩ := hq
  show W B h1 0 0 M (false, []) 5 #[.val (.ref a), .val (.ref s)] [(.ref a)]
  refine W.pop1 ok (pc' := 6) d_jdk_67_method_7_5 rfl rfl ?_
  refine W.aloadN ok (pc' := 7) d_jdk_67_method_7_6 rfl rfl rfl ?_
  exact W.retA ok d_jdk_67_method_7_7 rfl rfl (Nat.le_of_ble_eq_true rfl) (Nat.le_of_ble_eq_true rfl) (fun x (q : x ∈ M) => q) (fun kp => ⟨rfl, S2⟩)
set_option maxRecDepth 65536 in
set_option maxHeartbeats 4000000 in
theorem k_chkLen (l : Launch) (Z : State) (a0 : Array Value) (hE : Ev Z a0) (aN bN : Nat) (h : Heap) (hab : aN ≤ bN) (hb : bN < 1000000) : Con l Z false (⟨"java/util/Arrays", "checkLength", "(II)V"⟩ : MethodName) jdk_65_method_131_code 2 none ({ frames := 0, cells := 0, slots := 0, locals := 0 } : Room) [(.int aN.toInt32), (.int bN.toInt32)] h [] false (fun M v h' => v = none ∧ h' = h) := by
  have hw := hE.1
  refine Con.intro (L0 := #[.val (.int aN.toInt32), .val (.int bN.toInt32)]) (by decide +kernel) (fun m => ef_of rfl) ?_
  intro B M hwsM ok
  refine W.iloadN ok (pc' := 1) d_jdk_65_method_131_0 rfl rfl ?_
  refine W.iloadN ok (pc' := 2) d_jdk_65_method_131_1 rfl rfl ?_
  refine W.icmpge ok (pcY := 37) (pcN := 5) d_jdk_65_method_131_2 rfl (by decide) rfl (fun q => absurd q (by rw [i32_lt (by omega) (by omega)]; omega)) (fun _ => ?_)
  exact W.retV ok d_jdk_65_method_131_37 (Nat.le_of_ble_eq_true rfl) (Nat.le_of_ble_eq_true rfl) (fun x (q : x ∈ M) => q) (fun kp => ⟨rfl, rfl⟩)
set_option maxRecDepth 65536 in
set_option maxHeartbeats 4000000 in
theorem k_min (l : Launch) (Z : State) (a0 : Array Value) (hE : Ev Z a0) (aN bN : Nat) (h : Heap) (hab : bN < aN) (ha : aN < 1000000) : Con l Z false (⟨"java/lang/Math", "min", "(II)I"⟩ : MethodName) jdk_29_method_69_code 2 (some .int) ({ frames := 0, cells := 0, slots := 0, locals := 0 } : Room) [(.int aN.toInt32), (.int bN.toInt32)] h [] false (fun M v h' => v = some (.int bN.toInt32) ∧ h' = h) := by
  have hw := hE.1
  refine Con.intro (L0 := #[.val (.int aN.toInt32), .val (.int bN.toInt32)]) (by decide +kernel) (fun m => ef_of rfl) ?_
  intro B M hwsM ok
  refine W.iloadN ok (pc' := 1) d_jdk_29_method_69_0 rfl rfl ?_
  refine W.iloadN ok (pc' := 2) d_jdk_29_method_69_1 rfl rfl ?_
  refine W.icmpgt ok (pcY := 9) (pcN := 5) d_jdk_29_method_69_2 rfl (by decide) rfl (fun _ => ?_) (fun q => absurd ((i32_lt (by omega) (by omega)).mpr hab) q)
  refine W.iloadN ok (pc' := 10) d_jdk_29_method_69_9 rfl rfl ?_
  exact W.retI ok d_jdk_29_method_69_10 (Nat.le_of_ble_eq_true rfl) (Nat.le_of_ble_eq_true rfl) (fun x (q : x ∈ M) => q) (fun kp => ⟨rfl, rfl⟩)
set_option maxRecDepth 65536 in
set_option maxHeartbeats 4000000 in
theorem k_cpRB (l : Launch) (Z : State) (a0 : Array Value) (hE : Ev Z a0) (t : Addr) (es : List Int32) (nN : Nat) (h : Heap) (A : ArI Z h t .byte es) (hn : nN < es.length) (hcap : nN ≤ 16) (hl : es.length < 1000000) : Con l Z false (⟨"java/util/Arrays", "copyOfRangeByte", "([BII)[B"⟩ : MethodName) jdk_65_method_133_code 5 (some (.array .byte)) ({ frames := 1, cells := 1, slots := 16, locals := 18 } : Room) [(.ref t), (.int (0 : Int32)), (.int nN.toInt32)] h [] false (fun M v h' => ∃ u, v = some (.ref u) ∧ h.size ≤ u ∧ ArI Z h' u .byte (es.take nN)) := by
  have hw := hE.1
  refine Con.intro (L0 := #[.val (.ref t), .val (.int (0 : Int32)), .val (.int nN.toInt32), .unset, .unset]) (by decide +kernel) (fun m => ef_of rfl) ?_
  intro B M hwsM ok
  have z1 : nN.toInt32 - (0 : Int32) = nN.toInt32 := by simp
  have z2 : es.length.toInt32 - (0 : Int32) = es.length.toInt32 := by simp
  have ltt := A.gt
  refine W.old ok fun _ le0 => ?_
  refine W.iloadN ok (pc' := 1) d_jdk_65_method_133_0 rfl rfl ?_
  refine W.iloadN ok (pc' := 2) d_jdk_65_method_133_1 rfl rfl ?_
  refine W.callS ok (rest := []) (cl' := (true, [])) (pc' := 5) (w137 hw) (w138 hw) (w132 hw) (w139 hw) (by decide) pd_5 rfl (k_chkLen l Z a0 hE 0 nN h (by omega) (by omega)) (fun _ q => (nomatch q)) (fun q => ⟨q, fun _ q => (nomatch q)⟩) rfl rfl (Nat.le_of_ble_eq_true rfl) (Nat.le_of_ble_eq_true rfl) (Nat.le_of_ble_eq_true rfl) (Nat.le_of_ble_eq_true rfl) d_jdk_65_method_133_2 rfl rfl (pureK0 ?_)
  show W B h 0 0 M (true, []) 5 #[.val (.ref t), .val (.int (0 : Int32)), .val (.int nN.toInt32), .unset, .unset] []
  refine W.iloadN ok (pc' := 6) d_jdk_65_method_133_5 rfl rfl ?_
  refine W.iloadN ok (pc' := 7) d_jdk_65_method_133_6 rfl rfl ?_
  refine W.isub ok (pc' := 8) d_jdk_65_method_133_7 rfl ?_
  rw [z1]
  refine W.istoreN ok (pc' := 9) (L' := #[.val (.ref t), .val (.int (0 : Int32)), .val (.int nN.toInt32), .val (.int nN.toInt32), .unset]) d_jdk_65_method_133_8 rfl rfl ?_
  refine W.iloadN ok (pc' := 10) d_jdk_65_method_133_9 rfl rfl ?_
  refine W.newB ok (pc' := 12) (cap := 16) (w19 hw) (i32_nn (by omega)) (by rw [nat_i32 (by omega)]; omega) (by decide) d_jdk_65_method_133_10 rfl (Nat.le_of_ble_eq_true rfl) (Nat.le_of_ble_eq_true rfl) (fun a1 h2 z3 ea4 E5 A6 => ?_)
  replace A6 := A6.cast (cs' := List.replicate nN 0) (by rw [nat_i32 (by omega)])
  refine W.astore ok (pc' := 14) (L' := #[.val (.ref t), .val (.int (0 : Int32)), .val (.int nN.toInt32), .val (.int nN.toInt32), .val (.ref a1)]) d_jdk_65_method_133_12 rfl rfl rfl ?_
  refine W.aloadN ok (pc' := 15) d_jdk_65_method_133_14 rfl rfl rfl ?_
  refine W.iloadN ok (pc' := 16) d_jdk_65_method_133_15 rfl rfl ?_
  refine W.aload ok (pc' := 18) d_jdk_65_method_133_16 rfl rfl rfl ?_
  refine W.iconst ok (pc' := 19) (0 : Int32) d_jdk_65_method_133_18 rfl rfl ?_
  refine W.aloadN ok (pc' := 20) d_jdk_65_method_133_19 rfl rfl rfl ?_
  refine W.lenI ok (pc' := 21) (A.ext E5) es.length.toInt32 rfl d_jdk_65_method_133_20 rfl ?_
  refine W.iloadN ok (pc' := 22) d_jdk_65_method_133_21 rfl rfl ?_
  refine W.isub ok (pc' := 23) d_jdk_65_method_133_22 rfl ?_
  rw [z2]
  refine W.iloadN ok (pc' := 24) d_jdk_65_method_133_23 rfl rfl ?_
  refine W.callS ok (rest := [(.int (0 : Int32)), (.ref a1), (.int (0 : Int32)), (.ref t)]) (cl' := (true, [])) (pc' := 27) (w140 hw) (w141 hw) (w142 hw) (w143 hw) (by decide) pd_18 rfl (k_min l Z a0 hE es.length nN h2 hn (by omega)) (fun _ q => (nomatch q)) (fun q => ⟨q, fun _ q => (nomatch q)⟩) rfl rfl (Nat.le_of_ble_eq_true rfl) (Nat.le_of_ble_eq_true rfl) (Nat.le_of_ble_eq_true rfl) (Nat.le_of_ble_eq_true rfl) d_jdk_65_method_133_24 rfl rfl (pureK ?_)
  show W B h2 1 16 (a1 :: M) (true, []) 27 #[.val (.ref t), .val (.int (0 : Int32)), .val (.int nN.toInt32), .val (.int nN.toInt32), .val (.ref a1)] [(.int nN.toInt32), (.int (0 : Int32)), (.ref a1), (.int (0 : Int32)), (.ref t)]
  refine W.acopy ok (pc' := 30) (cl' := (true, [])) (sp := 0) (dp := 0) (nn := nN) (w144 hw) (w98 hw) (w96 hw) (w97 hw) (A.ext E5) A6 rfl (by omega) (by simp) (by omega) (by simp; omega) (List.mem_cons_self ..) (Or.inr z3) (fun q => ⟨q, z3⟩) rfl rfl (Nat.le_of_ble_eq_true rfl) (Nat.le_of_ble_eq_true rfl) d_jdk_65_method_133_27 rfl (fun h7 K8 A9 => ?_)
  show W B h7 1 16 (a1 :: M) (true, []) 30 #[.val (.ref t), .val (.int (0 : Int32)), .val (.int nN.toInt32), .val (.int nN.toInt32), .val (.ref a1)] []
  refine W.aload ok (pc' := 32) d_jdk_65_method_133_30 rfl rfl rfl ?_
  exact W.retA ok d_jdk_65_method_133_32 rfl rfl (Nat.le_of_ble_eq_true rfl) (Nat.le_of_ble_eq_true rfl) (fun x (q : x ∈ M) => (List.mem_cons_of_mem _ q)) (fun kp => ⟨a1, rfl, Nat.le_of_eq ea4, A9.cast (by simp)⟩)
set_option maxRecDepth 65536 in
set_option maxHeartbeats 4000000 in
theorem k_cpR (l : Launch) (Z : State) (a0 : Array Value) (hE : Ev Z a0) (t : Addr) (es : List Int32) (nN : Nat) (h : Heap) (A : ArI Z h t .byte es) (hn : nN < es.length) (hcap : nN ≤ 16) (hl : es.length < 1000000) : Con l Z false (⟨"java/util/Arrays", "copyOfRange", "([BII)[B"⟩ : MethodName) jdk_65_method_132_code 3 (some (.array .byte)) ({ frames := 2, cells := 1, slots := 16, locals := 34 } : Room) [(.ref t), (.int (0 : Int32)), (.int nN.toInt32)] h [] false (fun M v h' => ∃ u, v = some (.ref u) ∧ h.size ≤ u ∧ ArI Z h' u .byte (es.take nN)) := by
  have hw := hE.1
  refine Con.intro (L0 := #[.val (.ref t), .val (.int (0 : Int32)), .val (.int nN.toInt32)]) (by decide +kernel) (fun m => ef_of rfl) ?_
  intro B M hwsM ok
  refine W.iloadN ok (pc' := 1) d_jdk_65_method_132_0 rfl rfl ?_
  refine W.ifne ok (pcY := 10) (pcN := 4) d_jdk_65_method_132_1 rfl (by decide) rfl (fun _ => ?_) (fun q => absurd rfl q)
  refine W.iloadN ok (pc' := 5) d_jdk_65_method_132_4 rfl rfl ?_
  refine W.aloadN ok (pc' := 6) d_jdk_65_method_132_5 rfl rfl rfl ?_
  refine W.lenI ok (pc' := 7) A es.length.toInt32 rfl d_jdk_65_method_132_6 rfl ?_
  refine W.icmpeq ok (pcY := 17) (pcN := 10) d_jdk_65_method_132_7 rfl (by decide) rfl (fun q => absurd q (by rw [i32_inj (by omega) (by omega)]; omega)) (fun _ => ?_)
  refine W.aloadN ok (pc' := 11) d_jdk_65_method_132_10 rfl rfl rfl ?_
  refine W.iloadN ok (pc' := 12) d_jdk_65_method_132_11 rfl rfl ?_
  refine W.iloadN ok (pc' := 13) d_jdk_65_method_132_12 rfl rfl ?_
  refine W.callS ok (rest := []) (cl' := (true, [])) (pc' := 16) (w134 hw) (w135 hw) (w132 hw) (w136 hw) (by decide) pd_19 rfl (k_cpRB l Z a0 hE t es nN h A hn hcap hl) (fun _ q => (nomatch q)) (fun q => ⟨q, fun _ q => (nomatch q)⟩) rfl rfl (Nat.le_of_ble_eq_true rfl) (Nat.le_of_ble_eq_true rfl) (Nat.le_of_ble_eq_true rfl) (Nat.le_of_ble_eq_true rfl) d_jdk_65_method_132_13 rfl rfl (oldK fun v h1 hq K2 => ?_)
  obtain ⟨u, rfl, hu, Au⟩ := hq
  show W B h1 1 16 M (true, []) 16 #[.val (.ref t), .val (.int (0 : Int32)), .val (.int nN.toInt32)] [(.ref u)]
  exact W.retA ok d_jdk_65_method_132_16 rfl rfl (Nat.le_of_ble_eq_true rfl) (Nat.le_of_ble_eq_true rfl) (fun x (q : x ∈ M) => q) (fun kp => ⟨u, rfl, hu, Au⟩)
set_option maxRecDepth 65536 in
set_option maxHeartbeats 4000000 in
theorem k_initSB2 (l : Launch) (Z : State) (a0 : Array Value) (hE : Ev Z a0) (a d t : Addr) (cs bs : List Int32) (h : Heap) (X : Exa Z h a ST) (F1 : Fld Z h a ST "value" "[B" .null) (F2 : Fld Z h a ST "coder" "B" (.int 0)) (S : SBd Z h d t cs bs) (hcap : cs.length ≤ 16) (hb : 0 < bs.length) (hl : cs.length + bs.length < 1000000) : Con l Z false (⟨"java/lang/String", "<init>", "(Ljava/lang/AbstractStringBuilder;Ljava/lang/Void;)V"⟩ : MethodName) jdk_42_method_150_code 5 none ({ frames := 3, cells := 1, slots := 16, locals := 49 } : Room) [(.ref a), (.ref d), .null] h [a] false (fun M v h' => v = none ∧ ∃ u, u ∉ M ∧ Fld Z h' a ST "value" "[B" (.ref u) ∧ Fld Z h' a ST "coder" "B" (.int 0) ∧ ArI Z h' u .byte (cs.map b8)) := by
  have hw := hE.1
  refine Con.intro (L0 := #[.val (.ref a), .val (.ref d), .val .null, .unset, .unset]) (by decide +kernel) (fun m => ef_of rfl) ?_
  intro B M hwsM ok
  refine W.lt fun hM => ?_
  have lta := gtE X
  have X2 := S.exa
  refine W.aloadN ok (pc' := 1) d_jdk_42_method_150_0 rfl rfl rfl ?_
  refine W.initO ok (pc' := 4) (w15 hw) (w16 hw) (w17 hw) rfl (Nat.le_of_ble_eq_true rfl) (Nat.le_of_ble_eq_true rfl) d_jdk_42_method_150_1 rfl ?_
  refine W.aloadN ok (pc' := 5) d_jdk_42_method_150_4 rfl rfl rfl ?_
  refine W.callV ok (rest := []) (cl' := (true, [])) (pc' := 8) (w112 hw) (w113 hw) (w115 hw) (w114 hw) (w53 hw) (w116 hw) (by decide) X2 pd_20 rfl (k_sbVal l Z a0 hE d t cs bs h S) (fun _ q => (nomatch q)) (fun q => ⟨q, fun _ q => (nomatch q)⟩) rfl rfl (Nat.le_of_ble_eq_true rfl) (Nat.le_of_ble_eq_true rfl) (Nat.le_of_ble_eq_true rfl) (Nat.le_of_ble_eq_true rfl) d_jdk_42_method_150_5 rfl rfl (pureK ?_)
  show W B h 0 0 M (true, []) 8 #[.val (.ref a), .val (.ref d), .val .null, .unset, .unset] [(.ref t)]
  refine W.astoreN ok (pc' := 9) (L' := #[.val (.ref a), .val (.ref d), .val .null, .val (.ref t), .unset]) d_jdk_42_method_150_8 rfl rfl rfl ?_
  refine W.aloadN ok (pc' := 10) d_jdk_42_method_150_9 rfl rfl rfl ?_
  refine W.callW ok (rest := []) (cl' := (true, [])) (pc' := 13) (yr := (⟨"java/lang/AbstractStringBuilder", "length", "()I"⟩ : MethodName)) (w117 hw) (w118 hw) (show NoFace Z "java/lang/AbstractStringBuilder" from NoFace.of (w77 hw)) (w120 hw) (w121 hw) (w45 hw) (w122 hw) (by decide) X2 pd_13 rfl (k_sbLen l Z a0 hE d t cs bs h S) (fun _ q => (nomatch q)) (fun q => ⟨q, fun _ q => (nomatch q)⟩) rfl rfl (Nat.le_of_ble_eq_true rfl) (Nat.le_of_ble_eq_true rfl) (Nat.le_of_ble_eq_true rfl) (Nat.le_of_ble_eq_true rfl) d_jdk_42_method_150_10 rfl rfl (pureK ?_)
  show W B h 0 0 M (true, []) 13 #[.val (.ref a), .val (.ref d), .val .null, .val (.ref t), .unset] [(.int cs.length.toInt32)]
  refine W.istore ok (pc' := 15) (L' := #[.val (.ref a), .val (.ref d), .val .null, .val (.ref t), .val (.int cs.length.toInt32)]) d_jdk_42_method_150_13 rfl rfl ?_
  refine W.aloadN ok (pc' := 16) d_jdk_42_method_150_15 rfl rfl rfl ?_
  refine W.callV ok (rest := []) (cl' := (true, [])) (pc' := 19) (w125 hw) (w126 hw) (w128 hw) (w127 hw) (w53 hw) (w129 hw) (by decide) X2 pd_6 rfl (k_sbLat l Z a0 hE d t cs bs h S) (fun _ q => (nomatch q)) (fun q => ⟨q, fun _ q => (nomatch q)⟩) rfl rfl (Nat.le_of_ble_eq_true rfl) (Nat.le_of_ble_eq_true rfl) (Nat.le_of_ble_eq_true rfl) (Nat.le_of_ble_eq_true rfl) d_jdk_42_method_150_16 rfl rfl (pureK ?_)
  show W B h 0 0 M (true, []) 19 #[.val (.ref a), .val (.ref d), .val .null, .val (.ref t), .val (.int cs.length.toInt32)] [(.int (1 : Int32))]
  refine W.ifeq ok (pcY := 41) (pcN := 22) d_jdk_42_method_150_19 rfl (by decide) rfl (fun q => absurd q (by decide)) (fun _ => ?_)
  refine W.aloadN ok (pc' := 23) d_jdk_42_method_150_22 rfl rfl rfl ?_
  refine W.iconst ok (pc' := 24) (0 : Int32) d_jdk_42_method_150_23 rfl rfl ?_
  have ox1 := X
  have of2 := F1
  have of3 := F2
  have S0 := S
  obtain ⟨q1, q2, q3, q4, q5, q6⟩ := S
  have nat_ := Exa.neArI X (w5 hw) q5
  refine W.putF ok (pc' := 27) (cl' := (false, [])) (w25 hw) Via.refl of3 ox1 (Or.inr ⟨(w21 hw), rfl, rfl⟩) (w5 hw) (ty := .byte) (by decide) (by first | rfl | assumption) (by first | rfl | assumption) (hwsM _ (List.mem_of_getElem? (i := 0) rfl)) (Or.inl (List.mem_of_getElem? (i := 0) rfl)) (fun q => by cases q) rfl d_jdk_42_method_150_24 rfl (fun h4 W5 => ?_)
  have ox6 := ox1.wr W5
  have of7 := of2.other W5 (Or.inr (slot_ne (Or.inr (w20 hw)) (Or.inr (w21 hw)) (by decide) (t := (.array .byte)) (by decide) (t' := .byte) (by decide)))
  have of8 := of3.same W5
  refine W.aloadN ok (pc' := 28) d_jdk_42_method_150_27 rfl rfl rfl ?_
  refine W.aloadN ok (pc' := 29) d_jdk_42_method_150_28 rfl rfl rfl ?_
  refine W.iconst ok (pc' := 30) (0 : Int32) d_jdk_42_method_150_29 rfl rfl ?_
  refine W.iload ok (pc' := 32) d_jdk_42_method_150_30 rfl rfl ?_
  have sz1 := W5.size
  refine W.callS ok (rest := [(.ref a)]) (cl' := (false, [])) (pc' := 35) (w130 hw) (w131 hw) (w132 hw) (w133 hw) (by decide) pd_19 rfl (k_cpR l Z a0 hE t (cs.map b8 ++ bs) cs.length h4 (q5.other W5 (Ne.symm nat_)) (by simp; omega) hcap (by simp; omega)) (fun _ q => (nomatch q)) (fun q => ⟨q, fun _ q => (nomatch q)⟩) rfl rfl (Nat.le_of_ble_eq_true rfl) (Nat.le_of_ble_eq_true rfl) (Nat.le_of_ble_eq_true rfl) (Nat.le_of_ble_eq_true rfl) d_jdk_42_method_150_32 rfl rfl (oldK fun v h9 hq K10 => ?_)
  obtain ⟨u, rfl, hu, Au⟩ := hq
  show W B h9 1 16 M (false, []) 35 #[.val (.ref a), .val (.ref d), .val .null, .val (.ref t), .val (.int cs.length.toInt32)] [(.ref u), (.ref a)]
  have ltu := Au.gt
  have ox11 := (ox6.ext (ext_keep K10))
  have of12 := (of7.ext (ext_keep K10))
  have of13 := (of8.ext (ext_keep K10))
  refine W.putF ok (pc' := 38) (cl' := (false, [])) (w24 hw) Via.refl of12 ox11 (Or.inr ⟨(w20 hw), rfl, rfl⟩) (w5 hw) (ty := (.array .byte)) (by decide) rfl rfl (hwsM _ (List.mem_of_getElem? (i := 0) rfl)) (Or.inl (List.mem_of_getElem? (i := 0) rfl)) (fun q => by cases q) rfl d_jdk_42_method_150_35 rfl (fun h14 W15 => ?_)
  have ox16 := ox11.wr W15
  have of17 := of12.same W15
  have of18 := of13.other W15 (Or.inr (slot_ne (Or.inr (w21 hw)) (Or.inr (w20 hw)) (by decide) (t := .byte) (by decide) (t' := (.array .byte)) (by decide)))
  refine W.goto ok (pc' := 97) d_jdk_42_method_150_38 (by decide) rfl ?_
  exact W.retV ok d_jdk_42_method_150_97 (Nat.le_of_ble_eq_true rfl) (Nat.le_of_ble_eq_true rfl) (fun x (q : x ∈ M) => q) (fun kp => ⟨rfl, u, fun q => absurd (hM _ q) (by omega), of17, of18, (Au.other W15 (ane (by omega))).cast (by simp)⟩)
set_option maxRecDepth 65536 in
set_option maxHeartbeats 4000000 in
theorem k_initSB (l : Launch) (Z : State) (a0 : Array Value) (hE : Ev Z a0) (a d t : Addr) (cs bs : List Int32) (h : Heap) (X : Exa Z h a ST) (F1 : Fld Z h a ST "value" "[B" .null) (F2 : Fld Z h a ST "coder" "B" (.int 0)) (S : SBd Z h d t cs bs) (hcap : cs.length ≤ 16) (hb : 0 < bs.length) (hl : cs.length + bs.length < 1000000) : Con l Z false (⟨"java/lang/String", "<init>", "(Ljava/lang/StringBuilder;)V"⟩ : MethodName) jdk_42_method_53_code 2 none ({ frames := 4, cells := 1, slots := 16, locals := 65 } : Room) [(.ref a), (.ref d)] h [a] false (fun M v h' => v = none ∧ ∃ u, u ∉ M ∧ Fld Z h' a ST "value" "[B" (.ref u) ∧ Fld Z h' a ST "coder" "B" (.int 0) ∧ ArI Z h' u .byte (cs.map b8)) := by
  have hw := hE.1
  refine Con.intro (L0 := #[.val (.ref a), .val (.ref d)]) (by decide +kernel) (fun m => ef_of rfl) ?_
  intro B M hwsM ok
  refine W.aloadN ok (pc' := 1) d_jdk_42_method_53_0 rfl rfl rfl ?_
  refine W.aloadN ok (pc' := 2) d_jdk_42_method_53_1 rfl rfl rfl ?_
  refine W.aconstNull ok (pc' := 3) d_jdk_42_method_53_2 rfl ?_
  refine W.callI ok (rest := []) (cl' := (false, [])) (pc' := 6) rfl (w109 hw) (w110 hw) (w6 hw) (w111 hw) (by decide) pd_21 rfl (k_initSB2 l Z a0 hE a d t cs bs h X F1 F2 S hcap hb hl) (fun w q => by simp only [List.mem_cons, List.not_mem_nil, or_false] at q; subst q; exact ⟨(hwsM _ (List.mem_of_getElem? (i := 0) rfl)), (Or.inl (List.mem_of_getElem? (i := 0) rfl))⟩) (fun q => by cases q) rfl rfl (Nat.le_of_ble_eq_true rfl) (Nat.le_of_ble_eq_true rfl) (Nat.le_of_ble_eq_true rfl) (Nat.le_of_ble_eq_true rfl) d_jdk_42_method_53_3 rfl rfl (oldK fun v h1 hq K2 => ?_)
  obtain ⟨rfl, hq⟩ := hq
  show W B h1 1 16 M (false, []) 6 #[.val (.ref a), .val (.ref d)] []
  exact W.retV ok d_jdk_42_method_53_6 (Nat.le_of_ble_eq_true rfl) (Nat.le_of_ble_eq_true rfl) (fun x (q : x ∈ M) => q) (fun kp => ⟨rfl, hq⟩)
set_option maxRecDepth 65536 in
set_option maxHeartbeats 4000000 in
theorem k_sbStr (l : Launch) (Z : State) (a0 : Array Value) (hE : Ev Z a0) (d t : Addr) (cs bs : List Int32) (h : Heap) (S : SBd Z h d t cs bs) (hcap : cs.length ≤ 16) (hb : 0 < bs.length) (hl : cs.length + bs.length < 1000000) : Con l Z false (⟨"java/lang/StringBuilder", "toString", "()Ljava/lang/String;"⟩ : MethodName) jdk_67_method_42_code 1 (some (.object "java/lang/String")) ({ frames := 5, cells := 2, slots := 20, locals := 79 } : Room) [(.ref d)] h [] false (fun M v h' => ∃ r, v = some (.ref r) ∧ h.size ≤ r ∧ StrM Z h' M r cs) := by
  have hw := hE.1
  refine Con.intro (L0 := #[.val (.ref d)]) (by decide +kernel) (fun m => ef_of rfl) ?_
  intro B M hwsM ok
  refine W.lt fun hM => ?_
  refine W.new ok (pc' := 3) (w105 hw) (w5 hw) (w6 hw) d_jdk_67_method_42_0 rfl (Nat.le_of_ble_eq_true rfl) (Nat.le_of_ble_eq_true rfl) (fun a1 h2 z3 ea4 E5 X6 D7 U8 => ?_)
  refine W.dup ok (pc' := 4) d_jdk_67_method_42_3 rfl rfl ?_
  refine W.aloadN ok (pc' := 5) d_jdk_67_method_42_4 rfl rfl rfl ?_
  refine W.callI ok (rest := [(.ref a1)]) (cl' := (true, [])) (pc' := 8) rfl (w106 hw) (w107 hw) (w6 hw) (w108 hw) (by decide) pd_22 rfl (k_initSB l Z a0 hE a1 d t cs bs h2 X6 (D7 (Or.inr (w20 hw)) (ty := (.array .byte)) (by decide)) (D7 (Or.inr (w21 hw)) (ty := .byte) (by decide)) (S.ext E5) hcap hb hl) (fun w q => by simp only [List.mem_cons, List.not_mem_nil, or_false] at q; subst q; exact ⟨(List.mem_cons_self ..), (Or.inr z3)⟩) (fun q => ⟨q, fun w q => by simp only [List.mem_cons, List.not_mem_nil, or_false] at q; subst q; exact z3⟩) rfl rfl (Nat.le_of_ble_eq_true rfl) (Nat.le_of_ble_eq_true rfl) (Nat.le_of_ble_eq_true rfl) (Nat.le_of_ble_eq_true rfl) d_jdk_67_method_42_5 rfl rfl (oldK fun v h9 hq K10 => ?_)
  obtain ⟨rfl, u, g1, g2, g3, g4⟩ := hq
  show W B h9 2 20 (a1 :: M) (true, []) 8 #[.val (.ref d)] [(.ref a1)]
  exact W.retA ok d_jdk_67_method_42_8 rfl rfl (Nat.le_of_ble_eq_true rfl) (Nat.le_of_ble_eq_true rfl) (fun x (q : x ∈ M) => (List.mem_cons_of_mem _ q)) (fun kp => ⟨a1, rfl, Nat.le_of_eq ea4, u, 0, _, fun q => absurd (hM _ q) (by omega), fun q => g1 (List.mem_cons_of_mem _ q), X6.keep K10, g2, g3, g4, Or.inl ⟨rfl, rfl, S.2.2.2.2.2⟩⟩)
set_option maxRecDepth 65536 in
set_option maxHeartbeats 4000000 in
theorem k_thr (l : Launch) (Z : State) (a0 : Array Value) (hE : Ev Z a0) (a m : Addr) (h : Heap) (X : Exa Z h a "com/example/vestline/vestline/input/MalformedFieldException") (F0 : Fld Z h a "java/lang/Throwable" "cause" "Ljava/lang/Throwable;" .null) (F1 : Fld Z h a "java/lang/Throwable" "stackTrace" "[Ljava/lang/StackTraceElement;" .null) (F2 : Fld Z h a "java/lang/Throwable" "suppressedExceptions" "Ljava/util/List;" .null) (F3 : Fld Z h a "java/lang/Throwable" "detailMessage" "Ljava/lang/String;" .null) (F4 : Fld Z h a "com/example/vestline/vestline/input/MalformedFieldException" "field" "Ljava/lang/String;" .null) (F5 : Fld Z h a "com/example/vestline/vestline/input/MalformedFieldException" "reason" "Ljava/lang/String;" .null) : Con l Z false (⟨"java/lang/Throwable", "<init>", "(Ljava/lang/String;Ljava/lang/Throwable;ZZ)V"⟩ : MethodName) jdk_78_method_5_code 5 none ({ frames := 1, cells := 0, slots := 0, locals := 12 } : Room) [(.ref a), (.ref m), .null, (.int (0 : Int32)), (.int (0 : Int32))] h [a] false (fun M v h' => v = none ∧ Fld Z h' a "java/lang/Throwable" "detailMessage" "Ljava/lang/String;" (.ref m) ∧ Fld Z h' a "com/example/vestline/vestline/input/MalformedFieldException" "field" "Ljava/lang/String;" .null ∧ Fld Z h' a "com/example/vestline/vestline/input/MalformedFieldException" "reason" "Ljava/lang/String;" .null) := by
  have hw := hE.1
  refine Con.intro (L0 := #[.val (.ref a), .val (.ref m), .val .null, .val (.int (0 : Int32)), .val (.int (0 : Int32))]) (by decide +kernel) (fun m => ef_of rfl) ?_
  intro B M hwsM ok
  obtain ⟨g1, hg1, Fg1⟩ := hE.us
  obtain ⟨g2, hg2, Fg2⟩ := hE.ss
  have ox1 := X
  have of2 := F0
  have of3 := F1
  have of4 := F2
  have of5 := F3
  have of6 := F4
  have of7 := F5
  refine W.aloadN ok (pc' := 1) d_jdk_78_method_5_0 rfl rfl rfl ?_
  refine W.initO ok (pc' := 4) (w156 hw) (w16 hw) (w17 hw) rfl (Nat.le_of_ble_eq_true rfl) (Nat.le_of_ble_eq_true rfl) d_jdk_78_method_5_1 rfl ?_
  refine W.aloadN ok (pc' := 5) d_jdk_78_method_5_4 rfl rfl rfl ?_
  refine W.aloadN ok (pc' := 6) d_jdk_78_method_5_5 rfl rfl rfl ?_
  refine W.putF ok (pc' := 9) (cl' := (false, [])) (w157 hw) Via.refl of2 ox1 (Or.inl (w158 hw)) (w38 hw) (ty := (.object "java/lang/Throwable")) (by decide) rfl rfl (hwsM _ (List.mem_of_getElem? (i := 0) rfl)) (Or.inl (List.mem_of_getElem? (i := 0) rfl)) (fun q => by cases q) rfl d_jdk_78_method_5_6 rfl (fun h8 W9 => ?_)
  have ox10 := ox1.wr W9
  have of11 := of2.same W9
  have of12 := of3.other W9 (Or.inr (slot_ne (Or.inl (w161 hw)) (Or.inl (w158 hw)) (by decide) (t := (.array (.object "java/lang/StackTraceElement"))) (by decide) (t' := (.object "java/lang/Throwable")) (by decide)))
  have of13 := of4.other W9 (Or.inr (slot_ne (Or.inl (w164 hw)) (Or.inl (w158 hw)) (by decide) (t := (.object "java/util/List")) (by decide) (t' := (.object "java/lang/Throwable")) (by decide)))
  have of14 := of5.other W9 (Or.inr (slot_ne (Or.inl (w166 hw)) (Or.inl (w158 hw)) (by decide) (t := (.object "java/lang/String")) (by decide) (t' := (.object "java/lang/Throwable")) (by decide)))
  have of15 := of6.other W9 (Or.inr (slot_ne (Or.inr (w168 hw)) (Or.inl (w158 hw)) (by decide) (t := (.object "java/lang/String")) (by decide) (t' := (.object "java/lang/Throwable")) (by decide)))
  have of16 := of7.other W9 (Or.inr (slot_ne (Or.inr (w170 hw)) (Or.inl (w158 hw)) (by decide) (t := (.object "java/lang/String")) (by decide) (t' := (.object "java/lang/Throwable")) (by decide)))
  refine W.aloadN ok (pc' := 10) d_jdk_78_method_5_9 rfl rfl rfl ?_
  refine W.getS ok (pc' := 13) (w159 hw) Via.refl Fg1 d_jdk_78_method_5_10 rfl ?_
  refine W.putF ok (pc' := 16) (cl' := (false, [])) (w160 hw) Via.refl of12 ox10 (Or.inl (w161 hw)) (w38 hw) (ty := (.array (.object "java/lang/StackTraceElement"))) (by decide) (narV rfl (by assumption)) (fitV rfl (by assumption)) (hwsM _ (List.mem_of_getElem? (i := 0) rfl)) (Or.inl (List.mem_of_getElem? (i := 0) rfl)) (fun q => by cases q) rfl d_jdk_78_method_5_13 rfl (fun h17 W18 => ?_)
  have ox19 := ox10.wr W18
  have of20 := of11.other W18 (Or.inr (slot_ne (Or.inl (w158 hw)) (Or.inl (w161 hw)) (by decide) (t := (.object "java/lang/Throwable")) (by decide) (t' := (.array (.object "java/lang/StackTraceElement"))) (by decide)))
  have of21 := of12.same W18
  have of22 := of13.other W18 (Or.inr (slot_ne (Or.inl (w164 hw)) (Or.inl (w161 hw)) (by decide) (t := (.object "java/util/List")) (by decide) (t' := (.array (.object "java/lang/StackTraceElement"))) (by decide)))
  have of23 := of14.other W18 (Or.inr (slot_ne (Or.inl (w166 hw)) (Or.inl (w161 hw)) (by decide) (t := (.object "java/lang/String")) (by decide) (t' := (.array (.object "java/lang/StackTraceElement"))) (by decide)))
  have of24 := of15.other W18 (Or.inr (slot_ne (Or.inr (w168 hw)) (Or.inl (w161 hw)) (by decide) (t := (.object "java/lang/String")) (by decide) (t' := (.array (.object "java/lang/StackTraceElement"))) (by decide)))
  have of25 := of16.other W18 (Or.inr (slot_ne (Or.inr (w170 hw)) (Or.inl (w161 hw)) (by decide) (t := (.object "java/lang/String")) (by decide) (t' := (.array (.object "java/lang/StackTraceElement"))) (by decide)))
  refine W.aloadN ok (pc' := 17) d_jdk_78_method_5_16 rfl rfl rfl ?_
  refine W.getS ok (pc' := 20) (w162 hw) Via.refl Fg2 d_jdk_78_method_5_17 rfl ?_
  refine W.putF ok (pc' := 23) (cl' := (false, [])) (w163 hw) Via.refl of22 ox19 (Or.inl (w164 hw)) (w38 hw) (ty := (.object "java/util/List")) (by decide) (narV rfl (by assumption)) (fitV rfl (by assumption)) (hwsM _ (List.mem_of_getElem? (i := 0) rfl)) (Or.inl (List.mem_of_getElem? (i := 0) rfl)) (fun q => by cases q) rfl d_jdk_78_method_5_20 rfl (fun h26 W27 => ?_)
  have ox28 := ox19.wr W27
  have of29 := of20.other W27 (Or.inr (slot_ne (Or.inl (w158 hw)) (Or.inl (w164 hw)) (by decide) (t := (.object "java/lang/Throwable")) (by decide) (t' := (.object "java/util/List")) (by decide)))
  have of30 := of21.other W27 (Or.inr (slot_ne (Or.inl (w161 hw)) (Or.inl (w164 hw)) (by decide) (t := (.array (.object "java/lang/StackTraceElement"))) (by decide) (t' := (.object "java/util/List")) (by decide)))
  have of31 := of22.same W27
  have of32 := of23.other W27 (Or.inr (slot_ne (Or.inl (w166 hw)) (Or.inl (w164 hw)) (by decide) (t := (.object "java/lang/String")) (by decide) (t' := (.object "java/util/List")) (by decide)))
  have of33 := of24.other W27 (Or.inr (slot_ne (Or.inr (w168 hw)) (Or.inl (w164 hw)) (by decide) (t := (.object "java/lang/String")) (by decide) (t' := (.object "java/util/List")) (by decide)))
  have of34 := of25.other W27 (Or.inr (slot_ne (Or.inr (w170 hw)) (Or.inl (w164 hw)) (by decide) (t := (.object "java/lang/String")) (by decide) (t' := (.object "java/util/List")) (by decide)))
  refine W.iload ok (pc' := 25) d_jdk_78_method_5_23 rfl rfl ?_
  refine W.ifeq ok (pcY := 36) (pcN := 28) d_jdk_78_method_5_25 rfl (by decide) rfl (fun _ => ?_) (fun q => absurd rfl q)
  refine W.aloadN ok (pc' := 37) d_jdk_78_method_5_36 rfl rfl rfl ?_
  refine W.aconstNull ok (pc' := 38) d_jdk_78_method_5_37 rfl ?_
  refine W.putF ok (pc' := 41) (cl' := (false, [])) (w160 hw) Via.refl of30 ox28 (Or.inl (w161 hw)) (w38 hw) (ty := (.array (.object "java/lang/StackTraceElement"))) (by decide) rfl rfl (hwsM _ (List.mem_of_getElem? (i := 0) rfl)) (Or.inl (List.mem_of_getElem? (i := 0) rfl)) (fun q => by cases q) rfl d_jdk_78_method_5_38 rfl (fun h35 W36 => ?_)
  have ox37 := ox28.wr W36
  have of38 := of29.other W36 (Or.inr (slot_ne (Or.inl (w158 hw)) (Or.inl (w161 hw)) (by decide) (t := (.object "java/lang/Throwable")) (by decide) (t' := (.array (.object "java/lang/StackTraceElement"))) (by decide)))
  have of39 := of30.same W36
  have of40 := of31.other W36 (Or.inr (slot_ne (Or.inl (w164 hw)) (Or.inl (w161 hw)) (by decide) (t := (.object "java/util/List")) (by decide) (t' := (.array (.object "java/lang/StackTraceElement"))) (by decide)))
  have of41 := of32.other W36 (Or.inr (slot_ne (Or.inl (w166 hw)) (Or.inl (w161 hw)) (by decide) (t := (.object "java/lang/String")) (by decide) (t' := (.array (.object "java/lang/StackTraceElement"))) (by decide)))
  have of42 := of33.other W36 (Or.inr (slot_ne (Or.inr (w168 hw)) (Or.inl (w161 hw)) (by decide) (t := (.object "java/lang/String")) (by decide) (t' := (.array (.object "java/lang/StackTraceElement"))) (by decide)))
  have of43 := of34.other W36 (Or.inr (slot_ne (Or.inr (w170 hw)) (Or.inl (w161 hw)) (by decide) (t := (.object "java/lang/String")) (by decide) (t' := (.array (.object "java/lang/StackTraceElement"))) (by decide)))
  refine W.aloadN ok (pc' := 42) d_jdk_78_method_5_41 rfl rfl rfl ?_
  refine W.aloadN ok (pc' := 43) d_jdk_78_method_5_42 rfl rfl rfl ?_
  refine W.putF ok (pc' := 46) (cl' := (false, [])) (w165 hw) Via.refl of41 ox37 (Or.inl (w166 hw)) (w38 hw) (ty := (.object "java/lang/String")) (by decide) rfl rfl (hwsM _ (List.mem_of_getElem? (i := 0) rfl)) (Or.inl (List.mem_of_getElem? (i := 0) rfl)) (fun q => by cases q) rfl d_jdk_78_method_5_43 rfl (fun h44 W45 => ?_)
  have ox46 := ox37.wr W45
  have of47 := of38.other W45 (Or.inr (slot_ne (Or.inl (w158 hw)) (Or.inl (w166 hw)) (by decide) (t := (.object "java/lang/Throwable")) (by decide) (t' := (.object "java/lang/String")) (by decide)))
  have of48 := of39.other W45 (Or.inr (slot_ne (Or.inl (w161 hw)) (Or.inl (w166 hw)) (by decide) (t := (.array (.object "java/lang/StackTraceElement"))) (by decide) (t' := (.object "java/lang/String")) (by decide)))
  have of49 := of40.other W45 (Or.inr (slot_ne (Or.inl (w164 hw)) (Or.inl (w166 hw)) (by decide) (t := (.object "java/util/List")) (by decide) (t' := (.object "java/lang/String")) (by decide)))
  have of50 := of41.same W45
  have of51 := of42.other W45 (Or.inr (slot_ne (Or.inr (w168 hw)) (Or.inl (w166 hw)) (by decide) (t := (.object "java/lang/String")) (by decide) (t' := (.object "java/lang/String")) (by decide)))
  have of52 := of43.other W45 (Or.inr (slot_ne (Or.inr (w170 hw)) (Or.inl (w166 hw)) (by decide) (t := (.object "java/lang/String")) (by decide) (t' := (.object "java/lang/String")) (by decide)))
  refine W.aloadN ok (pc' := 47) d_jdk_78_method_5_46 rfl rfl rfl ?_
  refine W.aloadN ok (pc' := 48) d_jdk_78_method_5_47 rfl rfl rfl ?_
  refine W.putF ok (pc' := 51) (cl' := (false, [])) (w157 hw) Via.refl of47 ox46 (Or.inl (w158 hw)) (w38 hw) (ty := (.object "java/lang/Throwable")) (by decide) rfl rfl (hwsM _ (List.mem_of_getElem? (i := 0) rfl)) (Or.inl (List.mem_of_getElem? (i := 0) rfl)) (fun q => by cases q) rfl d_jdk_78_method_5_48 rfl (fun h53 W54 => ?_)
  have ox55 := ox46.wr W54
  have of56 := of47.same W54
  have of57 := of48.other W54 (Or.inr (slot_ne (Or.inl (w161 hw)) (Or.inl (w158 hw)) (by decide) (t := (.array (.object "java/lang/StackTraceElement"))) (by decide) (t' := (.object "java/lang/Throwable")) (by decide)))
  have of58 := of49.other W54 (Or.inr (slot_ne (Or.inl (w164 hw)) (Or.inl (w158 hw)) (by decide) (t := (.object "java/util/List")) (by decide) (t' := (.object "java/lang/Throwable")) (by decide)))
  have of59 := of50.other W54 (Or.inr (slot_ne (Or.inl (w166 hw)) (Or.inl (w158 hw)) (by decide) (t := (.object "java/lang/String")) (by decide) (t' := (.object "java/lang/Throwable")) (by decide)))
  have of60 := of51.other W54 (Or.inr (slot_ne (Or.inr (w168 hw)) (Or.inl (w158 hw)) (by decide) (t := (.object "java/lang/String")) (by decide) (t' := (.object "java/lang/Throwable")) (by decide)))
  have of61 := of52.other W54 (Or.inr (slot_ne (Or.inr (w170 hw)) (Or.inl (w158 hw)) (by decide) (t := (.object "java/lang/String")) (by decide) (t' := (.object "java/lang/Throwable")) (by decide)))
  refine W.iloadN ok (pc' := 52) d_jdk_78_method_5_51 rfl rfl ?_
  refine W.ifne ok (pcY := 60) (pcN := 55) d_jdk_78_method_5_52 rfl (by decide) rfl (fun _ => ?_) (fun q => absurd rfl q)
  refine W.aloadN ok (pc' := 56) d_jdk_78_method_5_55 rfl rfl rfl ?_
  refine W.aconstNull ok (pc' := 57) d_jdk_78_method_5_56 rfl ?_
  refine W.putF ok (pc' := 60) (cl' := (false, [])) (w163 hw) Via.refl of58 ox55 (Or.inl (w164 hw)) (w38 hw) (ty := (.object "java/util/List")) (by decide) rfl rfl (hwsM _ (List.mem_of_getElem? (i := 0) rfl)) (Or.inl (List.mem_of_getElem? (i := 0) rfl)) (fun q => by cases q) rfl d_jdk_78_method_5_57 rfl (fun h62 W63 => ?_)
  have ox64 := ox55.wr W63
  have of65 := of56.other W63 (Or.inr (slot_ne (Or.inl (w158 hw)) (Or.inl (w164 hw)) (by decide) (t := (.object "java/lang/Throwable")) (by decide) (t' := (.object "java/util/List")) (by decide)))
  have of66 := of57.other W63 (Or.inr (slot_ne (Or.inl (w161 hw)) (Or.inl (w164 hw)) (by decide) (t := (.array (.object "java/lang/StackTraceElement"))) (by decide) (t' := (.object "java/util/List")) (by decide)))
  have of67 := of58.same W63
  have of68 := of59.other W63 (Or.inr (slot_ne (Or.inl (w166 hw)) (Or.inl (w164 hw)) (by decide) (t := (.object "java/lang/String")) (by decide) (t' := (.object "java/util/List")) (by decide)))
  have of69 := of60.other W63 (Or.inr (slot_ne (Or.inr (w168 hw)) (Or.inl (w164 hw)) (by decide) (t := (.object "java/lang/String")) (by decide) (t' := (.object "java/util/List")) (by decide)))
  have of70 := of61.other W63 (Or.inr (slot_ne (Or.inr (w170 hw)) (Or.inl (w164 hw)) (by decide) (t := (.object "java/lang/String")) (by decide) (t' := (.object "java/util/List")) (by decide)))
  exact W.retV ok d_jdk_78_method_5_60 (Nat.le_of_ble_eq_true rfl) (Nat.le_of_ble_eq_true rfl) (fun x (q : x ∈ M) => q) (fun kp => ⟨rfl, of68, of69, of70⟩)
set_option maxRecDepth 65536 in
set_option maxHeartbeats 4000000 in
theorem k_exc (l : Launch) (Z : State) (a0 : Array Value) (hE : Ev Z a0) (a m : Addr) (h : Heap) (X : Exa Z h a "com/example/vestline/vestline/input/MalformedFieldException") (F0 : Fld Z h a "java/lang/Throwable" "cause" "Ljava/lang/Throwable;" .null) (F1 : Fld Z h a "java/lang/Throwable" "stackTrace" "[Ljava/lang/StackTraceElement;" .null) (F2 : Fld Z h a "java/lang/Throwable" "suppressedExceptions" "Ljava/util/List;" .null) (F3 : Fld Z h a "java/lang/Throwable" "detailMessage" "Ljava/lang/String;" .null) (F4 : Fld Z h a "com/example/vestline/vestline/input/MalformedFieldException" "field" "Ljava/lang/String;" .null) (F5 : Fld Z h a "com/example/vestline/vestline/input/MalformedFieldException" "reason" "Ljava/lang/String;" .null) : Con l Z false (⟨"java/lang/Exception", "<init>", "(Ljava/lang/String;Ljava/lang/Throwable;ZZ)V"⟩ : MethodName) jdk_59_method_5_code 5 none ({ frames := 2, cells := 0, slots := 0, locals := 28 } : Room) [(.ref a), (.ref m), .null, (.int (0 : Int32)), (.int (0 : Int32))] h [a] false (fun M v h' => v = none ∧ Fld Z h' a "java/lang/Throwable" "detailMessage" "Ljava/lang/String;" (.ref m) ∧ Fld Z h' a "com/example/vestline/vestline/input/MalformedFieldException" "field" "Ljava/lang/String;" .null ∧ Fld Z h' a "com/example/vestline/vestline/input/MalformedFieldException" "reason" "Ljava/lang/String;" .null) := by
  have hw := hE.1
  refine Con.intro (L0 := #[.val (.ref a), .val (.ref m), .val .null, .val (.int (0 : Int32)), .val (.int (0 : Int32))]) (by decide +kernel) (fun m => ef_of rfl) ?_
  intro B M hwsM ok
  refine W.aloadN ok (pc' := 1) d_jdk_59_method_5_0 rfl rfl rfl ?_
  refine W.aloadN ok (pc' := 2) d_jdk_59_method_5_1 rfl rfl rfl ?_
  refine W.aloadN ok (pc' := 3) d_jdk_59_method_5_2 rfl rfl rfl ?_
  refine W.iloadN ok (pc' := 4) d_jdk_59_method_5_3 rfl rfl ?_
  refine W.iload ok (pc' := 6) d_jdk_59_method_5_4 rfl rfl ?_
  refine W.callI ok (rest := []) (cl' := (false, [])) (pc' := 9) rfl (w150 hw) (w151 hw) (w154 hw) (w155 hw) (by decide) pd_23 rfl (k_thr l Z a0 hE a m h X F0 F1 F2 F3 F4 F5) (fun w q => by simp only [List.mem_cons, List.not_mem_nil, or_false] at q; subst q; exact ⟨(hwsM _ (List.mem_of_getElem? (i := 0) rfl)), (Or.inl (List.mem_of_getElem? (i := 0) rfl))⟩) (fun q => by cases q) rfl rfl (Nat.le_of_ble_eq_true rfl) (Nat.le_of_ble_eq_true rfl) (Nat.le_of_ble_eq_true rfl) (Nat.le_of_ble_eq_true rfl) d_jdk_59_method_5_6 rfl rfl (oldK fun v h1 hq K2 => ?_)
  obtain ⟨rfl, G⟩ := hq
  show W B h1 0 0 M (false, []) 9 #[.val (.ref a), .val (.ref m), .val .null, .val (.int (0 : Int32)), .val (.int (0 : Int32))] []
  exact W.retV ok d_jdk_59_method_5_9 (Nat.le_of_ble_eq_true rfl) (Nat.le_of_ble_eq_true rfl) (fun x (q : x ∈ M) => q) (fun kp => ⟨rfl, G⟩)
set_option maxRecDepth 65536 in
set_option maxHeartbeats 4000000 in
theorem k_msg (l : Launch) (Z : State) (a0 : Array Value) (hE : Ev Z a0) (a m : Addr) (h : Heap) (F : Fld Z h a "java/lang/Throwable" "detailMessage" "Ljava/lang/String;" (.ref m)) : Con l Z false (⟨"java/lang/Throwable", "getMessage", "()Ljava/lang/String;"⟩ : MethodName) jdk_78_method_6_code 1 (some (.object "java/lang/String")) ({ frames := 0, cells := 0, slots := 0, locals := 0 } : Room) [(.ref a)] h [] false (fun M v h' => v = some (.ref m) ∧ h' = h) := by
  have hw := hE.1
  refine Con.intro (L0 := #[.val (.ref a)]) (by decide +kernel) (fun m => ef_of rfl) ?_
  intro B M hwsM ok
  refine W.aloadN ok (pc' := 1) d_jdk_78_method_6_0 rfl rfl rfl ?_
  refine W.getF ok (pc' := 4) (w165 hw) Via.refl F d_jdk_78_method_6_1 rfl ?_
  exact W.retA ok d_jdk_78_method_6_4 rfl rfl (Nat.le_of_ble_eq_true rfl) (Nat.le_of_ble_eq_true rfl) (fun x (q : x ∈ M) => q) (fun kp => ⟨rfl, rfl⟩)
set_option maxRecDepth 65536 in
set_option maxHeartbeats 4000000 in
theorem k_mf (l : Launch) (Z : State) (a0 : Array Value) (hE : Ev Z a0) (a f r : Addr) (fs rs : List Int32) (h : Heap) (X : Exa Z h a "com/example/vestline/vestline/input/MalformedFieldException") (F0 : Fld Z h a "java/lang/Throwable" "cause" "Ljava/lang/Throwable;" .null) (F1 : Fld Z h a "java/lang/Throwable" "stackTrace" "[Ljava/lang/StackTraceElement;" .null) (F2 : Fld Z h a "java/lang/Throwable" "suppressedExceptions" "Ljava/util/List;" .null) (F3 : Fld Z h a "java/lang/Throwable" "detailMessage" "Ljava/lang/String;" .null) (F4 : Fld Z h a "com/example/vestline/vestline/input/MalformedFieldException" "field" "Ljava/lang/String;" .null) (F5 : Fld Z h a "com/example/vestline/vestline/input/MalformedFieldException" "reason" "Ljava/lang/String;" .null) (Tf : Str Z h f fs) (Tr : Str Z h r rs) (latf : ∀ c ∈ fs, c.toInt ≤ 255) (latr : ∀ c ∈ rs, c.toInt ≤ 255) (lf : fs.length ≤ 5) (lr : rs.length ≤ 2) : Con l Z false (⟨"com/example/vestline/vestline/input/MalformedFieldException", "<init>", "(Ljava/lang/String;Ljava/lang/String;)V"⟩ : MethodName) prog_4_method_1_code 3 none ({ frames := 6, cells := 6, slots := 52, locals := 92 } : Room) [(.ref a), (.ref f), (.ref r)] h [a] false (fun M v h' => v = none ∧ ∃ m, Fld Z h' a "com/example/vestline/vestline/input/MalformedFieldException" "field" "Ljava/lang/String;" (.ref f) ∧ Fld Z h' a "com/example/vestline/vestline/input/MalformedFieldException" "reason" "Ljava/lang/String;" (.ref r) ∧ Fld Z h' a "java/lang/Throwable" "detailMessage" "Ljava/lang/String;" (.ref m) ∧ StrM Z h' M m (fs ++ [58, 32] ++ rs)) := by
  have hw := hE.1
  refine Con.intro (L0 := #[.val (.ref a), .val (.ref f), .val (.ref r)]) (by decide +kernel) (fun m => ef_of rfl) ?_
  intro B M hwsM ok
  refine W.old ok fun _ le0 => ?_
  refine W.aloadN ok (pc' := 1) d_prog_4_method_1_0 rfl rfl rfl ?_
  refine W.new ok (pc' := 4) (w43 hw) (w44 hw) (w45 hw) d_prog_4_method_1_1 rfl (Nat.le_of_ble_eq_true rfl) (Nat.le_of_ble_eq_true rfl) (fun a1 h2 z3 ea4 E5 X6 D7 U8 => ?_)
  refine W.dup ok (pc' := 5) d_prog_4_method_1_4 rfl rfl ?_
  have EE9 := ExtT (ExtR h) E5
  have nb10 := Nat.le_trans (ExtR h).1 (Nat.le_of_eq ea4)
  refine W.callI ok (rest := [(.ref a1), (.ref a)]) (cl' := (true, [])) (pc' := 8) rfl (w46 hw) (w47 hw) (w45 hw) (w48 hw) (by decide) pd_24 rfl (k_sbInit l Z a0 hE a1 h2 X6 (D7 (Or.inl (w58 hw)) (ty := (.array .byte)) (by decide)) (D7 (Or.inl (w60 hw)) (ty := .byte) (by decide)) (D7 (Or.inl (w73 hw)) (ty := .int) (by decide))) (fun w q => by simp only [List.mem_cons, List.not_mem_nil, or_false] at q; subst q; exact ⟨(List.mem_cons_self ..), (Or.inr z3)⟩) (fun q => ⟨q, fun w q => by simp only [List.mem_cons, List.not_mem_nil, or_false] at q; subst q; exact z3⟩) rfl rfl (Nat.le_of_ble_eq_true rfl) (Nat.le_of_ble_eq_true rfl) (Nat.le_of_ble_eq_true rfl) (Nat.le_of_ble_eq_true rfl) d_prog_4_method_1_5 rfl rfl (fun N16 v h14 hq K15 => ?_)
  obtain ⟨t11, rfl, ht12, rfl, S13⟩ := hq
  show W B h14 2 20 (t11 :: (a1 :: M)) (true, []) 8 #[.val (.ref a), .val (.ref f), .val (.ref r)] [(.ref a1), (.ref a)]
  have nt17 := Nat.le_trans EE9.1 ht12
  have EE18 := ExtK EE9 K15 (fun w q => by simp only [List.mem_cons, List.not_mem_nil, or_false] at q; rw [q]; exact nb10)
  refine W.aloadN ok (pc' := 9) d_prog_4_method_1_8 rfl rfl rfl ?_
  refine W.callV ok (rest := [(.ref a)]) (cl' := (true, [])) (pc' := 12) (w61 hw) (w62 hw) (w64 hw) (w63 hw) (w45 hw) (w65 hw) (by decide) S13.exa pd_25 rfl (k_sbApp l Z a0 hE a1 t11 [] (List.replicate 16 0) f fs h14 S13 (Tf.ext EE18) latf (by simp; try omega) (by simp; try omega)) (fun w q => by simp only [List.mem_cons, List.not_mem_nil, or_false] at q; rcases q with rfl | rfl; exact ⟨(List.mem_cons_of_mem _ (List.mem_cons_self ..)), (Or.inr z3)⟩; exact ⟨(List.mem_cons_self ..), (Or.inr nt17)⟩) (fun q => ⟨q, fun w q => by simp only [List.mem_cons, List.not_mem_nil, or_false] at q; rcases q with rfl | rfl; exact z3; exact nt17⟩) rfl rfl (Nat.le_of_ble_eq_true rfl) (Nat.le_of_ble_eq_true rfl) (Nat.le_of_ble_eq_true rfl) (Nat.le_of_ble_eq_true rfl) d_prog_4_method_1_9 rfl rfl (oldK fun v h20 hq K21 => ?_)
  obtain ⟨rfl, S19⟩ := hq
  show W B h20 2 20 (t11 :: (a1 :: M)) (true, []) 12 #[.val (.ref a), .val (.ref f), .val (.ref r)] [(.ref a1), (.ref a)]
  have EE22 := ExtK EE18 K21 (fun w q => by simp only [List.mem_cons, List.not_mem_nil, or_false] at q; rcases q with q | q <;> rw [q]; exact nb10; exact nt17)
  refine W.ldcS ok (pc' := 14) rfl (text := ": ") (sz := 8) (w99 hw) (fun d hd => hw d ((by decide +kernel : ∀ d ∈ Bundle.stringAtoms, d ∈ tables_1) d hd)) (hE.held _ (List.mem_of_getElem? (i := 0) rfl)) hE.cw (by decide) (Or.inl rfl) (by decide) (by decide) d_prog_4_method_1_12 rfl (Nat.le_of_ble_eq_true rfl) (Nat.le_of_ble_eq_true rfl) (fun a23 h24 E25 Sc => ?_)
  have S26 := S19.ext E25
  have EE27 := ExtT EE22 E25
  refine W.callV ok (rest := [(.ref a)]) (cl' := (true, ("com/example/vestline/vestline/input/MalformedFieldException", 11) :: [])) (pc' := 17) (w61 hw) (w62 hw) (w64 hw) (w63 hw) (w45 hw) (w65 hw) (by decide) S26.exa pd_25 rfl (k_sbApp l Z a0 hE a1 t11 ([] ++ fs) ((List.replicate 16 0).drop fs.length) a23 [58, 32] h24 S26 (Sc.str.cast (by decide)) (by decide) (by simp; try omega) (by simp; try omega)) (fun w q => by simp only [List.mem_cons, List.not_mem_nil, or_false] at q; rcases q with rfl | rfl; exact ⟨(List.mem_cons_of_mem _ (List.mem_cons_self ..)), (Or.inr z3)⟩; exact ⟨(List.mem_cons_self ..), (Or.inr nt17)⟩) (fun q => ⟨q, fun w q => by simp only [List.mem_cons, List.not_mem_nil, or_false] at q; rcases q with rfl | rfl; exact z3; exact nt17⟩) rfl rfl (Nat.le_of_ble_eq_true rfl) (Nat.le_of_ble_eq_true rfl) (Nat.le_of_ble_eq_true rfl) (Nat.le_of_ble_eq_true rfl) d_prog_4_method_1_14 rfl rfl (oldK fun v h29 hq K30 => ?_)
  obtain ⟨rfl, S28⟩ := hq
  show W B h29 4 32 (t11 :: (a1 :: M)) (true, ("com/example/vestline/vestline/input/MalformedFieldException", 11) :: []) 17 #[.val (.ref a), .val (.ref f), .val (.ref r)] [(.ref a1), (.ref a)]
  have EE31 := ExtK EE27 K30 (fun w q => by simp only [List.mem_cons, List.not_mem_nil, or_false] at q; rcases q with q | q <;> rw [q]; exact nb10; exact nt17)
  refine W.aloadN ok (pc' := 18) d_prog_4_method_1_17 rfl rfl rfl ?_
  refine W.callV ok (rest := [(.ref a)]) (cl' := (true, ("com/example/vestline/vestline/input/MalformedFieldException", 11) :: [])) (pc' := 21) (w61 hw) (w62 hw) (w64 hw) (w63 hw) (w45 hw) (w65 hw) (by decide) S28.exa pd_25 rfl (k_sbApp l Z a0 hE a1 t11 (([] ++ fs) ++ [58, 32]) (((List.replicate 16 0).drop fs.length).drop ([58, 32] : List Int32).length) r rs h29 S28 (Tr.ext EE31) latr (by simp; try omega) (by simp; try omega)) (fun w q => by simp only [List.mem_cons, List.not_mem_nil, or_false] at q; rcases q with rfl | rfl; exact ⟨(List.mem_cons_of_mem _ (List.mem_cons_self ..)), (Or.inr z3)⟩; exact ⟨(List.mem_cons_self ..), (Or.inr nt17)⟩) (fun q => ⟨q, fun w q => by simp only [List.mem_cons, List.not_mem_nil, or_false] at q; rcases q with rfl | rfl; exact z3; exact nt17⟩) rfl rfl (Nat.le_of_ble_eq_true rfl) (Nat.le_of_ble_eq_true rfl) (Nat.le_of_ble_eq_true rfl) (Nat.le_of_ble_eq_true rfl) d_prog_4_method_1_18 rfl rfl (oldK fun v h33 hq K34 => ?_)
  obtain ⟨rfl, S32⟩ := hq
  show W B h33 4 32 (t11 :: (a1 :: M)) (true, ("com/example/vestline/vestline/input/MalformedFieldException", 11) :: []) 21 #[.val (.ref a), .val (.ref f), .val (.ref r)] [(.ref a1), (.ref a)]
  have EE35 := ExtK EE31 K34 (fun w q => by simp only [List.mem_cons, List.not_mem_nil, or_false] at q; rcases q with q | q <;> rw [q]; exact nb10; exact nt17)
  refine W.callV ok (rest := [(.ref a)]) (cl' := (true, ("com/example/vestline/vestline/input/MalformedFieldException", 11) :: [])) (pc' := 24) (w100 hw) (w101 hw) (w103 hw) (w102 hw) (w45 hw) (w104 hw) (by decide) S32.exa pd_26 rfl (k_sbStr l Z a0 hE a1 t11 ((([] ++ fs) ++ [58, 32]) ++ rs) ((((List.replicate 16 0).drop fs.length).drop ([58, 32] : List Int32).length).drop rs.length) h33 S32 (by simp; try omega) (by simp; try omega) (by simp; try omega)) (fun _ q => (nomatch q)) (fun q => ⟨q, fun _ q => (nomatch q)⟩) rfl rfl (Nat.le_of_ble_eq_true rfl) (Nat.le_of_ble_eq_true rfl) (Nat.le_of_ble_eq_true rfl) (Nat.le_of_ble_eq_true rfl) d_prog_4_method_1_21 rfl rfl (oldK fun v h38 hq K39 => ?_)
  obtain ⟨r36, rfl, hr37, Sm⟩ := hq
  show W B h38 6 52 (t11 :: (a1 :: M)) (true, ("com/example/vestline/vestline/input/MalformedFieldException", 11) :: []) 24 #[.val (.ref a), .val (.ref f), .val (.ref r)] [(.ref r36), (.ref a)]
  have EE40 := ExtT EE35 (ext_keep K39)
  replace Sm := Sm.cast (cs' := (fs ++ [58, 32] ++ rs)) (by simp)
  refine W.aconstNull ok (pc' := 25) d_prog_4_method_1_24 rfl ?_
  refine W.iconst ok (pc' := 26) (0 : Int32) d_prog_4_method_1_25 rfl rfl ?_
  refine W.iconst ok (pc' := 27) (0 : Int32) d_prog_4_method_1_26 rfl rfl ?_
  refine W.callI ok (rest := []) (cl' := (false, ("com/example/vestline/vestline/input/MalformedFieldException", 11) :: [])) (pc' := 30) rfl (w145 hw) (w146 hw) (w148 hw) (w149 hw) (by decide) pd_23 rfl (k_exc l Z a0 hE a r36 h38 (X.ext EE40) (F0.ext EE40) (F1.ext EE40) (F2.ext EE40) (F3.ext EE40) (F4.ext EE40) (F5.ext EE40)) (fun w q => by simp only [List.mem_cons, List.not_mem_nil, or_false] at q; subst q; exact ⟨(List.mem_cons_of_mem _ (List.mem_cons_of_mem _ (hwsM _ (List.mem_of_getElem? (i := 0) rfl)))), (Or.inl (List.mem_of_getElem? (i := 0) rfl))⟩) (fun q => by cases q) rfl rfl (Nat.le_of_ble_eq_true rfl) (Nat.le_of_ble_eq_true rfl) (Nat.le_of_ble_eq_true rfl) (Nat.le_of_ble_eq_true rfl) d_prog_4_method_1_27 rfl rfl (oldK fun v h41 hq K42 => ?_)
  obtain ⟨rfl, g1, g2, g3⟩ := hq
  show W B h41 6 52 (t11 :: (a1 :: M)) (false, ("com/example/vestline/vestline/input/MalformedFieldException", 11) :: []) 30 #[.val (.ref a), .val (.ref f), .val (.ref r)] []
  refine W.aloadN ok (pc' := 31) d_prog_4_method_1_30 rfl rfl rfl ?_
  refine W.aloadN ok (pc' := 32) d_prog_4_method_1_31 rfl rfl rfl ?_
  have ox43 := (X.ext EE40).keep K42
  have of44 := g1
  have of45 := g2
  have of46 := g3
  have Sm2 := Sm.keep K42 (fun w q => by rw [List.mem_singleton.mp q]; exact (List.mem_cons_of_mem _ (List.mem_cons_of_mem _ (hwsM _ (List.mem_of_getElem? (i := 0) rfl)))))
  refine W.putF ok (pc' := 35) (cl' := (false, ("com/example/vestline/vestline/input/MalformedFieldException", 11) :: [])) (w167 hw) Via.refl of45 ox43 (Or.inr ⟨(w168 hw), rfl, rfl⟩) (w38 hw) (ty := (.object "java/lang/String")) (by decide) rfl rfl (List.mem_cons_of_mem _ (List.mem_cons_of_mem _ (hwsM _ (List.mem_of_getElem? (i := 0) rfl)))) (Or.inl (List.mem_of_getElem? (i := 0) rfl)) (fun q => by cases q) rfl d_prog_4_method_1_32 rfl (fun h47 W48 => ?_)
  have ox49 := ox43.wr W48
  have of50 := of44.other W48 (Or.inr (slot_ne (Or.inl (w166 hw)) (Or.inr (w168 hw)) (by decide) (t := (.object "java/lang/String")) (by decide) (t' := (.object "java/lang/String")) (by decide)))
  have of51 := of45.same W48
  have of52 := of46.other W48 (Or.inr (slot_ne (Or.inr (w170 hw)) (Or.inr (w168 hw)) (by decide) (t := (.object "java/lang/String")) (by decide) (t' := (.object "java/lang/String")) (by decide)))
  have Sm3 := Sm2.wr W48 (List.mem_cons_of_mem _ (List.mem_cons_of_mem _ (hwsM _ (List.mem_of_getElem? (i := 0) rfl))))
  refine W.aloadN ok (pc' := 36) d_prog_4_method_1_35 rfl rfl rfl ?_
  refine W.aloadN ok (pc' := 37) d_prog_4_method_1_36 rfl rfl rfl ?_
  refine W.putF ok (pc' := 40) (cl' := (false, ("com/example/vestline/vestline/input/MalformedFieldException", 11) :: [])) (w169 hw) Via.refl of52 ox49 (Or.inr ⟨(w170 hw), rfl, rfl⟩) (w38 hw) (ty := (.object "java/lang/String")) (by decide) rfl rfl (List.mem_cons_of_mem _ (List.mem_cons_of_mem _ (hwsM _ (List.mem_of_getElem? (i := 0) rfl)))) (Or.inl (List.mem_of_getElem? (i := 0) rfl)) (fun q => by cases q) rfl d_prog_4_method_1_37 rfl (fun h53 W54 => ?_)
  have ox55 := ox49.wr W54
  have of56 := of50.other W54 (Or.inr (slot_ne (Or.inl (w166 hw)) (Or.inr (w170 hw)) (by decide) (t := (.object "java/lang/String")) (by decide) (t' := (.object "java/lang/String")) (by decide)))
  have of57 := of51.other W54 (Or.inr (slot_ne (Or.inr (w168 hw)) (Or.inr (w170 hw)) (by decide) (t := (.object "java/lang/String")) (by decide) (t' := (.object "java/lang/String")) (by decide)))
  have of58 := of52.same W54
  have Sm4 := Sm3.wr W54 (List.mem_cons_of_mem _ (List.mem_cons_of_mem _ (hwsM _ (List.mem_of_getElem? (i := 0) rfl))))
  exact W.retV ok d_prog_4_method_1_40 (Nat.le_of_ble_eq_true rfl) (Nat.le_of_ble_eq_true rfl) (fun x (q : x ∈ M) => (List.mem_cons_of_mem _ (List.mem_cons_of_mem _ q))) (fun kp => ⟨rfl, r36, of57, of58, of56, Sm4.mono (fun x q => Or.inl (List.mem_cons_of_mem _ (List.mem_cons_of_mem _ q)))⟩)
set_option maxRecDepth 65536 in
set_option maxHeartbeats 4000000 in
theorem k_within (l : Launch) (Z : State) (a0 : Array Value) (hE : Ev Z a0) (o p f r : Addr) (ps fs rs : List Int32) (h : Heap) (G1 : Fld Z h o "com/example/vestline/vestline/input/MalformedFieldException" "field" "Ljava/lang/String;" (.ref f)) (G2 : Fld Z h o "com/example/vestline/vestline/input/MalformedFieldException" "reason" "Ljava/lang/String;" (.ref r)) (Tp : Str Z h p ps) (Tf : Str Z h f fs) (Tr : Str Z h r rs) (latp : ∀ c ∈ ps, c.toInt ≤ 255) (latf : ∀ c ∈ fs, c.toInt ≤ 255) (latr : ∀ c ∈ rs, c.toInt ≤ 255) (lp : ps.length ≤ 2) (lf : fs.length ≤ 2) (lr : rs.length ≤ 2) : Con l Z false (⟨"com/example/vestline/vestline/input/MalformedFieldException", "within", "(Ljava/lang/String;)Lcom/example/vestline/vestline/input/MalformedFieldException;"⟩ : MethodName) prog_4_method_2_code 2 (some (.object "com/example/vestline/vestline/input/MalformedFieldException")) ({ frames := 7, cells := 13, slots := 108, locals := 107 } : Room) [(.ref o), (.ref p)] h [] false (fun M v h' => ∃ y m, v = some (.ref y) ∧ Exa Z h' y "com/example/vestline/vestline/input/MalformedFieldException" ∧ Fld Z h' y "java/lang/Throwable" "detailMessage" "Ljava/lang/String;" (.ref m) ∧ StrM Z h' M m ((ps ++ [46] ++ fs) ++ [58, 32] ++ rs)) := by
  have hw := hE.1
  refine Con.intro (L0 := #[.val (.ref o), .val (.ref p)]) (by decide +kernel) (fun m => ef_of rfl) ?_
  intro B M hwsM ok
  refine W.old ok fun _ le0 => ?_
  refine W.new ok (pc' := 3) (w176 hw) (w38 hw) (w39 hw) d_prog_4_method_2_0 rfl (Nat.le_of_ble_eq_true rfl) (Nat.le_of_ble_eq_true rfl) (fun a1 h2 z3 ea4 E5 X6 D7 U8 => ?_)
  refine W.dup ok (pc' := 4) d_prog_4_method_2_3 rfl rfl ?_
  refine W.new ok (pc' := 7) (w43 hw) (w44 hw) (w45 hw) d_prog_4_method_2_4 rfl (Nat.le_of_ble_eq_true rfl) (Nat.le_of_ble_eq_true rfl) (fun a9 h10 z11 ea12 E13 X14 D15 U16 => ?_)
  refine W.dup ok (pc' := 8) d_prog_4_method_2_7 rfl rfl ?_
  have EE17 := ExtT E5 E13
  have nb18 := Nat.le_trans E5.1 (Nat.le_of_eq ea12)
  have EE19 := ExtT (ExtR h2) E13
  have nb20 := Nat.le_trans (ExtR h2).1 (Nat.le_of_eq ea12)
  refine W.callI ok (rest := [(.ref a9), (.ref a1), (.ref a1)]) (cl' := (true, [])) (pc' := 11) rfl (w46 hw) (w47 hw) (w45 hw) (w48 hw) (by decide) pd_24 rfl (k_sbInit l Z a0 hE a9 h10 X14 (D15 (Or.inl (w58 hw)) (ty := (.array .byte)) (by decide)) (D15 (Or.inl (w60 hw)) (ty := .byte) (by decide)) (D15 (Or.inl (w73 hw)) (ty := .int) (by decide))) (fun w q => by simp only [List.mem_cons, List.not_mem_nil, or_false] at q; subst q; exact ⟨(List.mem_cons_self ..), (Or.inr z11)⟩) (fun q => ⟨q, fun w q => by simp only [List.mem_cons, List.not_mem_nil, or_false] at q; subst q; exact z11⟩) rfl rfl (Nat.le_of_ble_eq_true rfl) (Nat.le_of_ble_eq_true rfl) (Nat.le_of_ble_eq_true rfl) (Nat.le_of_ble_eq_true rfl) d_prog_4_method_2_8 rfl rfl (fun N26 v h24 hq K25 => ?_)
  obtain ⟨t21, rfl, ht22, rfl, S23⟩ := hq
  show W B h24 3 28 (t21 :: (a9 :: (a1 :: M))) (true, []) 11 #[.val (.ref o), .val (.ref p)] [(.ref a9), (.ref a1), (.ref a1)]
  have nt27 := Nat.le_trans EE17.1 ht22
  have nt28 := Nat.le_trans EE19.1 ht22
  have EE29 := ExtK EE17 K25 (fun w q => by simp only [List.mem_cons, List.not_mem_nil, or_false] at q; rw [q]; exact nb18)
  have EE30 := ExtK EE19 K25 (fun w q => by simp only [List.mem_cons, List.not_mem_nil, or_false] at q; rw [q]; exact nb20)
  refine W.aloadN ok (pc' := 12) d_prog_4_method_2_11 rfl rfl rfl ?_
  refine W.callV ok (rest := [(.ref a1), (.ref a1)]) (cl' := (true, [])) (pc' := 15) (w61 hw) (w62 hw) (w64 hw) (w63 hw) (w45 hw) (w65 hw) (by decide) S23.exa pd_25 rfl (k_sbApp l Z a0 hE a9 t21 [] (List.replicate 16 0) p ps h24 S23 (Tp.ext EE29) latp (by simp; try omega) (by simp; try omega)) (fun w q => by simp only [List.mem_cons, List.not_mem_nil, or_false] at q; rcases q with rfl | rfl; exact ⟨(List.mem_cons_of_mem _ (List.mem_cons_self ..)), (Or.inr z11)⟩; exact ⟨(List.mem_cons_self ..), (Or.inr nt27)⟩) (fun q => ⟨q, fun w q => by simp only [List.mem_cons, List.not_mem_nil, or_false] at q; rcases q with rfl | rfl; exact z11; exact nt27⟩) rfl rfl (Nat.le_of_ble_eq_true rfl) (Nat.le_of_ble_eq_true rfl) (Nat.le_of_ble_eq_true rfl) (Nat.le_of_ble_eq_true rfl) d_prog_4_method_2_12 rfl rfl (oldK fun v h32 hq K33 => ?_)
  obtain ⟨rfl, S31⟩ := hq
  show W B h32 3 28 (t21 :: (a9 :: (a1 :: M))) (true, []) 15 #[.val (.ref o), .val (.ref p)] [(.ref a9), (.ref a1), (.ref a1)]
  have EE34 := ExtK EE29 K33 (fun w q => by simp only [List.mem_cons, List.not_mem_nil, or_false] at q; rcases q with q | q <;> rw [q]; exact nb18; exact nt27)
  have EE35 := ExtK EE30 K33 (fun w q => by simp only [List.mem_cons, List.not_mem_nil, or_false] at q; rcases q with q | q <;> rw [q]; exact nb20; exact nt28)
  refine W.ldcS ok (pc' := 17) rfl (text := ".") (sz := 4) (w177 hw) (fun d hd => hw d ((by decide +kernel : ∀ d ∈ Bundle.stringAtoms, d ∈ tables_1) d hd)) (hE.held _ (List.mem_of_getElem? (i := 1) rfl)) hE.cw (by decide) (Or.inl rfl) (by decide) (by decide) d_prog_4_method_2_15 rfl (Nat.le_of_ble_eq_true rfl) (Nat.le_of_ble_eq_true rfl) (fun a36 h37 E38 Sc => ?_)
  have S39 := S31.ext E38
  have EE40 := ExtT EE34 E38
  have EE41 := ExtT EE35 E38
  refine W.callV ok (rest := [(.ref a1), (.ref a1)]) (cl' := (true, ("com/example/vestline/vestline/input/MalformedFieldException", 31) :: [])) (pc' := 20) (w61 hw) (w62 hw) (w64 hw) (w63 hw) (w45 hw) (w65 hw) (by decide) S39.exa pd_25 rfl (k_sbApp l Z a0 hE a9 t21 ([] ++ ps) ((List.replicate 16 0).drop ps.length) a36 [46] h37 S39 (Sc.str.cast (by decide)) (by decide) (by simp; try omega) (by simp; try omega)) (fun w q => by simp only [List.mem_cons, List.not_mem_nil, or_false] at q; rcases q with rfl | rfl; exact ⟨(List.mem_cons_of_mem _ (List.mem_cons_self ..)), (Or.inr z11)⟩; exact ⟨(List.mem_cons_self ..), (Or.inr nt27)⟩) (fun q => ⟨q, fun w q => by simp only [List.mem_cons, List.not_mem_nil, or_false] at q; rcases q with rfl | rfl; exact z11; exact nt27⟩) rfl rfl (Nat.le_of_ble_eq_true rfl) (Nat.le_of_ble_eq_true rfl) (Nat.le_of_ble_eq_true rfl) (Nat.le_of_ble_eq_true rfl) d_prog_4_method_2_17 rfl rfl (oldK fun v h43 hq K44 => ?_)
  obtain ⟨rfl, S42⟩ := hq
  show W B h43 5 36 (t21 :: (a9 :: (a1 :: M))) (true, ("com/example/vestline/vestline/input/MalformedFieldException", 31) :: []) 20 #[.val (.ref o), .val (.ref p)] [(.ref a9), (.ref a1), (.ref a1)]
  have EE45 := ExtK EE40 K44 (fun w q => by simp only [List.mem_cons, List.not_mem_nil, or_false] at q; rcases q with q | q <;> rw [q]; exact nb18; exact nt27)
  have EE46 := ExtK EE41 K44 (fun w q => by simp only [List.mem_cons, List.not_mem_nil, or_false] at q; rcases q with q | q <;> rw [q]; exact nb20; exact nt28)
  refine W.aloadN ok (pc' := 21) d_prog_4_method_2_20 rfl rfl rfl ?_
  refine W.getF ok (pc' := 24) (w167 hw) Via.refl (G1.ext EE45) d_prog_4_method_2_21 rfl ?_
  refine W.callV ok (rest := [(.ref a1), (.ref a1)]) (cl' := (true, ("com/example/vestline/vestline/input/MalformedFieldException", 31) :: [])) (pc' := 27) (w61 hw) (w62 hw) (w64 hw) (w63 hw) (w45 hw) (w65 hw) (by decide) S42.exa pd_25 rfl (k_sbApp l Z a0 hE a9 t21 (([] ++ ps) ++ [46]) (((List.replicate 16 0).drop ps.length).drop ([46] : List Int32).length) f fs h43 S42 (Tf.ext EE45) latf (by simp; try omega) (by simp; try omega)) (fun w q => by simp only [List.mem_cons, List.not_mem_nil, or_false] at q; rcases q with rfl | rfl; exact ⟨(List.mem_cons_of_mem _ (List.mem_cons_self ..)), (Or.inr z11)⟩; exact ⟨(List.mem_cons_self ..), (Or.inr nt27)⟩) (fun q => ⟨q, fun w q => by simp only [List.mem_cons, List.not_mem_nil, or_false] at q; rcases q with rfl | rfl; exact z11; exact nt27⟩) rfl rfl (Nat.le_of_ble_eq_true rfl) (Nat.le_of_ble_eq_true rfl) (Nat.le_of_ble_eq_true rfl) (Nat.le_of_ble_eq_true rfl) d_prog_4_method_2_24 rfl rfl (oldK fun v h48 hq K49 => ?_)
  obtain ⟨rfl, S47⟩ := hq
  show W B h48 5 36 (t21 :: (a9 :: (a1 :: M))) (true, ("com/example/vestline/vestline/input/MalformedFieldException", 31) :: []) 27 #[.val (.ref o), .val (.ref p)] [(.ref a9), (.ref a1), (.ref a1)]
  have EE50 := ExtK EE45 K49 (fun w q => by simp only [List.mem_cons, List.not_mem_nil, or_false] at q; rcases q with q | q <;> rw [q]; exact nb18; exact nt27)
  have EE51 := ExtK EE46 K49 (fun w q => by simp only [List.mem_cons, List.not_mem_nil, or_false] at q; rcases q with q | q <;> rw [q]; exact nb20; exact nt28)
  refine W.callV ok (rest := [(.ref a1), (.ref a1)]) (cl' := (true, ("com/example/vestline/vestline/input/MalformedFieldException", 31) :: [])) (pc' := 30) (w100 hw) (w101 hw) (w103 hw) (w102 hw) (w45 hw) (w104 hw) (by decide) S47.exa pd_26 rfl (k_sbStr l Z a0 hE a9 t21 ((([] ++ ps) ++ [46]) ++ fs) ((((List.replicate 16 0).drop ps.length).drop ([46] : List Int32).length).drop fs.length) h48 S47 (by simp; try omega) (by simp; try omega) (by simp; try omega)) (fun _ q => (nomatch q)) (fun q => ⟨q, fun _ q => (nomatch q)⟩) rfl rfl (Nat.le_of_ble_eq_true rfl) (Nat.le_of_ble_eq_true rfl) (Nat.le_of_ble_eq_true rfl) (Nat.le_of_ble_eq_true rfl) d_prog_4_method_2_27 rfl rfl (oldK fun v h54 hq K55 => ?_)
  obtain ⟨r52, rfl, hr53, Sm⟩ := hq
  show W B h54 7 56 (t21 :: (a9 :: (a1 :: M))) (true, ("com/example/vestline/vestline/input/MalformedFieldException", 31) :: []) 30 #[.val (.ref o), .val (.ref p)] [(.ref r52), (.ref a1), (.ref a1)]
  have EE56 := ExtT EE50 (ext_keep K55)
  have EE57 := ExtT EE51 (ext_keep K55)
  replace Sm := Sm.cast (cs' := (ps ++ [46] ++ fs)) (by simp)
  refine W.aloadN ok (pc' := 31) d_prog_4_method_2_30 rfl rfl rfl ?_
  refine W.getF ok (pc' := 34) (w169 hw) Via.refl (G2.ext EE56) d_prog_4_method_2_31 rfl ?_
  refine W.callI ok (rest := [(.ref a1)]) (cl' := (true, ("com/example/vestline/vestline/input/MalformedFieldException", 31) :: [])) (pc' := 37) rfl (w178 hw) (w41 hw) (w39 hw) (w42 hw) (by decide) pd_27 rfl (k_mf l Z a0 hE a1 r52 r (ps ++ [46] ++ fs) rs h54 (X6.ext EE57) ((D7 (Or.inl (w158 hw)) (ty := (.object "java/lang/Throwable")) (by decide)).ext EE57) ((D7 (Or.inl (w161 hw)) (ty := (.array (.object "java/lang/StackTraceElement"))) (by decide)).ext EE57) ((D7 (Or.inl (w164 hw)) (ty := (.object "java/util/List")) (by decide)).ext EE57) ((D7 (Or.inl (w166 hw)) (ty := (.object "java/lang/String")) (by decide)).ext EE57) ((D7 (Or.inr (w168 hw)) (ty := (.object "java/lang/String")) (by decide)).ext EE57) ((D7 (Or.inr (w170 hw)) (ty := (.object "java/lang/String")) (by decide)).ext EE57) Sm.str (Tr.ext EE56) (fun c hc => by simp only [List.mem_append, List.mem_singleton] at hc; rcases hc with (q | q) | q; exact latp c q; rw [q]; decide; exact latf c q) latr (by simp; omega) lr) (fun w q => by simp only [List.mem_cons, List.not_mem_nil, or_false] at q; subst q; exact ⟨(List.mem_cons_of_mem _ (List.mem_cons_of_mem _ (List.mem_cons_self ..))), (Or.inr z3)⟩) (fun q => ⟨q, fun w q => by simp only [List.mem_cons, List.not_mem_nil, or_false] at q; subst q; exact z3⟩) rfl rfl (Nat.le_of_ble_eq_true rfl) (Nat.le_of_ble_eq_true rfl) (Nat.le_of_ble_eq_true rfl) (Nat.le_of_ble_eq_true rfl) d_prog_4_method_2_34 rfl rfl (oldK fun v h58 hq K59 => ?_)
  obtain ⟨rfl, m2, g1, g2, g3, Sn⟩ := hq
  show W B h58 13 108 (t21 :: (a9 :: (a1 :: M))) (true, ("com/example/vestline/vestline/input/MalformedFieldException", 31) :: []) 37 #[.val (.ref o), .val (.ref p)] [(.ref a1)]
  exact W.retA ok d_prog_4_method_2_37 rfl rfl (Nat.le_of_ble_eq_true rfl) (Nat.le_of_ble_eq_true rfl) (fun x (q : x ∈ M) => (List.mem_cons_of_mem _ (List.mem_cons_of_mem _ (List.mem_cons_of_mem _ q)))) (fun kp => ⟨a1, m2, rfl, ((X6.ext EE57).keep K59), g3, Sn.mono (fun x q => Or.inl (List.mem_cons_of_mem _ (List.mem_cons_of_mem _ (List.mem_cons_of_mem _ q))))⟩)
set_option maxRecDepth 65536 in
set_option maxHeartbeats 4000000 in
theorem k_str (l : Launch) (Z : State) (a0 : Array Value) (hE : Ev Z a0) (p : Int32) (h : Heap)  : Con l Z false (⟨"com/example/vestline/vestline/input/MalformedFieldExceptionWithinPinLaw", "str", "(I)Ljava/lang/String;"⟩ : MethodName) method_2_code 4 (some (.object "java/lang/String")) ({ frames := 4, cells := 6, slots := 14, locals := 66 } : Room) [(.int p)] h [] false (fun M v h' => ∃ r cs, v = some (.ref r) ∧ h.size ≤ r ∧ StrM Z h' M r cs ∧ cs.length ≤ 2 ∧ ∀ c ∈ cs, 0 ≤ c.toInt ∧ c.toInt ≤ 255) := by
  have hw := hE.1
  refine Con.intro (L0 := #[.val (.int p), .unset, .unset, .unset]) (by decide +kernel) (fun m => ef_of rfl) ?_
  intro B M hwsM ok
  refine W.iloadN ok (pc' := 1) d_method_2_0 rfl rfl ?_
  refine W.bipush ok (pc' := 3) (16 : Int32) d_method_2_1 rfl rfl ?_
  refine W.iushr ok (pc' := 4) d_method_2_3 rfl ?_
  refine W.sipush ok (pc' := 7) (255 : Int32) d_method_2_4 rfl rfl ?_
  refine W.iand ok (pc' := 8) d_method_2_7 rfl ?_
  refine W.iconst ok (pc' := 9) (3 : Int32) d_method_2_8 rfl rfl ?_
  refine W.irem ok (pc' := 10) d_method_2_9 rfl (by decide) ?_
  generalize hn : (((XT.ushr p (16 : Int32)) &&& (255 : Int32)) % (3 : Int32)) = n
  have rn : 0 ≤ n.toInt ∧ n.toInt < 3 := by
    have m1 := maskI (XT.ushr p 16) 255 8 (by decide) (by decide)
    have m2 := rem_rng (x := XT.ushr p 16 &&& 255) (y := 3) (d := 3) rfl (by decide) m1.1
    rw [hn] at m2; exact m2
  refine W.istoreN ok (pc' := 11) (L' := #[.val (.int p), .val (.int n), .unset, .unset]) d_method_2_10 rfl rfl ?_
  refine W.iloadN ok (pc' := 12) d_method_2_11 rfl rfl ?_
  refine W.sipush ok (pc' := 15) (255 : Int32) d_method_2_12 rfl rfl ?_
  refine W.iand ok (pc' := 16) d_method_2_15 rfl ?_
  refine W.i2c ok (pc' := 17) d_method_2_16 rfl ?_
  generalize hc : (c16 (p &&& (255 : Int32))) = c
  have rc : 0 ≤ c.toInt ∧ c.toInt ≤ 255 := by rw [← hc]; exact lowI _
  refine W.istoreN ok (pc' := 18) (L' := #[.val (.int p), .val (.int n), .val (.int c), .unset]) d_method_2_17 rfl rfl ?_
  refine W.iloadN ok (pc' := 19) d_method_2_18 rfl rfl ?_
  refine W.bipush ok (pc' := 21) (8 : Int32) d_method_2_19 rfl rfl ?_
  refine W.iushr ok (pc' := 22) d_method_2_21 rfl ?_
  refine W.sipush ok (pc' := 25) (255 : Int32) d_method_2_22 rfl rfl ?_
  refine W.iand ok (pc' := 26) d_method_2_25 rfl ?_
  refine W.i2c ok (pc' := 27) d_method_2_26 rfl ?_
  generalize hd : (c16 ((XT.ushr p (8 : Int32)) &&& (255 : Int32))) = d
  have rd : 0 ≤ d.toInt ∧ d.toInt ≤ 255 := by rw [← hd]; exact lowI _
  refine W.istoreN ok (pc' := 28) (L' := #[.val (.int p), .val (.int n), .val (.int c), .val (.int d)]) d_method_2_27 rfl rfl ?_
  refine W.iloadN ok (pc' := 29) d_method_2_28 rfl rfl ?_
  refine W.ifne ok (pcY := 43) (pcN := 32) d_method_2_29 rfl (by decide) rfl (fun c0 => ?_) (fun c0 => ?_)
  · refine W.lt fun hM1 => ?_
    refine W.new ok (pc' := 35) (w4 hw) (w5 hw) (w6 hw) d_method_2_32 rfl (Nat.le_of_ble_eq_true rfl) (Nat.le_of_ble_eq_true rfl) (fun a2 h3 z4 ea5 E6 X7 D8 U9 => ?_)
    refine W.dup ok (pc' := 36) d_method_2_35 rfl rfl ?_
    refine W.iconst ok (pc' := 37) (0 : Int32) d_method_2_36 rfl rfl ?_
    refine W.newC ok (pc' := 39) (cap := 0) (w7 hw) (by decide) (by decide) (by decide) d_method_2_37 rfl (Nat.le_of_ble_eq_true rfl) (Nat.le_of_ble_eq_true rfl) (fun a10 h11 z12 ea13 E14 A15 => ?_)
    replace A15 := A15.cast (cs' := []) rfl
    have l16 := gtE X7
    have l17 := E6.1
    have l18 := E14.1
    have nab19 : a2 ≠ a10 := ane (by omega)
    refine W.callI ok (rest := [(.ref a2)]) (cl' := (true, [])) (pc' := 42) rfl (w8 hw) (w9 hw) (w6 hw) (w10 hw) (by decide) pd_28 rfl (k_initC l Z a0 hE a2 a10 [] h11 (X7.ext E14) ((D8 (Or.inr (w20 hw)) (ty := (.array .byte)) (by decide)).ext E14) ((D8 (Or.inr (w21 hw)) (ty := .byte) (by decide)).ext E14) A15 (by simp) (by simp)) (fun w q => by simp only [List.mem_cons, List.not_mem_nil, or_false] at q; subst q; exact ⟨(List.mem_cons_of_mem _ (List.mem_cons_self ..)), (Or.inr z4)⟩) (fun q => ⟨q, fun w q => by simp only [List.mem_cons, List.not_mem_nil, or_false] at q; subst q; exact z4⟩) rfl rfl (Nat.le_of_ble_eq_true rfl) (Nat.le_of_ble_eq_true rfl) (Nat.le_of_ble_eq_true rfl) (Nat.le_of_ble_eq_true rfl) d_method_2_39 rfl rfl (oldK fun v h28 hq K29 => ?_)
    obtain ⟨rfl, t20, cd21, bs22, q23, q24, q25, q26, q27⟩ := hq
    show W B h28 6 12 (a10 :: (a2 :: M)) (true, []) 42 #[.val (.int p), .val (.int n), .val (.int c), .val (.int d)] [(.ref a2)]
    have E30 := ExtK (ExtT E6 E14) K29 (by simp; omega)
    have S1 : StrM Z h28 M a2 [] := ⟨t20, cd21, bs22, fun z => absurd (hM1 _ z) (by omega), fun z => q23 (List.mem_cons_of_mem _ (List.mem_cons_of_mem _ z)), ((X7.ext E14).keep K29), q24, q25, q26, q27⟩
    refine W.drop (M' := M) (fun x z => (List.mem_cons_of_mem _ (List.mem_cons_of_mem _ z))) ?_
    exact W.retA ok d_method_2_42 rfl rfl (Nat.le_of_ble_eq_true rfl) (Nat.le_of_ble_eq_true rfl) (fun x (q : x ∈ M) => q) (fun kp => ⟨a2, [], rfl, Nat.le_of_eq ea5, S1, by simp, by simp⟩)
  · refine W.iloadN ok (pc' := 44) d_method_2_43 rfl rfl ?_
    refine W.iconst ok (pc' := 45) (1 : Int32) d_method_2_44 rfl rfl ?_
    refine W.icmpne ok (pcY := 53) (pcN := 48) d_method_2_45 rfl (by decide) rfl (fun c1 => ?_) (fun c1 => ?_)
    · refine W.iloadN ok (pc' := 49) d_method_2_48 rfl rfl ?_
      refine W.callS ok (rest := []) (cl' := (true, [])) (pc' := 52) (w210 hw) (w211 hw) (w6 hw) (w212 hw) (by decide) pd_29 rfl (k_valL l Z a0 hE c h rc) (fun _ q => (nomatch q)) (fun q => ⟨q, fun _ q => (nomatch q)⟩) rfl rfl (Nat.le_of_ble_eq_true rfl) (Nat.le_of_ble_eq_true rfl) (Nat.le_of_ble_eq_true rfl) (Nat.le_of_ble_eq_true rfl) d_method_2_49 rfl rfl (oldK fun v h31 hq K32 => ?_)
      obtain ⟨s1, rfl, hs, S1⟩ := hq
      show W B h31 2 5 M (true, []) 52 #[.val (.int p), .val (.int n), .val (.int c), .val (.int d)] [(.ref s1)]
      exact W.retA ok d_method_2_52 rfl rfl (Nat.le_of_ble_eq_true rfl) (Nat.le_of_ble_eq_true rfl) (fun x (q : x ∈ M) => q) (fun kp => ⟨s1, [c], rfl, hs, S1, by simp, by simpa using rc⟩)
    · refine W.lt fun hM33 => ?_
      refine W.new ok (pc' := 56) (w4 hw) (w5 hw) (w6 hw) d_method_2_53 rfl (Nat.le_of_ble_eq_true rfl) (Nat.le_of_ble_eq_true rfl) (fun a34 h35 z36 ea37 E38 X39 D40 U41 => ?_)
      refine W.dup ok (pc' := 57) d_method_2_56 rfl rfl ?_
      refine W.iconst ok (pc' := 58) (2 : Int32) d_method_2_57 rfl rfl ?_
      refine W.newC ok (pc' := 60) (cap := 2) (w7 hw) (by decide) (by decide) (by decide) d_method_2_58 rfl (Nat.le_of_ble_eq_true rfl) (Nat.le_of_ble_eq_true rfl) (fun a42 h43 z44 ea45 E46 A47 => ?_)
      replace A47 := A47.cast (cs' := [0, 0]) rfl
      have l48 := gtE X39
      have l49 := E38.1
      have l50 := E46.1
      have nab51 : a34 ≠ a42 := ane (by omega)
      refine W.dup ok (pc' := 61) d_method_2_60 rfl rfl ?_
      refine W.iconst ok (pc' := 62) (0 : Int32) d_method_2_61 rfl rfl ?_
      refine W.iloadN ok (pc' := 63) d_method_2_62 rfl rfl ?_
      refine W.castore ok (pc' := 64) (cl' := (true, [])) A47 (by decide) (Nat.le_of_ble_eq_true rfl) (List.mem_cons_self ..) (Or.inr z44) (fun q => ⟨q, z44⟩) rfl d_method_2_63 rfl (fun h52 Wr53 A54 => ?_)
      replace A54 := A54.cast (cs' := [c, 0]) (by rw [c16_of ⟨rc.1, by omega⟩]; rfl)
      refine W.dup ok (pc' := 65) d_method_2_64 rfl rfl ?_
      refine W.iconst ok (pc' := 66) (1 : Int32) d_method_2_65 rfl rfl ?_
      refine W.iloadN ok (pc' := 67) d_method_2_66 rfl rfl ?_
      refine W.castore ok (pc' := 68) (cl' := (true, [])) A54 (by decide) (Nat.le_of_ble_eq_true rfl) (List.mem_cons_self ..) (Or.inr z44) (fun q => ⟨q, z44⟩) rfl d_method_2_67 rfl (fun h55 Wr56 A57 => ?_)
      replace A57 := A57.cast (cs' := [c, d]) (by rw [c16_of ⟨rd.1, by omega⟩]; rfl)
      refine W.callI ok (rest := [(.ref a34)]) (cl' := (true, [])) (pc' := 71) rfl (w8 hw) (w9 hw) (w6 hw) (w10 hw) (by decide) pd_28 rfl (k_initC l Z a0 hE a34 a42 [c, d] h55 (((X39.ext E46).wr Wr53).wr Wr56) ((((D40 (Or.inr (w20 hw)) (ty := (.array .byte)) (by decide)).ext E46).other Wr53 (Or.inl nab51)).other Wr56 (Or.inl nab51)) ((((D40 (Or.inr (w21 hw)) (ty := .byte) (by decide)).ext E46).other Wr53 (Or.inl nab51)).other Wr56 (Or.inl nab51)) A57 (by simp) (by simp; exact ⟨rc.2, rd.2⟩)) (fun w q => by simp only [List.mem_cons, List.not_mem_nil, or_false] at q; subst q; exact ⟨(List.mem_cons_of_mem _ (List.mem_cons_self ..)), (Or.inr z36)⟩) (fun q => ⟨q, fun w q => by simp only [List.mem_cons, List.not_mem_nil, or_false] at q; subst q; exact z36⟩) rfl rfl (Nat.le_of_ble_eq_true rfl) (Nat.le_of_ble_eq_true rfl) (Nat.le_of_ble_eq_true rfl) (Nat.le_of_ble_eq_true rfl) d_method_2_68 rfl rfl (oldK fun v h66 hq K67 => ?_)
      obtain ⟨rfl, t58, cd59, bs60, q61, q62, q63, q64, q65⟩ := hq
      show W B h66 6 14 (a42 :: (a34 :: M)) (true, []) 71 #[.val (.int p), .val (.int n), .val (.int c), .val (.int d)] [(.ref a34)]
      have E68 := ExtK (ExtW (ExtW (ExtT E38 E46) Wr53 (by omega)) Wr56 (by omega)) K67 (by simp; omega)
      have S1 : StrM Z h66 M a34 [c, d] := ⟨t58, cd59, bs60, fun z => absurd (hM33 _ z) (by omega), fun z => q61 (List.mem_cons_of_mem _ (List.mem_cons_of_mem _ z)), ((((X39.ext E46).wr Wr53).wr Wr56).keep K67), q62, q63, q64, q65⟩
      refine W.drop (M' := M) (fun x z => (List.mem_cons_of_mem _ (List.mem_cons_of_mem _ z))) ?_
      exact W.retA ok d_method_2_71 rfl rfl (Nat.le_of_ble_eq_true rfl) (Nat.le_of_ble_eq_true rfl) (fun x (q : x ∈ M) => q) (fun kp => ⟨a34, [c, d], rfl, Nat.le_of_eq ea37, S1, by simp, by simp; exact ⟨rc, rd⟩⟩)
set_option maxRecDepth 65536 in
set_option maxHeartbeats 4000000 in
theorem k_at (l : Launch) (Z : State) (a0 : Array Value) (hE : Ev Z a0) (m s : Addr) (cs ds : List Int32) (iN : Nat) (h : Heap) (S : Str Z h m cs) (T : Str Z h s ds) (lm : ∀ c ∈ cs, c.toInt ≤ 255) (ls : ∀ c ∈ ds, c.toInt ≤ 255) (l1 : cs.length < 100) (l2 : ds.length ≤ 2) (hi : ∀ (j : Nat) (c : Int32), ds[j]? = some c → cs[iN + j]? = some c) : Con l Z false (⟨"com/example/vestline/vestline/input/MalformedFieldExceptionWithinPinLaw", "at", "(Ljava/lang/String;ILjava/lang/String;)Z"⟩ : MethodName) method_3_code 3 (some .boolean) ({ frames := 4, cells := 0, slots := 0, locals := 54 } : Room) [(.ref m), (.int iN.toInt32), (.ref s)] h [] false (fun M v h' => v = some (.int 1) ∧ h' = h) := by
  have hw := hE.1
  refine Con.intro (L0 := #[.val (.ref m), .val (.int iN.toInt32), .val (.ref s)]) (by decide +kernel) (fun m => ef_of rfl) ?_
  intro B M hwsM ok
  have Xm := S.exa
  have Xs := T.exa
  refine W.aloadN ok (pc' := 1) d_method_3_0 rfl rfl rfl ?_
  refine W.callV ok (rest := []) (cl' := (true, [])) (pc' := 4) (w26 hw) (w27 hw) (w29 hw) (w28 hw) (w6 hw) (w30 hw) (by decide) Xs pd_13 rfl (k_length l Z a0 hE s ds h T (by omega)) (fun _ q => (nomatch q)) (fun q => ⟨q, fun _ q => (nomatch q)⟩) rfl rfl (Nat.le_of_ble_eq_true rfl) (Nat.le_of_ble_eq_true rfl) (Nat.le_of_ble_eq_true rfl) (Nat.le_of_ble_eq_true rfl) d_method_3_1 rfl rfl (pureK ?_)
  show W B h 0 0 M (true, []) 4 #[.val (.ref m), .val (.int iN.toInt32), .val (.ref s)] [(.int ds.length.toInt32)]
  refine W.iconst ok (pc' := 5) (1 : Int32) d_method_3_4 rfl rfl ?_
  refine W.icmplt ok (pcY := 23) (pcN := 8) d_method_3_5 rfl (by decide) rfl (fun c1 => ?_) (fun c1 => ?_)
  · have l0 : ds.length < 1 := (i32_lt (a := ds.length) (b := 1) (by omega) (by omega)).mp c1
    refine W.aloadN ok (pc' := 24) d_method_3_23 rfl rfl rfl ?_
    refine W.callV ok (rest := []) (cl' := (true, [])) (pc' := 27) (w26 hw) (w27 hw) (w29 hw) (w28 hw) (w6 hw) (w30 hw) (by decide) Xs pd_13 rfl (k_length l Z a0 hE s ds h T (by omega)) (fun _ q => (nomatch q)) (fun q => ⟨q, fun _ q => (nomatch q)⟩) rfl rfl (Nat.le_of_ble_eq_true rfl) (Nat.le_of_ble_eq_true rfl) (Nat.le_of_ble_eq_true rfl) (Nat.le_of_ble_eq_true rfl) d_method_3_24 rfl rfl (pureK ?_)
    show W B h 0 0 M (true, []) 27 #[.val (.ref m), .val (.int iN.toInt32), .val (.ref s)] [(.int ds.length.toInt32)]
    refine W.iconst ok (pc' := 28) (2 : Int32) d_method_3_27 rfl rfl ?_
    refine W.icmplt ok (pcY := 48) (pcN := 31) d_method_3_28 rfl (by decide) rfl (fun c2 => ?_) (fun c2 => ?_)
    · refine W.iconst ok (pc' := 49) (1 : Int32) d_method_3_48 rfl rfl ?_
      exact W.retZ ok d_method_3_49 rfl (Nat.le_of_ble_eq_true rfl) (Nat.le_of_ble_eq_true rfl) (fun x (q : x ∈ M) => q) (fun kp => ⟨rfl, rfl⟩)
    · exact absurd ((i32_lt (a := ds.length) (b := 2) (by omega) (by omega)).mpr (by omega)) c2
  · have l0 : 0 < ds.length := by have q1 := (i32_lt (a := ds.length) (b := 1) (by omega) (by omega)); rcases Nat.lt_or_ge 0 ds.length with q | q; exact q; exact absurd (q1.mpr (by omega)) c1
    obtain ⟨d0, h0⟩ := at_lt l0
    have k0 := hi 0 d0 h0
    refine W.aloadN ok (pc' := 9) d_method_3_8 rfl rfl rfl ?_
    refine W.iloadN ok (pc' := 10) d_method_3_9 rfl rfl ?_
    refine W.callV ok (rest := []) (cl' := (true, [])) (pc' := 13) (w188 hw) (w189 hw) (w191 hw) (w190 hw) (w6 hw) (w192 hw) (by decide) Xm pd_30 rfl (k_charAt l Z a0 hE m cs iN d0 h S k0 (by omega) lm) (fun _ q => (nomatch q)) (fun q => ⟨q, fun _ q => (nomatch q)⟩) rfl rfl (Nat.le_of_ble_eq_true rfl) (Nat.le_of_ble_eq_true rfl) (Nat.le_of_ble_eq_true rfl) (Nat.le_of_ble_eq_true rfl) d_method_3_10 rfl rfl (pureK ?_)
    show W B h 0 0 M (true, []) 13 #[.val (.ref m), .val (.int iN.toInt32), .val (.ref s)] [(.int d0)]
    refine W.aloadN ok (pc' := 14) d_method_3_13 rfl rfl rfl ?_
    refine W.iconst ok (pc' := 15) (0 : Int32) d_method_3_14 rfl rfl ?_
    refine W.callV ok (rest := [(.int d0)]) (cl' := (true, [])) (pc' := 18) (w188 hw) (w189 hw) (w191 hw) (w190 hw) (w6 hw) (w192 hw) (by decide) Xs pd_30 rfl (k_charAt l Z a0 hE s ds 0 d0 h T h0 (by omega) ls) (fun _ q => (nomatch q)) (fun q => ⟨q, fun _ q => (nomatch q)⟩) rfl rfl (Nat.le_of_ble_eq_true rfl) (Nat.le_of_ble_eq_true rfl) (Nat.le_of_ble_eq_true rfl) (Nat.le_of_ble_eq_true rfl) d_method_3_15 rfl rfl (pureK ?_)
    show W B h 0 0 M (true, []) 18 #[.val (.ref m), .val (.int iN.toInt32), .val (.ref s)] [(.int d0), (.int d0)]
    refine W.icmpeq ok (pcY := 23) (pcN := 21) d_method_3_18 rfl (by decide) rfl (fun _ => ?_) (fun q => absurd rfl q)
    refine W.aloadN ok (pc' := 24) d_method_3_23 rfl rfl rfl ?_
    refine W.callV ok (rest := []) (cl' := (true, [])) (pc' := 27) (w26 hw) (w27 hw) (w29 hw) (w28 hw) (w6 hw) (w30 hw) (by decide) Xs pd_13 rfl (k_length l Z a0 hE s ds h T (by omega)) (fun _ q => (nomatch q)) (fun q => ⟨q, fun _ q => (nomatch q)⟩) rfl rfl (Nat.le_of_ble_eq_true rfl) (Nat.le_of_ble_eq_true rfl) (Nat.le_of_ble_eq_true rfl) (Nat.le_of_ble_eq_true rfl) d_method_3_24 rfl rfl (pureK ?_)
    show W B h 0 0 M (true, []) 27 #[.val (.ref m), .val (.int iN.toInt32), .val (.ref s)] [(.int ds.length.toInt32)]
    refine W.iconst ok (pc' := 28) (2 : Int32) d_method_3_27 rfl rfl ?_
    refine W.icmplt ok (pcY := 48) (pcN := 31) d_method_3_28 rfl (by decide) rfl (fun c2 => ?_) (fun c2 => ?_)
    · refine W.iconst ok (pc' := 49) (1 : Int32) d_method_3_48 rfl rfl ?_
      exact W.retZ ok d_method_3_49 rfl (Nat.le_of_ble_eq_true rfl) (Nat.le_of_ble_eq_true rfl) (fun x (q : x ∈ M) => q) (fun kp => ⟨rfl, rfl⟩)
    · have l3 : 1 < ds.length := by have q1 := (i32_lt (a := ds.length) (b := 2) (by omega) (by omega)); rcases Nat.lt_or_ge 1 ds.length with q | q; exact q; exact absurd (q1.mpr (by omega)) c2
      obtain ⟨d1, h1⟩ := at_lt l3
      have k1 := hi 1 d1 h1
      refine W.aloadN ok (pc' := 32) d_method_3_31 rfl rfl rfl ?_
      refine W.iloadN ok (pc' := 33) d_method_3_32 rfl rfl ?_
      refine W.iconst ok (pc' := 34) (1 : Int32) d_method_3_33 rfl rfl ?_
      refine W.iadd ok (pc' := 35) d_method_3_34 rfl ?_
      rw [i32_succ]
      refine W.callV ok (rest := []) (cl' := (true, [])) (pc' := 38) (w188 hw) (w189 hw) (w191 hw) (w190 hw) (w6 hw) (w192 hw) (by decide) Xm pd_30 rfl (k_charAt l Z a0 hE m cs (iN + 1) d1 h S k1 (by omega) lm) (fun _ q => (nomatch q)) (fun q => ⟨q, fun _ q => (nomatch q)⟩) rfl rfl (Nat.le_of_ble_eq_true rfl) (Nat.le_of_ble_eq_true rfl) (Nat.le_of_ble_eq_true rfl) (Nat.le_of_ble_eq_true rfl) d_method_3_35 rfl rfl (pureK ?_)
      show W B h 0 0 M (true, []) 38 #[.val (.ref m), .val (.int iN.toInt32), .val (.ref s)] [(.int d1)]
      refine W.aloadN ok (pc' := 39) d_method_3_38 rfl rfl rfl ?_
      refine W.iconst ok (pc' := 40) (1 : Int32) d_method_3_39 rfl rfl ?_
      refine W.callV ok (rest := [(.int d1)]) (cl' := (true, [])) (pc' := 43) (w188 hw) (w189 hw) (w191 hw) (w190 hw) (w6 hw) (w192 hw) (by decide) Xs pd_30 rfl (k_charAt l Z a0 hE s ds 1 d1 h T h1 (by omega) ls) (fun _ q => (nomatch q)) (fun q => ⟨q, fun _ q => (nomatch q)⟩) rfl rfl (Nat.le_of_ble_eq_true rfl) (Nat.le_of_ble_eq_true rfl) (Nat.le_of_ble_eq_true rfl) (Nat.le_of_ble_eq_true rfl) d_method_3_40 rfl rfl (pureK ?_)
      show W B h 0 0 M (true, []) 43 #[.val (.ref m), .val (.int iN.toInt32), .val (.ref s)] [(.int d1), (.int d1)]
      refine W.icmpeq ok (pcY := 48) (pcN := 46) d_method_3_43 rfl (by decide) rfl (fun _ => ?_) (fun q => absurd rfl q)
      refine W.iconst ok (pc' := 49) (1 : Int32) d_method_3_48 rfl rfl ?_
      exact W.retZ ok d_method_3_49 rfl (Nat.le_of_ble_eq_true rfl) (Nat.le_of_ble_eq_true rfl) (fun x (q : x ∈ M) => q) (fun kp => ⟨rfl, rfl⟩)
set_option maxRecDepth 65536 in
set_option maxHeartbeats 4000000 in
theorem k_law (l : Launch) (Z : State) (a0 : Array Value) (hE : Ev Z a0) (p0 p1 p2 : Int32) (h : Heap)  : Con l Z false (⟨"com/example/vestline/vestline/input/MalformedFieldExceptionWithinPinLaw", "law", "(III)Z"⟩ : MethodName) code 13 (some .boolean) ({ frames := 11, cells := 64, slots := 3456, locals := 240 } : Room) [(.int p0), (.int p1), (.int p2)] h [] false (fun M v h' => v = some (.int 1)) := by
  have hw := hE.1
  refine Con.intro (L0 := #[.val (.int p0), .val (.int p1), .val (.int p2), .unset, .unset, .unset, .unset, .unset, .unset, .unset, .unset, .unset, .unset]) (by decide +kernel) (fun m => ef_of rfl) ?_
  intro B M hwsM ok
  refine W.iloadN ok (pc' := 1) at_0 rfl rfl ?_
  refine W.callS ok (rest := []) (cl' := (true, [])) (pc' := 4) (w0 hw) (w1 hw) (w2 hw) (w3 hw) (by decide) pd_31 rfl (k_str l Z a0 hE p0 h) (fun _ q => (nomatch q)) (fun q => ⟨q, fun _ q => (nomatch q)⟩) rfl rfl (Nat.le_of_ble_eq_true rfl) (Nat.le_of_ble_eq_true rfl) (Nat.le_of_ble_eq_true rfl) (Nat.le_of_ble_eq_true rfl) at_1 rfl rfl (oldK fun v h1 hq K2 => ?_)
  obtain ⟨sp, ps, rfl, -, S0, l0, r0⟩ := hq
  show W B h1 6 14 M (true, []) 4 #[.val (.int p0), .val (.int p1), .val (.int p2), .unset, .unset, .unset, .unset, .unset, .unset, .unset, .unset, .unset, .unset] [(.ref sp)]
  refine W.astoreN ok (pc' := 5) (L' := #[.val (.int p0), .val (.int p1), .val (.int p2), .val (.ref sp), .unset, .unset, .unset, .unset, .unset, .unset, .unset, .unset, .unset]) at_4 rfl rfl rfl ?_
  refine W.iloadN ok (pc' := 6) at_5 rfl rfl ?_
  refine W.callS ok (rest := []) (cl' := (true, [])) (pc' := 9) (w0 hw) (w1 hw) (w2 hw) (w3 hw) (by decide) pd_31 rfl (k_str l Z a0 hE p1 h1) (fun _ q => (nomatch q)) (fun q => ⟨q, fun _ q => (nomatch q)⟩) rfl rfl (Nat.le_of_ble_eq_true rfl) (Nat.le_of_ble_eq_true rfl) (Nat.le_of_ble_eq_true rfl) (Nat.le_of_ble_eq_true rfl) at_6 rfl rfl (oldK fun v h3 hq K4 => ?_)
  obtain ⟨sf, fs, rfl, -, S1, l1, r1⟩ := hq
  show W B h3 12 28 M (true, []) 9 #[.val (.int p0), .val (.int p1), .val (.int p2), .val (.ref sp), .unset, .unset, .unset, .unset, .unset, .unset, .unset, .unset, .unset] [(.ref sf)]
  have T5 := S0.ext (ext_keep K4)
  refine W.astore ok (pc' := 11) (L' := #[.val (.int p0), .val (.int p1), .val (.int p2), .val (.ref sp), .val (.ref sf), .unset, .unset, .unset, .unset, .unset, .unset, .unset, .unset]) at_9 rfl rfl rfl ?_
  refine W.iloadN ok (pc' := 12) at_11 rfl rfl ?_
  refine W.callS ok (rest := []) (cl' := (true, [])) (pc' := 15) (w0 hw) (w1 hw) (w2 hw) (w3 hw) (by decide) pd_31 rfl (k_str l Z a0 hE p2 h3) (fun _ q => (nomatch q)) (fun q => ⟨q, fun _ q => (nomatch q)⟩) rfl rfl (Nat.le_of_ble_eq_true rfl) (Nat.le_of_ble_eq_true rfl) (Nat.le_of_ble_eq_true rfl) (Nat.le_of_ble_eq_true rfl) at_12 rfl rfl (oldK fun v h6 hq K7 => ?_)
  obtain ⟨sr, rs, rfl, -, S2, l2, r2⟩ := hq
  show W B h6 18 42 M (true, []) 15 #[.val (.int p0), .val (.int p1), .val (.int p2), .val (.ref sp), .val (.ref sf), .unset, .unset, .unset, .unset, .unset, .unset, .unset, .unset] [(.ref sr)]
  have T8 := T5.ext (ext_keep K7)
  have T9 := S1.ext (ext_keep K7)
  refine W.astore ok (pc' := 17) (L' := #[.val (.int p0), .val (.int p1), .val (.int p2), .val (.ref sp), .val (.ref sf), .val (.ref sr), .unset, .unset, .unset, .unset, .unset, .unset, .unset]) at_15 rfl rfl rfl ?_
  refine W.aloadN ok (pc' := 18) at_17 rfl rfl rfl ?_
  have lat0 : ∀ c ∈ ps, c.toInt ≤ 255 := fun c hc => (r0 c hc).2
  have lat1 : ∀ c ∈ fs, c.toInt ≤ 255 := fun c hc => (r1 c hc).2
  have lat2 : ∀ c ∈ rs, c.toInt ≤ 255 := fun c hc => (r2 c hc).2
  refine W.callV ok (rest := []) (cl' := (true, [])) (pc' := 21) (w26 hw) (w27 hw) (w29 hw) (w28 hw) (w6 hw) (w30 hw) (by decide) T8.exa pd_13 rfl (k_length l Z a0 hE sp ps h6 T8.str (by omega)) (fun _ q => (nomatch q)) (fun q => ⟨q, fun _ q => (nomatch q)⟩) rfl rfl (Nat.le_of_ble_eq_true rfl) (Nat.le_of_ble_eq_true rfl) (Nat.le_of_ble_eq_true rfl) (Nat.le_of_ble_eq_true rfl) at_18 rfl rfl (pureK ?_)
  show W B h6 18 42 M (true, []) 21 #[.val (.int p0), .val (.int p1), .val (.int p2), .val (.ref sp), .val (.ref sf), .val (.ref sr), .unset, .unset, .unset, .unset, .unset, .unset, .unset] [(.int ps.length.toInt32)]
  refine W.istore ok (pc' := 23) (L' := #[.val (.int p0), .val (.int p1), .val (.int p2), .val (.ref sp), .val (.ref sf), .val (.ref sr), .val (.int ps.length.toInt32), .unset, .unset, .unset, .unset, .unset, .unset]) at_21 rfl rfl ?_
  refine W.aload ok (pc' := 25) at_23 rfl rfl rfl ?_
  refine W.callV ok (rest := []) (cl' := (true, [])) (pc' := 28) (w26 hw) (w27 hw) (w29 hw) (w28 hw) (w6 hw) (w30 hw) (by decide) T9.exa pd_13 rfl (k_length l Z a0 hE sf fs h6 T9.str (by omega)) (fun _ q => (nomatch q)) (fun q => ⟨q, fun _ q => (nomatch q)⟩) rfl rfl (Nat.le_of_ble_eq_true rfl) (Nat.le_of_ble_eq_true rfl) (Nat.le_of_ble_eq_true rfl) (Nat.le_of_ble_eq_true rfl) at_25 rfl rfl (pureK ?_)
  show W B h6 18 42 M (true, []) 28 #[.val (.int p0), .val (.int p1), .val (.int p2), .val (.ref sp), .val (.ref sf), .val (.ref sr), .val (.int ps.length.toInt32), .unset, .unset, .unset, .unset, .unset, .unset] [(.int fs.length.toInt32)]
  refine W.istore ok (pc' := 30) (L' := #[.val (.int p0), .val (.int p1), .val (.int p2), .val (.ref sp), .val (.ref sf), .val (.ref sr), .val (.int ps.length.toInt32), .val (.int fs.length.toInt32), .unset, .unset, .unset, .unset, .unset]) at_28 rfl rfl ?_
  refine W.aload ok (pc' := 32) at_30 rfl rfl rfl ?_
  refine W.callV ok (rest := []) (cl' := (true, [])) (pc' := 35) (w26 hw) (w27 hw) (w29 hw) (w28 hw) (w6 hw) (w30 hw) (by decide) S2.exa pd_13 rfl (k_length l Z a0 hE sr rs h6 S2.str (by omega)) (fun _ q => (nomatch q)) (fun q => ⟨q, fun _ q => (nomatch q)⟩) rfl rfl (Nat.le_of_ble_eq_true rfl) (Nat.le_of_ble_eq_true rfl) (Nat.le_of_ble_eq_true rfl) (Nat.le_of_ble_eq_true rfl) at_32 rfl rfl (pureK ?_)
  show W B h6 18 42 M (true, []) 35 #[.val (.int p0), .val (.int p1), .val (.int p2), .val (.ref sp), .val (.ref sf), .val (.ref sr), .val (.int ps.length.toInt32), .val (.int fs.length.toInt32), .unset, .unset, .unset, .unset, .unset] [(.int rs.length.toInt32)]
  refine W.istore ok (pc' := 37) (L' := #[.val (.int p0), .val (.int p1), .val (.int p2), .val (.ref sp), .val (.ref sf), .val (.ref sr), .val (.int ps.length.toInt32), .val (.int fs.length.toInt32), .val (.int rs.length.toInt32), .unset, .unset, .unset, .unset]) at_35 rfl rfl ?_
  refine W.new ok (pc' := 40) (w37 hw) (w38 hw) (w39 hw) at_37 rfl (Nat.le_of_ble_eq_true rfl) (Nat.le_of_ble_eq_true rfl) (fun a10 h11 z12 ea13 E14 X15 D16 U17 => ?_)
  have T18 := T8.cons ea13 E14
  have T19 := T9.cons ea13 E14
  have T20 := S2.cons ea13 E14
  refine W.dup ok (pc' := 41) at_40 rfl rfl ?_
  refine W.aload ok (pc' := 43) at_41 rfl rfl rfl ?_
  refine W.aload ok (pc' := 45) at_43 rfl rfl rfl ?_
  refine W.callI ok (rest := [(.ref a10)]) (cl' := (true, [])) (pc' := 48) rfl (w40 hw) (w41 hw) (w39 hw) (w42 hw) (by decide) pd_27 rfl (k_mf l Z a0 hE a10 sf sr fs rs h11 X15 (D16 (Or.inl (w158 hw)) (ty := (.object "java/lang/Throwable")) (by decide)) (D16 (Or.inl (w161 hw)) (ty := (.array (.object "java/lang/StackTraceElement"))) (by decide)) (D16 (Or.inl (w164 hw)) (ty := (.object "java/util/List")) (by decide)) (D16 (Or.inl (w166 hw)) (ty := (.object "java/lang/String")) (by decide)) (D16 (Or.inr (w168 hw)) (ty := (.object "java/lang/String")) (by decide)) (D16 (Or.inr (w170 hw)) (ty := (.object "java/lang/String")) (by decide)) T19.str T20.str lat1 lat2 (by omega) (by omega)) (fun w q => by simp only [List.mem_cons, List.not_mem_nil, or_false] at q; subst q; exact ⟨(List.mem_cons_self ..), (Or.inr z12)⟩) (fun q => ⟨q, fun w q => by simp only [List.mem_cons, List.not_mem_nil, or_false] at q; subst q; exact z12⟩) rfl rfl (Nat.le_of_ble_eq_true rfl) (Nat.le_of_ble_eq_true rfl) (Nat.le_of_ble_eq_true rfl) (Nat.le_of_ble_eq_true rfl) at_45 rfl rfl (oldK fun v h21 hq K22 => ?_)
  obtain ⟨rfl, m1, g1, g2, g3, Sm⟩ := hq
  show W B h21 25 102 (a10 :: M) (true, []) 48 #[.val (.int p0), .val (.int p1), .val (.int p2), .val (.ref sp), .val (.ref sf), .val (.ref sr), .val (.int ps.length.toInt32), .val (.int fs.length.toInt32), .val (.int rs.length.toInt32), .unset, .unset, .unset, .unset] [(.ref a10)]
  have T23 := T18.keep K22 (fun w q => by rw [List.mem_singleton.mp q]; exact (List.mem_cons_self ..))
  have T24 := T19.keep K22 (fun w q => by rw [List.mem_singleton.mp q]; exact (List.mem_cons_self ..))
  have T25 := T20.keep K22 (fun w q => by rw [List.mem_singleton.mp q]; exact (List.mem_cons_self ..))
  have Xy := X15.keep K22
  refine W.astore ok (pc' := 50) (L' := #[.val (.int p0), .val (.int p1), .val (.int p2), .val (.ref sp), .val (.ref sf), .val (.ref sr), .val (.int ps.length.toInt32), .val (.int fs.length.toInt32), .val (.int rs.length.toInt32), .val (.ref a10), .unset, .unset, .unset]) at_48 rfl rfl rfl ?_
  refine W.aload ok (pc' := 52) at_50 rfl rfl rfl ?_
  refine W.aloadN ok (pc' := 53) at_52 rfl rfl rfl ?_
  refine W.callV ok (rest := []) (cl' := (true, [])) (pc' := 56) (w171 hw) (w172 hw) (w174 hw) (w173 hw) (w39 hw) (w175 hw) (by decide) Xy pd_32 rfl (k_within l Z a0 hE a10 sp sf sr ps fs rs h21 g1 g2 T23.str T24.str T25.str lat0 lat1 lat2 (by omega) (by omega) (by omega)) (fun _ q => (nomatch q)) (fun q => ⟨q, fun _ q => (nomatch q)⟩) rfl rfl (Nat.le_of_ble_eq_true rfl) (Nat.le_of_ble_eq_true rfl) (Nat.le_of_ble_eq_true rfl) (Nat.le_of_ble_eq_true rfl) at_53 rfl rfl (oldK fun v h26 hq K27 => ?_)
  obtain ⟨z, m2, rfl, Xz, gz, Sn⟩ := hq
  show W B h26 38 210 (a10 :: M) (true, []) 56 #[.val (.int p0), .val (.int p1), .val (.int p2), .val (.ref sp), .val (.ref sf), .val (.ref sr), .val (.int ps.length.toInt32), .val (.int fs.length.toInt32), .val (.int rs.length.toInt32), .val (.ref a10), .unset, .unset, .unset] [(.ref z)]
  have T28 := T23.ext (ext_keep K27)
  have T29 := T24.ext (ext_keep K27)
  have T30 := T25.ext (ext_keep K27)
  have Sm' := Sm.ext (ext_keep K27)
  have g3' := g3.ext (ext_keep K27)
  have Xy' := Xy.ext (ext_keep K27)
  have latm : ∀ c ∈ (fs ++ [58, 32] ++ rs), c.toInt ≤ 255 := by
    intro c hc
    rcases List.mem_append.mp hc with hc | hc
    · rcases List.mem_append.mp hc with hc | hc
      · exact lat1 c hc
      · exact (by decide : ∀ c ∈ ([58, 32] : List Int32), c.toInt ≤ 255) c hc
    · exact lat2 c hc
  have latn : ∀ c ∈ ((ps ++ [46] ++ fs) ++ [58, 32] ++ rs), c.toInt ≤ 255 := by
    intro c hc
    rcases List.mem_append.mp hc with hc | hc
    · rcases List.mem_append.mp hc with hc | hc
      · rcases List.mem_append.mp hc with hc | hc
        · rcases List.mem_append.mp hc with hc | hc
          · exact lat0 c hc
          · exact (by decide : ∀ c ∈ ([46] : List Int32), c.toInt ≤ 255) c hc
        · exact lat1 c hc
      · exact (by decide : ∀ c ∈ ([58, 32] : List Int32), c.toInt ≤ 255) c hc
    · exact lat2 c hc
  have len1 : (fs ++ [58, 32] ++ rs).length = fs.length + 2 + rs.length := by simp; try omega
  have len2 : ((ps ++ [46] ++ fs) ++ [58, 32] ++ rs).length = ps.length + 1 + fs.length + 2 + rs.length := by simp; try omega
  refine W.astore ok (pc' := 58) (L' := #[.val (.int p0), .val (.int p1), .val (.int p2), .val (.ref sp), .val (.ref sf), .val (.ref sr), .val (.int ps.length.toInt32), .val (.int fs.length.toInt32), .val (.int rs.length.toInt32), .val (.ref a10), .val (.ref z), .unset, .unset]) at_56 rfl rfl rfl ?_
  refine W.aload ok (pc' := 60) at_58 rfl rfl rfl ?_
  refine W.ifnonnull ok (pcY := 65) (pcN := 63) at_60 rfl rfl (by decide) rfl (fun q => absurd q (fun e => by cases e)) (fun _ => ?_)
  refine W.aload ok (pc' := 67) at_65 rfl rfl rfl ?_
  refine W.callX ok (rest := []) (cl' := (true, [])) (pc' := 70) (w179 hw) (w180 hw) (w181 hw) (by decide) (w183 hw) (w182 hw) (w154 hw) (w184 hw) Xz pd_26 rfl (k_msg l Z a0 hE z m2 h26 gz) (fun _ q => (nomatch q)) (fun q => ⟨q, fun _ q => (nomatch q)⟩) rfl rfl (Nat.le_of_ble_eq_true rfl) (Nat.le_of_ble_eq_true rfl) (Nat.le_of_ble_eq_true rfl) (Nat.le_of_ble_eq_true rfl) at_67 rfl rfl (pureK ?_)
  show W B h26 38 210 (a10 :: M) (true, []) 70 #[.val (.int p0), .val (.int p1), .val (.int p2), .val (.ref sp), .val (.ref sf), .val (.ref sr), .val (.int ps.length.toInt32), .val (.int fs.length.toInt32), .val (.int rs.length.toInt32), .val (.ref a10), .val (.ref z), .unset, .unset] [(.ref m2)]
  refine W.astore ok (pc' := 72) (L' := #[.val (.int p0), .val (.int p1), .val (.int p2), .val (.ref sp), .val (.ref sf), .val (.ref sr), .val (.int ps.length.toInt32), .val (.int fs.length.toInt32), .val (.int rs.length.toInt32), .val (.ref a10), .val (.ref z), .val (.ref m2), .unset]) at_70 rfl rfl rfl ?_
  refine W.aload ok (pc' := 74) at_72 rfl rfl rfl ?_
  refine W.ifnull ok (pcY := 97) (pcN := 77) at_74 rfl rfl (by decide) rfl (fun q => absurd q (fun e => by cases e)) (fun _ => ?_)
  refine W.aload ok (pc' := 79) at_77 rfl rfl rfl ?_
  refine W.callV ok (rest := []) (cl' := (true, [])) (pc' := 82) (w26 hw) (w27 hw) (w29 hw) (w28 hw) (w6 hw) (w30 hw) (by decide) Sn.exa pd_13 rfl (k_length l Z a0 hE m2 ((ps ++ [46] ++ fs) ++ [58, 32] ++ rs) h26 Sn.str (by omega)) (fun _ q => (nomatch q)) (fun q => ⟨q, fun _ q => (nomatch q)⟩) rfl rfl (Nat.le_of_ble_eq_true rfl) (Nat.le_of_ble_eq_true rfl) (Nat.le_of_ble_eq_true rfl) (Nat.le_of_ble_eq_true rfl) at_79 rfl rfl (pureK ?_)
  show W B h26 38 210 (a10 :: M) (true, []) 82 #[.val (.int p0), .val (.int p1), .val (.int p2), .val (.ref sp), .val (.ref sf), .val (.ref sr), .val (.int ps.length.toInt32), .val (.int fs.length.toInt32), .val (.int rs.length.toInt32), .val (.ref a10), .val (.ref z), .val (.ref m2), .unset] [(.int (((ps ++ [46] ++ fs) ++ [58, 32] ++ rs).length.toInt32))]
  refine W.iload ok (pc' := 84) at_82 rfl rfl ?_
  refine W.iconst ok (pc' := 85) (1 : Int32) at_84 rfl rfl ?_
  refine W.iadd ok (pc' := 86) at_85 rfl ?_
  refine W.iload ok (pc' := 88) at_86 rfl rfl ?_
  refine W.iadd ok (pc' := 89) at_88 rfl ?_
  refine W.iconst ok (pc' := 90) (2 : Int32) at_89 rfl rfl ?_
  refine W.iadd ok (pc' := 91) at_90 rfl ?_
  refine W.iload ok (pc' := 93) at_91 rfl rfl ?_
  refine W.iadd ok (pc' := 94) at_93 rfl ?_
  refine W.icmpeq ok (pcY := 99) (pcN := 97) at_94 rfl (by decide) rfl (fun _ => ?_) (fun q => absurd (by rw [len2, i32_succ, i32_add, i32_add2, i32_add]) q)
  refine W.aload ok (pc' := 101) at_99 rfl rfl rfl ?_
  refine W.iconst ok (pc' := 102) (0 : Int32) at_101 rfl rfl ?_
  refine W.aloadN ok (pc' := 103) at_102 rfl rfl rfl ?_
  refine W.callS ok (rest := []) (cl' := (true, [])) (pc' := 106) (w185 hw) (w186 hw) (w2 hw) (w187 hw) (by decide) pd_33 rfl (k_at l Z a0 hE m2 sp ((ps ++ [46] ++ fs) ++ [58, 32] ++ rs) ps 0 h26 Sn.str T28.str latn lat0 (by omega) (by omega) (at_mid (A := []) (D := ([46] ++ fs ++ [58, 32] ++ rs)) (by simp) (by simp; try omega))) (fun _ q => (nomatch q)) (fun q => ⟨q, fun _ q => (nomatch q)⟩) rfl rfl (Nat.le_of_ble_eq_true rfl) (Nat.le_of_ble_eq_true rfl) (Nat.le_of_ble_eq_true rfl) (Nat.le_of_ble_eq_true rfl) at_103 rfl rfl (pureK ?_)
  show W B h26 38 210 (a10 :: M) (true, []) 106 #[.val (.int p0), .val (.int p1), .val (.int p2), .val (.ref sp), .val (.ref sf), .val (.ref sr), .val (.int ps.length.toInt32), .val (.int fs.length.toInt32), .val (.int rs.length.toInt32), .val (.ref a10), .val (.ref z), .val (.ref m2), .unset] [(.int (1 : Int32))]
  refine W.ifne ok (pcY := 111) (pcN := 109) at_106 rfl (by decide) rfl (fun q => absurd q (by decide)) (fun _ => ?_)
  refine W.aload ok (pc' := 113) at_111 rfl rfl rfl ?_
  refine W.iload ok (pc' := 115) at_113 rfl rfl ?_
  refine W.callV ok (rest := []) (cl' := (true, [])) (pc' := 118) (w188 hw) (w189 hw) (w191 hw) (w190 hw) (w6 hw) (w192 hw) (by decide) Sn.exa pd_30 rfl (k_charAt l Z a0 hE m2 ((ps ++ [46] ++ fs) ++ [58, 32] ++ rs) ps.length 46 h26 Sn.str (at_mid (A := ps) (B := [46]) (D := (fs ++ [58, 32] ++ rs)) (by simp) (by simp; try omega) 0 46 rfl) (by omega) latn) (fun _ q => (nomatch q)) (fun q => ⟨q, fun _ q => (nomatch q)⟩) rfl rfl (Nat.le_of_ble_eq_true rfl) (Nat.le_of_ble_eq_true rfl) (Nat.le_of_ble_eq_true rfl) (Nat.le_of_ble_eq_true rfl) at_115 rfl rfl (pureK ?_)
  show W B h26 38 210 (a10 :: M) (true, []) 118 #[.val (.int p0), .val (.int p1), .val (.int p2), .val (.ref sp), .val (.ref sf), .val (.ref sr), .val (.int ps.length.toInt32), .val (.int fs.length.toInt32), .val (.int rs.length.toInt32), .val (.ref a10), .val (.ref z), .val (.ref m2), .unset] [(.int (46 : Int32))]
  refine W.bipush ok (pc' := 120) (46 : Int32) at_118 rfl rfl ?_
  refine W.icmpeq ok (pcY := 125) (pcN := 123) at_120 rfl (by decide) rfl (fun _ => ?_) (fun q => absurd rfl q)
  refine W.aload ok (pc' := 127) at_125 rfl rfl rfl ?_
  refine W.iload ok (pc' := 129) at_127 rfl rfl ?_
  refine W.iconst ok (pc' := 130) (1 : Int32) at_129 rfl rfl ?_
  refine W.iadd ok (pc' := 131) at_130 rfl ?_
  rw [i32_succ]
  refine W.aload ok (pc' := 133) at_131 rfl rfl rfl ?_
  refine W.callS ok (rest := []) (cl' := (true, [])) (pc' := 136) (w185 hw) (w186 hw) (w2 hw) (w187 hw) (by decide) pd_33 rfl (k_at l Z a0 hE m2 sf ((ps ++ [46] ++ fs) ++ [58, 32] ++ rs) fs (ps.length + 1) h26 Sn.str T29.str latn lat1 (by omega) (by omega) (at_mid (A := (ps ++ [46])) (D := ([58, 32] ++ rs)) (by simp) (by simp; try omega))) (fun _ q => (nomatch q)) (fun q => ⟨q, fun _ q => (nomatch q)⟩) rfl rfl (Nat.le_of_ble_eq_true rfl) (Nat.le_of_ble_eq_true rfl) (Nat.le_of_ble_eq_true rfl) (Nat.le_of_ble_eq_true rfl) at_133 rfl rfl (pureK ?_)
  show W B h26 38 210 (a10 :: M) (true, []) 136 #[.val (.int p0), .val (.int p1), .val (.int p2), .val (.ref sp), .val (.ref sf), .val (.ref sr), .val (.int ps.length.toInt32), .val (.int fs.length.toInt32), .val (.int rs.length.toInt32), .val (.ref a10), .val (.ref z), .val (.ref m2), .unset] [(.int (1 : Int32))]
  refine W.ifne ok (pcY := 141) (pcN := 139) at_136 rfl (by decide) rfl (fun q => absurd q (by decide)) (fun _ => ?_)
  refine W.aload ok (pc' := 143) at_141 rfl rfl rfl ?_
  refine W.iload ok (pc' := 145) at_143 rfl rfl ?_
  refine W.iconst ok (pc' := 146) (1 : Int32) at_145 rfl rfl ?_
  refine W.iadd ok (pc' := 147) at_146 rfl ?_
  refine W.iload ok (pc' := 149) at_147 rfl rfl ?_
  refine W.iadd ok (pc' := 150) at_149 rfl ?_
  rw [i32_succ, i32_add]
  refine W.callV ok (rest := []) (cl' := (true, [])) (pc' := 153) (w188 hw) (w189 hw) (w191 hw) (w190 hw) (w6 hw) (w192 hw) (by decide) Sn.exa pd_30 rfl (k_charAt l Z a0 hE m2 ((ps ++ [46] ++ fs) ++ [58, 32] ++ rs) (ps.length + 1 + fs.length) 58 h26 Sn.str (at_mid (A := (ps ++ [46] ++ fs)) (B := [58]) (D := ([32] ++ rs)) (by simp) (by simp; try omega) 0 58 rfl) (by omega) latn) (fun _ q => (nomatch q)) (fun q => ⟨q, fun _ q => (nomatch q)⟩) rfl rfl (Nat.le_of_ble_eq_true rfl) (Nat.le_of_ble_eq_true rfl) (Nat.le_of_ble_eq_true rfl) (Nat.le_of_ble_eq_true rfl) at_150 rfl rfl (pureK ?_)
  show W B h26 38 210 (a10 :: M) (true, []) 153 #[.val (.int p0), .val (.int p1), .val (.int p2), .val (.ref sp), .val (.ref sf), .val (.ref sr), .val (.int ps.length.toInt32), .val (.int fs.length.toInt32), .val (.int rs.length.toInt32), .val (.ref a10), .val (.ref z), .val (.ref m2), .unset] [(.int (58 : Int32))]
  refine W.bipush ok (pc' := 155) (58 : Int32) at_153 rfl rfl ?_
  refine W.icmpne ok (pcY := 175) (pcN := 158) at_155 rfl (by decide) rfl (fun _ => ?_) (fun q => absurd rfl q)
  refine W.aload ok (pc' := 160) at_158 rfl rfl rfl ?_
  refine W.iload ok (pc' := 162) at_160 rfl rfl ?_
  refine W.iconst ok (pc' := 163) (2 : Int32) at_162 rfl rfl ?_
  refine W.iadd ok (pc' := 164) at_163 rfl ?_
  refine W.iload ok (pc' := 166) at_164 rfl rfl ?_
  refine W.iadd ok (pc' := 167) at_166 rfl ?_
  rw [i32_add2, i32_add]
  refine W.callV ok (rest := []) (cl' := (true, [])) (pc' := 170) (w188 hw) (w189 hw) (w191 hw) (w190 hw) (w6 hw) (w192 hw) (by decide) Sn.exa pd_30 rfl (k_charAt l Z a0 hE m2 ((ps ++ [46] ++ fs) ++ [58, 32] ++ rs) (ps.length + 2 + fs.length) 32 h26 Sn.str (at_mid (A := (ps ++ [46] ++ fs ++ [58])) (B := [32]) (D := rs) (by simp) (by simp; try omega) 0 32 rfl) (by omega) latn) (fun _ q => (nomatch q)) (fun q => ⟨q, fun _ q => (nomatch q)⟩) rfl rfl (Nat.le_of_ble_eq_true rfl) (Nat.le_of_ble_eq_true rfl) (Nat.le_of_ble_eq_true rfl) (Nat.le_of_ble_eq_true rfl) at_167 rfl rfl (pureK ?_)
  show W B h26 38 210 (a10 :: M) (true, []) 170 #[.val (.int p0), .val (.int p1), .val (.int p2), .val (.ref sp), .val (.ref sf), .val (.ref sr), .val (.int ps.length.toInt32), .val (.int fs.length.toInt32), .val (.int rs.length.toInt32), .val (.ref a10), .val (.ref z), .val (.ref m2), .unset] [(.int (32 : Int32))]
  refine W.bipush ok (pc' := 172) (32 : Int32) at_170 rfl rfl ?_
  refine W.icmpeq ok (pcY := 177) (pcN := 175) at_172 rfl (by decide) rfl (fun _ => ?_) (fun q => absurd rfl q)
  refine W.aload ok (pc' := 179) at_177 rfl rfl rfl ?_
  refine W.iload ok (pc' := 181) at_179 rfl rfl ?_
  refine W.iconst ok (pc' := 182) (3 : Int32) at_181 rfl rfl ?_
  refine W.iadd ok (pc' := 183) at_182 rfl ?_
  refine W.iload ok (pc' := 185) at_183 rfl rfl ?_
  refine W.iadd ok (pc' := 186) at_185 rfl ?_
  rw [i32_add3, i32_add]
  refine W.aload ok (pc' := 188) at_186 rfl rfl rfl ?_
  refine W.callS ok (rest := []) (cl' := (true, [])) (pc' := 191) (w185 hw) (w186 hw) (w2 hw) (w187 hw) (by decide) pd_33 rfl (k_at l Z a0 hE m2 sr ((ps ++ [46] ++ fs) ++ [58, 32] ++ rs) rs (ps.length + 3 + fs.length) h26 Sn.str T30.str latn lat2 (by omega) (by omega) (at_mid (A := (ps ++ [46] ++ fs ++ [58, 32])) (D := []) (by simp) (by simp; try omega))) (fun _ q => (nomatch q)) (fun q => ⟨q, fun _ q => (nomatch q)⟩) rfl rfl (Nat.le_of_ble_eq_true rfl) (Nat.le_of_ble_eq_true rfl) (Nat.le_of_ble_eq_true rfl) (Nat.le_of_ble_eq_true rfl) at_188 rfl rfl (pureK ?_)
  show W B h26 38 210 (a10 :: M) (true, []) 191 #[.val (.int p0), .val (.int p1), .val (.int p2), .val (.ref sp), .val (.ref sf), .val (.ref sr), .val (.int ps.length.toInt32), .val (.int fs.length.toInt32), .val (.int rs.length.toInt32), .val (.ref a10), .val (.ref z), .val (.ref m2), .unset] [(.int (1 : Int32))]
  refine W.ifne ok (pcY := 196) (pcN := 194) at_191 rfl (by decide) rfl (fun q => absurd q (by decide)) (fun _ => ?_)
  refine W.aload ok (pc' := 198) at_196 rfl rfl rfl ?_
  refine W.callX ok (rest := []) (cl' := (true, [])) (pc' := 201) (w179 hw) (w180 hw) (w181 hw) (by decide) (w183 hw) (w182 hw) (w154 hw) (w184 hw) Xy' pd_26 rfl (k_msg l Z a0 hE a10 m1 h26 g3') (fun _ q => (nomatch q)) (fun q => ⟨q, fun _ q => (nomatch q)⟩) rfl rfl (Nat.le_of_ble_eq_true rfl) (Nat.le_of_ble_eq_true rfl) (Nat.le_of_ble_eq_true rfl) (Nat.le_of_ble_eq_true rfl) at_198 rfl rfl (pureK ?_)
  show W B h26 38 210 (a10 :: M) (true, []) 201 #[.val (.int p0), .val (.int p1), .val (.int p2), .val (.ref sp), .val (.ref sf), .val (.ref sr), .val (.int ps.length.toInt32), .val (.int fs.length.toInt32), .val (.int rs.length.toInt32), .val (.ref a10), .val (.ref z), .val (.ref m2), .unset] [(.ref m1)]
  refine W.astore ok (pc' := 203) (L' := #[.val (.int p0), .val (.int p1), .val (.int p2), .val (.ref sp), .val (.ref sf), .val (.ref sr), .val (.int ps.length.toInt32), .val (.int fs.length.toInt32), .val (.int rs.length.toInt32), .val (.ref a10), .val (.ref z), .val (.ref m2), .val (.ref m1)]) at_201 rfl rfl rfl ?_
  refine W.aload ok (pc' := 205) at_203 rfl rfl rfl ?_
  refine W.ifnull ok (pcY := 223) (pcN := 208) at_205 rfl rfl (by decide) rfl (fun q => absurd q (fun e => by cases e)) (fun _ => ?_)
  refine W.aload ok (pc' := 210) at_208 rfl rfl rfl ?_
  refine W.callV ok (rest := []) (cl' := (true, [])) (pc' := 213) (w26 hw) (w27 hw) (w29 hw) (w28 hw) (w6 hw) (w30 hw) (by decide) Sm'.exa pd_13 rfl (k_length l Z a0 hE m1 (fs ++ [58, 32] ++ rs) h26 Sm'.str (by omega)) (fun _ q => (nomatch q)) (fun q => ⟨q, fun _ q => (nomatch q)⟩) rfl rfl (Nat.le_of_ble_eq_true rfl) (Nat.le_of_ble_eq_true rfl) (Nat.le_of_ble_eq_true rfl) (Nat.le_of_ble_eq_true rfl) at_210 rfl rfl (pureK ?_)
  show W B h26 38 210 (a10 :: M) (true, []) 213 #[.val (.int p0), .val (.int p1), .val (.int p2), .val (.ref sp), .val (.ref sf), .val (.ref sr), .val (.int ps.length.toInt32), .val (.int fs.length.toInt32), .val (.int rs.length.toInt32), .val (.ref a10), .val (.ref z), .val (.ref m2), .val (.ref m1)] [(.int ((fs ++ [58, 32] ++ rs).length.toInt32))]
  refine W.iload ok (pc' := 215) at_213 rfl rfl ?_
  refine W.iconst ok (pc' := 216) (2 : Int32) at_215 rfl rfl ?_
  refine W.iadd ok (pc' := 217) at_216 rfl ?_
  refine W.iload ok (pc' := 219) at_217 rfl rfl ?_
  refine W.iadd ok (pc' := 220) at_219 rfl ?_
  refine W.icmpeq ok (pcY := 225) (pcN := 223) at_220 rfl (by decide) rfl (fun _ => ?_) (fun q => absurd (by rw [len1, i32_add2, i32_add]) q)
  refine W.aload ok (pc' := 227) at_225 rfl rfl rfl ?_
  refine W.iconst ok (pc' := 228) (0 : Int32) at_227 rfl rfl ?_
  refine W.aload ok (pc' := 230) at_228 rfl rfl rfl ?_
  refine W.callS ok (rest := []) (cl' := (true, [])) (pc' := 233) (w185 hw) (w186 hw) (w2 hw) (w187 hw) (by decide) pd_33 rfl (k_at l Z a0 hE m1 sf (fs ++ [58, 32] ++ rs) fs 0 h26 Sm'.str T29.str latm lat1 (by omega) (by omega) (at_mid (A := []) (D := ([58, 32] ++ rs)) (by simp) (by simp; try omega))) (fun _ q => (nomatch q)) (fun q => ⟨q, fun _ q => (nomatch q)⟩) rfl rfl (Nat.le_of_ble_eq_true rfl) (Nat.le_of_ble_eq_true rfl) (Nat.le_of_ble_eq_true rfl) (Nat.le_of_ble_eq_true rfl) at_230 rfl rfl (pureK ?_)
  show W B h26 38 210 (a10 :: M) (true, []) 233 #[.val (.int p0), .val (.int p1), .val (.int p2), .val (.ref sp), .val (.ref sf), .val (.ref sr), .val (.int ps.length.toInt32), .val (.int fs.length.toInt32), .val (.int rs.length.toInt32), .val (.ref a10), .val (.ref z), .val (.ref m2), .val (.ref m1)] [(.int (1 : Int32))]
  refine W.ifne ok (pcY := 238) (pcN := 236) at_233 rfl (by decide) rfl (fun q => absurd q (by decide)) (fun _ => ?_)
  refine W.aload ok (pc' := 240) at_238 rfl rfl rfl ?_
  refine W.iload ok (pc' := 242) at_240 rfl rfl ?_
  refine W.callV ok (rest := []) (cl' := (true, [])) (pc' := 245) (w188 hw) (w189 hw) (w191 hw) (w190 hw) (w6 hw) (w192 hw) (by decide) Sm'.exa pd_30 rfl (k_charAt l Z a0 hE m1 (fs ++ [58, 32] ++ rs) fs.length 58 h26 Sm'.str (at_mid (A := fs) (B := [58]) (D := ([32] ++ rs)) (by simp) (by simp; try omega) 0 58 rfl) (by omega) latm) (fun _ q => (nomatch q)) (fun q => ⟨q, fun _ q => (nomatch q)⟩) rfl rfl (Nat.le_of_ble_eq_true rfl) (Nat.le_of_ble_eq_true rfl) (Nat.le_of_ble_eq_true rfl) (Nat.le_of_ble_eq_true rfl) at_242 rfl rfl (pureK ?_)
  show W B h26 38 210 (a10 :: M) (true, []) 245 #[.val (.int p0), .val (.int p1), .val (.int p2), .val (.ref sp), .val (.ref sf), .val (.ref sr), .val (.int ps.length.toInt32), .val (.int fs.length.toInt32), .val (.int rs.length.toInt32), .val (.ref a10), .val (.ref z), .val (.ref m2), .val (.ref m1)] [(.int (58 : Int32))]
  refine W.bipush ok (pc' := 247) (58 : Int32) at_245 rfl rfl ?_
  refine W.icmpne ok (pcY := 264) (pcN := 250) at_247 rfl (by decide) rfl (fun _ => ?_) (fun q => absurd rfl q)
  refine W.aload ok (pc' := 252) at_250 rfl rfl rfl ?_
  refine W.iload ok (pc' := 254) at_252 rfl rfl ?_
  refine W.iconst ok (pc' := 255) (1 : Int32) at_254 rfl rfl ?_
  refine W.iadd ok (pc' := 256) at_255 rfl ?_
  rw [i32_succ]
  refine W.callV ok (rest := []) (cl' := (true, [])) (pc' := 259) (w188 hw) (w189 hw) (w191 hw) (w190 hw) (w6 hw) (w192 hw) (by decide) Sm'.exa pd_30 rfl (k_charAt l Z a0 hE m1 (fs ++ [58, 32] ++ rs) (fs.length + 1) 32 h26 Sm'.str (at_mid (A := (fs ++ [58])) (B := [32]) (D := rs) (by simp) (by simp; try omega) 0 32 rfl) (by omega) latm) (fun _ q => (nomatch q)) (fun q => ⟨q, fun _ q => (nomatch q)⟩) rfl rfl (Nat.le_of_ble_eq_true rfl) (Nat.le_of_ble_eq_true rfl) (Nat.le_of_ble_eq_true rfl) (Nat.le_of_ble_eq_true rfl) at_256 rfl rfl (pureK ?_)
  show W B h26 38 210 (a10 :: M) (true, []) 259 #[.val (.int p0), .val (.int p1), .val (.int p2), .val (.ref sp), .val (.ref sf), .val (.ref sr), .val (.int ps.length.toInt32), .val (.int fs.length.toInt32), .val (.int rs.length.toInt32), .val (.ref a10), .val (.ref z), .val (.ref m2), .val (.ref m1)] [(.int (32 : Int32))]
  refine W.bipush ok (pc' := 261) (32 : Int32) at_259 rfl rfl ?_
  refine W.icmpeq ok (pcY := 266) (pcN := 264) at_261 rfl (by decide) rfl (fun _ => ?_) (fun q => absurd rfl q)
  refine W.aload ok (pc' := 268) at_266 rfl rfl rfl ?_
  refine W.iload ok (pc' := 270) at_268 rfl rfl ?_
  refine W.iconst ok (pc' := 271) (2 : Int32) at_270 rfl rfl ?_
  refine W.iadd ok (pc' := 272) at_271 rfl ?_
  rw [i32_add2]
  refine W.aload ok (pc' := 274) at_272 rfl rfl rfl ?_
  refine W.callS ok (rest := []) (cl' := (true, [])) (pc' := 277) (w185 hw) (w186 hw) (w2 hw) (w187 hw) (by decide) pd_33 rfl (k_at l Z a0 hE m1 sr (fs ++ [58, 32] ++ rs) rs (fs.length + 2) h26 Sm'.str T30.str latm lat2 (by omega) (by omega) (at_mid (A := (fs ++ [58, 32])) (D := []) (by simp) (by simp; try omega))) (fun _ q => (nomatch q)) (fun q => ⟨q, fun _ q => (nomatch q)⟩) rfl rfl (Nat.le_of_ble_eq_true rfl) (Nat.le_of_ble_eq_true rfl) (Nat.le_of_ble_eq_true rfl) (Nat.le_of_ble_eq_true rfl) at_274 rfl rfl (pureK ?_)
  show W B h26 38 210 (a10 :: M) (true, []) 277 #[.val (.int p0), .val (.int p1), .val (.int p2), .val (.ref sp), .val (.ref sf), .val (.ref sr), .val (.int ps.length.toInt32), .val (.int fs.length.toInt32), .val (.int rs.length.toInt32), .val (.ref a10), .val (.ref z), .val (.ref m2), .val (.ref m1)] [(.int (1 : Int32))]
  exact W.retZ ok at_277 rfl (Nat.le_of_ble_eq_true rfl) (Nat.le_of_ble_eq_true rfl) (fun x (q : x ∈ M) => (List.mem_cons_of_mem _ q)) (fun kp => rfl)
set_option maxRecDepth 65536 in
set_option maxHeartbeats 4000000 in
theorem comes_1 {Post : Tables → Env → Array Value → State → Outcome → State → Prop} (hpost : ∀ tb e args s v u, (limb_1_1.after args s (.returned v) u = true ∧ limb_1_2.after args s (.returned v) u = true ∧ True) → ReturnedEndW s (.returned v) u (Jvm.fieldLocs frame_1_writes args s ++ Jvm.arrayLocs frame_1_arrays args s ++ Jvm.staticLocs frame_1_statics s) 64 3456 → Post tb e args s (.returned v) u) :
    ArmFor flags0 classFile x code maxLocals ret World_1 tables_1 room_1 Calls_1 rest_1 Pre_1 Post := by
  intro l hfl _ _ p e ha hc hk s m args below hf hA hF happ hP
  obtain ⟨hcalls, hrest, hpre⟩ := hP
  obtain ⟨-, -, -, hnamed, -, -, -, hat⟩ := (Spec.applies_iff hf).mp happ
  obtain ⟨hg, hn⟩ := and_e (Cond.before_iff.mp (show (Jvm.Cond.and given_1 narrow_1).before args s = true from hpre))
  obtain ⟨h1, g0⟩ := and_e hg
  obtain ⟨q0, g1⟩ := and_e g0
  obtain ⟨q1, g2⟩ := and_e g1
  obtain ⟨w0_, w1_, w2_, rfl⟩ : ∃ w0_ w1_ w2_ : Value, args = #[w0_, w1_, w2_] := by
    have hs : args.size = 3 := by simpa [Cond.value, given_1] using h1
    obtain ⟨L⟩ := args
    match L, hs with
    | [w0_, w1_, w2_], _ => exact ⟨w0_, w1_, w2_, rfl⟩
  have hw := fun d (hd : d ∈ tables_1) => atoms_spec (ws := Jvm.Cond.code x code maxLocals ret :: tables_1) hat d (List.mem_cons_of_mem _ hd)
  have hfit : Fit s := fun {y c} hc i hi => by
    obtain ⟨ha, rfl⟩ := Array.getElem?_eq_some_iff.mp hc
    have q := List.all_eq_true.mp ((Array.all_eq_true_iff_forall_mem.mp hF) _ (Array.getElem_mem ha)) i (List.mem_range.mpr hi)
    simpa [Array.getElem?_eq_getElem hi] using q
  obtain ⟨p0, e0_⟩ := is_v q0
  obtain rfl : w0_ = (.int p0) := Option.some.inj e0_
  obtain ⟨p1, e1_⟩ := is_v q1
  obtain rfl : w1_ = (.int p1) := Option.some.inj e1_
  obtain ⟨p2, e2_⟩ := is_v g2
  obtain rfl : w2_ = (.int p2) := Option.some.inj e2_
  obtain ⟨hsets, hown0⟩ := atoms_of _ (rest_1_c_eq ▸ (show rest_1_c.before _ s = true from hrest))
  have nC := not_v (Cond.before_iff.mp (hsets _ (List.mem_of_getElem? (i := 2) rfl)))
  obtain ⟨gC, eC⟩ := is_v (Cond.before_iff.mp (hsets _ (List.mem_of_getElem? (i := 1) rfl)))
  have sC : Sta s s.heap "java/lang/String" "COMPACT_STRINGS" "Z" (.int gC) := Sta.start eC (Or.inl (hsets _ (List.mem_of_getElem? (i := 0) rfl)))
  have cC : ¬ (gC = (0 : Int32)) := gotF (Cond.eq_ints eC (Term.int_eval (0))) nC
  obtain ⟨gF, eF, rF⟩ := isR_v (Cond.before_iff.mp (hsets _ (List.mem_of_getElem? (i := 8) rfl)))
  have sF : Sta s s.heap "jdk/internal/util/Preconditions" "SIOOBE_FORMATTER" "Ljava/util/function/BiFunction;" gF := Sta.start eF (Or.inl (hsets _ (List.mem_of_getElem? (i := 7) rfl)))
  obtain ⟨x_us, e_us, r_us⟩ := isR_v (Cond.before_iff.mp (hsets _ (List.mem_of_getElem? (i := 16) rfl)))
  have m_us : ∃ g : Value, g.isRef = true ∧ Sta s s.heap "java/lang/Throwable" "UNASSIGNED_STACK" "[Ljava/lang/StackTraceElement;" g := ⟨x_us, r_us, Sta.start e_us (Or.inl (hsets _ (List.mem_of_getElem? (i := 15) rfl)))⟩
  obtain ⟨x_ss, e_ss, r_ss⟩ := isR_v (Cond.before_iff.mp (hsets _ (List.mem_of_getElem? (i := 21) rfl)))
  have m_ss : ∃ g : Value, g.isRef = true ∧ Sta s s.heap "java/lang/Throwable" "SUPPRESSED_SENTINEL" "Ljava/util/List;" g := ⟨x_ss, r_ss, Sta.start e_ss (Or.inl (hsets _ (List.mem_of_getElem? (i := 20) rfl)))⟩
  have hE : Ev s (#[.int p0, .int p1, .int p2] : Array Value) := ⟨hw, ⟨gC, cC, sC⟩, ⟨gF, rF, sF⟩, (fun q hq => hcalls.1 q hq), (hsets _ (List.mem_of_getElem? (i := 2) rfl)), m_us, m_ss⟩
  obtain ⟨n_, o_, r1, r2, r3, v_, Lc, N_, rfl, ⟨-, rfl⟩, -, -, hL, hR, hN⟩ := k_law l s _ hE p0 p1 p2 s.heap tables_1 [] (fun _ q => (nomatch q)) p e ha hc hk s m _ below hf ((Spec.applies_iff_loose hf).mp happ).1 ⟨rfl, rfl, State.Warmed39.refl s, fun units a _ q => Or.inl q, ⟨Nat.le_refl _, fun _ _ q => q⟩, fun _ q => (by cases q), fun _ q => (by cases q)⟩ trivial
  exact ⟨n_, _, r1, r2, r3, hpost _ _ _ _ _ _ ⟨Cond.after_iff.mpr rfl, Cond.after_iff.mpr (eq_i res_at (Term.int_eval (1)) rfl), trivial⟩ ⟨hR.1, hR.2.1, hR.2.2.1, (hR.2.2.2.sift fun y hy => Or.inr ((hL y hy).elim (fun q => by cases q) id)).mono (by decide) (by decide)⟩⟩
theorem main_1_1 : Claimed_1_1 := comes_1 fun _ _ _ _ _ _ h hF => ⟨h.1, hF⟩
theorem main_1_2 : Claimed_1_2 := comes_1 fun _ _ _ _ _ _ h hF => ⟨h.2.1, hF⟩
end Jvm.Pilot.@@N@@
namespace Jvm.Pilot.@@N@@
open Jvm Jvm.ClassFile Sem Op Lib Jvm.Free Jvm.Stand Jvm.Pilot.@@N@@.Jvm.D
/-! MADE BY PROGRAM (witnessworld.py) out of the Statement's table words and the real class files: 40 classes; the members and pool entries that the words name. The judged class is class 1, her method 3. -/
namespace start1
open Jvm.ClassFile
def u (s : String) : CpInfo := .utf8 (stringToUtf16 s)
/-- a pool by its gaps: so many unusable entries, then the entry; so many at the end -/
def gap : Nat → List CpInfo → List CpInfo
  | 0, r => r
  | n + 1, r => .unusable :: gap n r
def poolList (es : List (Nat × CpInfo)) (last : Nat) : List CpInfo := es.foldr (fun e r => gap e.1 (e.2 :: r)) (gap last [])
def pool (es : List (Nat × CpInfo)) (last : Nat) : Array CpInfo := ⟨poolList es last⟩
def fileOf (pool : Array CpInfo) (this : Nat) (attrs : Array Attribute := #[]) (ms : Array MethodInfo := #[]) (fl : Nat := 33) (sup : Nat := 0) (ifs : Array Nat := #[]) (fds : Array FieldInfo := #[]) : ClassFile where
  minorVersion := 0
  majorVersion := 65
  constantPool := pool
  accessFlags := fl
  thisClass := this
  superClass := sup
  interfaces := ifs
  fields := fds
  methods := ms
  attributes := attrs
def plain (name : String) (sup : Option ClassId) : Class where
  name := name
  kind := .ordinary
  loader := none
  accessFlags := 33
  super := sup
  interfaces := #[]
  cf := none
  fields := #[]
  methods := #[]
  instanceTypes := #[]
  staticTypes := #[]
  resolved := #[]
  callSites := []
  init := .initialized
  statics := none
  mirror := none

def pool0 : Array CpInfo := pool [(5, u "<init>"), (0, u "()V"), (1, .class_ 10), (1, u "java/lang/Object")] 113

def k0c0 : Code := { maxStack := 0, maxLocals := 1, code := object_method_1_code, exceptionTable := #[], attributes := #[] }
def k0m0 : Method := { name := "<init>", desc := "()V", sig := { parameters := [], returnType := none }, accessFlags := 1, code := some k0c0 }
/-- java/lang/Object -/
def k0 : Class := { plain "java/lang/Object" none with
  accessFlags := 33
  interfaces := #[]
  cf := some (fileOf pool0 8 #[] #[{ accessFlags := 1, nameIndex := 5, descriptorIndex := 6, attributes := #[] }] 33 0 #[] #[])
  fields := #[]
  methods := #[k0m0]
  instanceTypes := #[]
  staticTypes := #[]
  resolved := Array.replicate 124 none
  statics := none }

def pool1 : Array CpInfo := pool [(2, .class_ 4), (1, u "java/lang/Object"), (0, u "<init>"), (0, u "()V"), (0, .class_ 8), (0, u "java/lang/String"), (0, .methodref 7 10), (0, .nameAndType 5 11), (0, u "([C)V"), (0, .methodref 7 13), (0, .nameAndType 14 15), (0, u "valueOf"), (0, u "(C)Ljava/lang/String;"), (0, .methodref 7 17), (0, .nameAndType 18 19), (0, u "length"), (0, u "()I"), (0, .methodref 7 21), (0, .nameAndType 22 23), (0, u "charAt"), (0, u "(I)C"), (0, .methodref 25 26), (0, .class_ 27), (0, .nameAndType 28 29), (0, u "com/example/vestline/vestline/input/MalformedFieldExceptionWithinPinLaw"), (0, u "str"), (0, u "(I)Ljava/lang/String;"), (0, .class_ 31), (0, u "com/example/vestline/vestline/input/MalformedFieldException"), (0, .methodref 30 33), (0, .nameAndType 5 34), (0, u "(Ljava/lang/String;Ljava/lang/String;)V"), (0, .methodref 30 36), (0, .nameAndType 37 38), (0, u "within"), (0, u "(Ljava/lang/String;)Lcom/example/vestline/vestline/input/MalformedFieldException;"), (0, .methodref 30 40), (0, .nameAndType 41 42), (0, u "getMessage"), (0, u "()Ljava/lang/String;"), (0, .methodref 25 44), (0, .nameAndType 45 46), (0, u "at"), (0, u "(Ljava/lang/String;ILjava/lang/String;)Z"), (3, u "law"), (0, u "(III)Z")] 2

def k1m0 : Method := { name := "<init>", desc := "()V", sig := { parameters := [], returnType := none }, accessFlags := 2, code := none }
def k1c1 : Code := { maxStack := 6, maxLocals := 4, code := method_2_code, exceptionTable := #[], attributes := #[] }
def k1m1 : Method := { name := "str", desc := "(I)Ljava/lang/String;", sig := { parameters := [.int], returnType := some (.object "java/lang/String") }, accessFlags := 10, code := some k1c1 }
def k1c2 : Code := { maxStack := 3, maxLocals := 3, code := method_3_code, exceptionTable := #[], attributes := #[] }
def k1m2 : Method := { name := "at", desc := "(Ljava/lang/String;ILjava/lang/String;)Z", sig := { parameters := [(.object "java/lang/String"), .int, (.object "java/lang/String")], returnType := some .boolean }, accessFlags := 10, code := some k1c2 }
def k1c3 : Code := { maxStack := 4, maxLocals := 13, code := code, exceptionTable := #[], attributes := #[] }
def k1m3 : Method := { name := "law", desc := "(III)Z", sig := { parameters := [.int, .int, .int], returnType := some .boolean }, accessFlags := 9, code := some k1c3 }
/-- com/example/vestline/vestline/input/MalformedFieldExceptionWithinPinLaw -/
def k1 : Class := { plain "com/example/vestline/vestline/input/MalformedFieldExceptionWithinPinLaw" (some 0) with
  accessFlags := 49
  interfaces := #[]
  cf := some (fileOf pool1 25 #[] #[{ accessFlags := 2, nameIndex := 5, descriptorIndex := 6, attributes := #[] }, { accessFlags := 10, nameIndex := 28, descriptorIndex := 29, attributes := #[] }, { accessFlags := 10, nameIndex := 45, descriptorIndex := 46, attributes := #[] }, { accessFlags := 9, nameIndex := 50, descriptorIndex := 51, attributes := #[] }] 49 2 #[] #[])
  fields := #[]
  methods := #[k1m0, k1m1, k1m2, k1m3]
  instanceTypes := #[]
  staticTypes := #[]
  resolved := Array.replicate 54 none
  statics := none }

def pool2 : Array CpInfo := pool [(1, .class_ 2), (0, u "java/io/Serializable"), (0, .class_ 4), (0, u "java/lang/Object")] 2

/-- java/io/Serializable -/
def k2 : Class := { plain "java/io/Serializable" (some 0) with
  accessFlags := 1537
  interfaces := #[]
  cf := some (fileOf pool2 1 #[] #[] 1537 3 #[] #[])
  fields := #[]
  methods := #[]
  instanceTypes := #[]
  staticTypes := #[]
  resolved := Array.replicate 7 none
  statics := none }

def pool3 : Array CpInfo := pool [(1, .class_ 2), (0, u "java/lang/Comparable"), (0, .class_ 4), (0, u "java/lang/Object")] 7

/-- java/lang/Comparable -/
def k3 : Class := { plain "java/lang/Comparable" (some 0) with
  accessFlags := 1537
  interfaces := #[]
  cf := some (fileOf pool3 1 #[] #[] 1537 3 #[] #[])
  fields := #[]
  methods := #[]
  instanceTypes := #[]
  staticTypes := #[]
  resolved := Array.replicate 12 none
  statics := none }

def pool4 : Array CpInfo := pool [(2, .class_ 4), (1, u "java/lang/CharSequence"), (42, .class_ 48), (0, u "java/lang/CharSequence$1CodePointIterator"), (10, .class_ 60), (0, u "java/lang/CharSequence$1CharIterator"), (5, .class_ 67), (0, u "java/lang/Object")] 63

/-- java/lang/CharSequence -/
def k4 : Class := { plain "java/lang/CharSequence" (some 0) with
  accessFlags := 1537
  interfaces := #[]
  cf := some (fileOf pool4 2 #[.nestMembers #[47, 59]] #[] 1537 66 #[] #[])
  fields := #[]
  methods := #[]
  instanceTypes := #[]
  staticTypes := #[]
  resolved := Array.replicate 131 none
  statics := none }

def pool5 : Array CpInfo := pool [(1, .class_ 2), (0, u "java/lang/constant/Constable"), (0, .class_ 4), (0, u "java/lang/Object")] 6

/-- java/lang/constant/Constable -/
def k5 : Class := { plain "java/lang/constant/Constable" (some 0) with
  accessFlags := 1537
  interfaces := #[]
  cf := some (fileOf pool5 1 #[] #[] 1537 3 #[] #[])
  fields := #[]
  methods := #[]
  instanceTypes := #[]
  staticTypes := #[]
  resolved := Array.replicate 11 none
  statics := none }

def pool6 : Array CpInfo := pool [(1, .class_ 2), (0, u "java/lang/constant/ConstantDesc"), (0, .class_ 4), (0, u "java/lang/Object")] 32

/-- java/lang/constant/ConstantDesc -/
def k6 : Class := { plain "java/lang/constant/ConstantDesc" (some 0) with
  accessFlags := 1537
  interfaces := #[]
  cf := some (fileOf pool6 1 #[] #[] 1537 3 #[] #[])
  fields := #[]
  methods := #[]
  instanceTypes := #[]
  staticTypes := #[]
  resolved := Array.replicate 37 none
  statics := none }

def pool7 : Array CpInfo := pool [(1, .methodref 2 3), (0, .class_ 4), (0, .nameAndType 5 6), (0, u "java/lang/Object"), (0, u "<init>"), (0, u "()V"), (0, .string 8), (0, u ""), (0, .fieldref 10 11), (0, .class_ 12), (0, .nameAndType 13 14), (0, u "java/lang/String"), (0, u "value"), (0, u "[B"), (0, .fieldref 10 16), (0, .nameAndType 17 18), (0, u "coder"), (0, u "B"), (2, u "hash"), (0, u "I"), (2, u "hashIsZero"), (0, u "Z"), (0, .methodref 10 28), (0, .nameAndType 5 29), (0, u "([CIILjava/lang/Void;)V"), (8, .fieldref 10 39), (0, .nameAndType 40 26), (0, u "COMPACT_STRINGS"), (1, .class_ 44), (1, u "java/lang/StringUTF16"), (0, u "compress"), (1, .methodref 42 48), (0, .nameAndType 49 50), (0, u "coderFromArrayLen"), (0, u "([BI)B"), (2, u "toBytes"), (0, .methodref 55 56), (0, .class_ 57), (0, .nameAndType 58 59), (0, u "java/util/Arrays"), (0, u "copyOfRange"), (0, u "([BII)[B"), (47, .class_ 109), (1, u "java/lang/StringLatin1"), (32, u "()Z"), (34, .methodref 42 178), (0, .nameAndType 45 179), (0, u "([CII)[B"), (13, .class_ 195), (1, u "java/lang/System"), (13, .methodref 10 210), (0, .nameAndType 5 211), (0, u "([BB)V"), (0, .methodref 193 213), (0, .nameAndType 214 215), (0, u "arraycopy"), (0, u "(Ljava/lang/Object;ILjava/lang/Object;II)V"), (118, u "()I"), (0, .methodref 10 336), (0, .nameAndType 17 337), (0, u "()B"), (2, u "()[B"), (22, u "([BI)C"), (5, u "(C)Z"), (21, u "(II)V"), (35, u "(I)C"), (61, .methodref 10 490), (0, .nameAndType 5 491), (0, u "(Ljava/lang/AbstractStringBuilder;Ljava/lang/Void;)V"), (0, .methodref 10 493), (0, .nameAndType 494 142), (0, u "isLatin1"), (0, .methodref 107 496), (0, .nameAndType 497 363), (0, u "charAt"), (3, u "checkIndex"), (4, .nameAndType 507 334), (0, u "length"), (24, u "getBytes"), (16, .methodref 550 506), (0, .class_ 551), (0, u "java/lang/AbstractStringBuilder"), (0, .methodref 550 553), (0, .nameAndType 554 340), (0, u "getValue"), (20, .class_ 576), (0, u "java/lang/CharSequence"), (22, u "CASE_INSENSITIVE_ORDER"), (0, u "Ljava/util/Comparator;"), (181, u "valueOf"), (0, u "(C)Ljava/lang/String;"), (37, u "([BIB)V"), (188, u "([C)V"), (4, .methodref 107 1016), (0, .nameAndType 1017 369), (0, u "canEncode"), (0, .methodref 107 1019), (0, .nameAndType 53 1020), (0, u "(C)[B"), (26, .methodref 550 493), (5, .fieldref 1054 1055), (0, .class_ 1056), (0, .nameAndType 1057 1058), (0, u "jdk/internal/util/Preconditions"), (0, u "SIOOBE_FORMATTER"), (0, u "Ljava/util/function/BiFunction;"), (0, .methodref 1054 1060), (0, .nameAndType 501 1061), (0, u "(IILjava/util/function/BiFunction;)I"), (39, u "serialPersistentFields"), (0, u "[Ljava/io/ObjectStreamField;"), (0, .class_ 1104), (0, u "java/lang/String$CaseInsensitiveComparator"), (1, .class_ 1107), (0, u "java/io/Serializable"), (0, .class_ 1109), (0, u "java/lang/Comparable"), (0, .class_ 1111), (0, u "java/lang/constant/Constable"), (0, .class_ 1113), (0, u "java/lang/constant/ConstantDesc"), (2, u "serialVersionUID"), (0, u "J"), (3, u "REPL"), (0, u "C"), (2, u "LATIN1"), (1, u "UTF16"), (105, u "(Ljava/lang/StringBuilder;)V")] 217

def k7m0 : Method := { name := "<init>", desc := "()V", sig := { parameters := [], returnType := none }, accessFlags := 1, code := none }
def k7c1 : Code := { maxStack := 5, maxLocals := 2, code := jdk_42_method_3_code, exceptionTable := #[], attributes := #[] }
def k7m1 : Method := { name := "<init>", desc := "([C)V", sig := { parameters := [(.array .char)], returnType := none }, accessFlags := 1, code := some k7c1 }
def k7c2 : Code := { maxStack := 3, maxLocals := 2, code := jdk_42_method_53_code, exceptionTable := #[], attributes := #[] }
def k7m2 : Method := { name := "<init>", desc := "(Ljava/lang/StringBuilder;)V", sig := { parameters := [(.object "java/lang/StringBuilder")], returnType := none }, accessFlags := 1, code := some k7c2 }
def k7c3 : Code := { maxStack := 2, maxLocals := 1, code := jdk_42_method_54_code, exceptionTable := #[], attributes := #[] }
def k7m3 : Method := { name := "length", desc := "()I", sig := { parameters := [], returnType := some .int }, accessFlags := 1, code := some k7c3 }
def k7c4 : Code := { maxStack := 2, maxLocals := 2, code := jdk_42_method_56_code, exceptionTable := #[], attributes := #[] }
def k7m4 : Method := { name := "charAt", desc := "(I)C", sig := { parameters := [.int], returnType := some .char }, accessFlags := 1, code := some k7c4 }
def k7c5 : Code := { maxStack := 4, maxLocals := 1, code := jdk_42_method_139_code, exceptionTable := #[], attributes := #[] }
def k7m5 : Method := { name := "valueOf", desc := "(C)Ljava/lang/String;", sig := { parameters := [.char], returnType := some (.object "java/lang/String") }, accessFlags := 9, code := some k7c5 }
def k7c6 : Code := { maxStack := 5, maxLocals := 4, code := jdk_42_method_147_code, exceptionTable := #[], attributes := #[] }
def k7m6 : Method := { name := "getBytes", desc := "([BIB)V", sig := { parameters := [(.array .byte), .int, .byte], returnType := none }, accessFlags := 0, code := some k7c6 }
def k7c7 : Code := { maxStack := 4, maxLocals := 6, code := jdk_42_method_149_code, exceptionTable := #[], attributes := #[] }
def k7m7 : Method := { name := "<init>", desc := "([CIILjava/lang/Void;)V", sig := { parameters := [(.array .char), .int, .int, (.object "java/lang/Void")], returnType := none }, accessFlags := 2, code := some k7c7 }
def k7c8 : Code := { maxStack := 5, maxLocals := 5, code := jdk_42_method_150_code, exceptionTable := #[], attributes := #[] }
def k7m8 : Method := { name := "<init>", desc := "(Ljava/lang/AbstractStringBuilder;Ljava/lang/Void;)V", sig := { parameters := [(.object "java/lang/AbstractStringBuilder"), (.object "java/lang/Void")], returnType := none }, accessFlags := 0, code := some k7c8 }
def k7c9 : Code := { maxStack := 2, maxLocals := 3, code := jdk_42_method_151_code, exceptionTable := #[], attributes := #[] }
def k7m9 : Method := { name := "<init>", desc := "([BB)V", sig := { parameters := [(.array .byte), .byte], returnType := none }, accessFlags := 0, code := some k7c9 }
def k7c10 : Code := { maxStack := 1, maxLocals := 1, code := jdk_42_method_152_code, exceptionTable := #[], attributes := #[] }
def k7m10 : Method := { name := "coder", desc := "()B", sig := { parameters := [], returnType := some .byte }, accessFlags := 0, code := some k7c10 }
def k7c11 : Code := { maxStack := 1, maxLocals := 1, code := jdk_42_method_154_code, exceptionTable := #[], attributes := #[] }
def k7m11 : Method := { name := "isLatin1", desc := "()Z", sig := { parameters := [], returnType := some .boolean }, accessFlags := 0, code := some k7c11 }
def k7c12 : Code := { maxStack := 3, maxLocals := 2, code := jdk_42_method_155_code, exceptionTable := #[], attributes := #[] }
def k7m12 : Method := { name := "checkIndex", desc := "(II)V", sig := { parameters := [.int, .int], returnType := none }, accessFlags := 8, code := some k7c12 }
/-- java/lang/String -/
def k7 : Class := { plain "java/lang/String" (some 0) with
  accessFlags := 49
  interfaces := #[2, 3, 4, 5, 6]
  cf := some (fileOf pool7 10 #[.nestMembers #[1103]] #[{ accessFlags := 1, nameIndex := 5, descriptorIndex := 6, attributes := #[] }, { accessFlags := 1, nameIndex := 5, descriptorIndex := 1010, attributes := #[] }, { accessFlags := 1, nameIndex := 5, descriptorIndex := 1233, attributes := #[] }, { accessFlags := 1, nameIndex := 507, descriptorIndex := 334, attributes := #[] }, { accessFlags := 1, nameIndex := 497, descriptorIndex := 427, attributes := #[] }, { accessFlags := 9, nameIndex := 782, descriptorIndex := 783, attributes := #[] }, { accessFlags := 0, nameIndex := 532, descriptorIndex := 821, attributes := #[] }, { accessFlags := 2, nameIndex := 5, descriptorIndex := 29, attributes := #[] }, { accessFlags := 0, nameIndex := 5, descriptorIndex := 491, attributes := #[] }, { accessFlags := 0, nameIndex := 5, descriptorIndex := 211, attributes := #[] }, { accessFlags := 0, nameIndex := 17, descriptorIndex := 337, attributes := #[] }, { accessFlags := 0, nameIndex := 494, descriptorIndex := 142, attributes := #[] }, { accessFlags := 8, nameIndex := 501, descriptorIndex := 391, attributes := #[] }] 49 2 #[1106, 1108, 575, 1110, 1112] #[{ accessFlags := 18, nameIndex := 13, descriptorIndex := 14, attributes := #[] }, { accessFlags := 18, nameIndex := 17, descriptorIndex := 18, attributes := #[] }, { accessFlags := 2, nameIndex := 21, descriptorIndex := 22, attributes := #[] }, { accessFlags := 2, nameIndex := 25, descriptorIndex := 26, attributes := #[] }, { accessFlags := 26, nameIndex := 1116, descriptorIndex := 1117, attributes := #[] }, { accessFlags := 24, nameIndex := 40, descriptorIndex := 26, attributes := #[] }, { accessFlags := 26, nameIndex := 1101, descriptorIndex := 1102, attributes := #[] }, { accessFlags := 26, nameIndex := 1121, descriptorIndex := 1122, attributes := #[] }, { accessFlags := 25, nameIndex := 599, descriptorIndex := 600, attributes := #[] }, { accessFlags := 24, nameIndex := 1125, descriptorIndex := 18, attributes := #[] }, { accessFlags := 24, nameIndex := 1127, descriptorIndex := 18, attributes := #[] }])
  fields := #[{ name := "value", type := (.array .byte), accessFlags := 18, slot := 0, constantValue := 0 }, { name := "coder", type := .byte, accessFlags := 18, slot := 1, constantValue := 0 }, { name := "hash", type := .int, accessFlags := 2, slot := 2, constantValue := 0 }, { name := "hashIsZero", type := .boolean, accessFlags := 2, slot := 3, constantValue := 0 }, { name := "serialVersionUID", type := .long, accessFlags := 26, slot := 0, constantValue := 0 }, { name := "COMPACT_STRINGS", type := .boolean, accessFlags := 24, slot := 1, constantValue := 0 }, { name := "serialPersistentFields", type := (.array (.object "java/io/ObjectStreamField")), accessFlags := 26, slot := 2, constantValue := 0 }, { name := "REPL", type := .char, accessFlags := 26, slot := 3, constantValue := 0 }, { name := "CASE_INSENSITIVE_ORDER", type := (.object "java/util/Comparator"), accessFlags := 25, slot := 4, constantValue := 0 }, { name := "LATIN1", type := .byte, accessFlags := 24, slot := 5, constantValue := 0 }, { name := "UTF16", type := .byte, accessFlags := 24, slot := 6, constantValue := 0 }]
  methods := #[k7m0, k7m1, k7m2, k7m3, k7m4, k7m5, k7m6, k7m7, k7m8, k7m9, k7m10, k7m11, k7m12]
  instanceTypes := #[(.array .byte), .byte, .int, .boolean]
  staticTypes := #[.long, .boolean, (.array (.object "java/io/ObjectStreamField")), .char, (.object "java/util/Comparator"), .byte, .byte]
  resolved := Array.replicate 1451 none
  statics := some 0 }

def pool8 : Array CpInfo := pool [(1, .methodref 2 3), (0, .class_ 4), (0, .nameAndType 5 6), (0, u "java/lang/Object"), (0, u "<init>"), (0, u "()V"), (0, .fieldref 8 9), (0, .class_ 10), (0, .nameAndType 11 12), (0, u "java/lang/Throwable"), (0, u "cause"), (0, u "Ljava/lang/Throwable;"), (0, .fieldref 8 14), (0, .nameAndType 15 16), (0, u "UNASSIGNED_STACK"), (0, u "[Ljava/lang/StackTraceElement;"), (0, .fieldref 8 18), (0, .nameAndType 19 16), (0, u "stackTrace"), (0, .fieldref 8 21), (0, .nameAndType 22 23), (0, u "SUPPRESSED_SENTINEL"), (0, u "Ljava/util/List;"), (0, .fieldref 8 25), (0, .nameAndType 26 23), (0, u "suppressedExceptions"), (4, .fieldref 8 32), (0, .nameAndType 33 34), (0, u "detailMessage"), (0, u "Ljava/lang/String;"), (3, u "()Ljava/lang/String;"), (2, u "getMessage"), (51, .class_ 94), (0, u "java/lang/Throwable$WrappedPrintStream"), (6, .class_ 103), (1, u "java/lang/Throwable$PrintStreamOrWriter"), (61, u "$assertionsDisabled"), (0, u "Z"), (26, .class_ 194), (0, u "java/lang/Throwable$WrappedPrintWriter"), (5, u "backtrace"), (0, u "Ljava/lang/Object;"), (9, u "depth"), (0, u "I"), (56, .class_ 271), (1, u "java/lang/Throwable$SentinelHolder"), (32, u "EMPTY_THROWABLE_ARRAY"), (0, u "[Ljava/lang/Throwable;"), (12, .class_ 319), (0, u "java/io/Serializable"), (0, u "serialVersionUID"), (0, u "J"), (5, u "NULL_CAUSE_MESSAGE"), (0, u "SELF_SUPPRESSION_MESSAGE"), (0, u "CAUSE_CAPTION"), (0, u "SUPPRESSED_CAPTION"), (9, u "(Ljava/lang/String;Ljava/lang/Throwable;ZZ)V")] 63

def k8m0 : Method := { name := "<init>", desc := "()V", sig := { parameters := [], returnType := none }, accessFlags := 1, code := none }
def k8c1 : Code := { maxStack := 2, maxLocals := 5, code := jdk_78_method_5_code, exceptionTable := #[], attributes := #[] }
def k8m1 : Method := { name := "<init>", desc := "(Ljava/lang/String;Ljava/lang/Throwable;ZZ)V", sig := { parameters := [(.object "java/lang/String"), (.object "java/lang/Throwable"), .boolean, .boolean], returnType := none }, accessFlags := 4, code := some k8c1 }
def k8c2 : Code := { maxStack := 1, maxLocals := 1, code := jdk_78_method_6_code, exceptionTable := #[], attributes := #[] }
def k8m2 : Method := { name := "getMessage", desc := "()Ljava/lang/String;", sig := { parameters := [], returnType := some (.object "java/lang/String") }, accessFlags := 1, code := some k8c2 }
/-- java/lang/Throwable -/
def k8 : Class := { plain "java/lang/Throwable" (some 0) with
  accessFlags := 33
  interfaces := #[2]
  cf := some (fileOf pool8 8 #[.nestMembers #[193, 93, 101, 269]] #[{ accessFlags := 1, nameIndex := 5, descriptorIndex := 6, attributes := #[] }, { accessFlags := 4, nameIndex := 5, descriptorIndex := 340, attributes := #[] }, { accessFlags := 1, nameIndex := 41, descriptorIndex := 38, attributes := #[] }] 33 2 #[318] #[{ accessFlags := 26, nameIndex := 320, descriptorIndex := 321, attributes := #[] }, { accessFlags := 130, nameIndex := 200, descriptorIndex := 201, attributes := #[] }, { accessFlags := 2, nameIndex := 33, descriptorIndex := 34, attributes := #[] }, { accessFlags := 26, nameIndex := 15, descriptorIndex := 16, attributes := #[] }, { accessFlags := 2, nameIndex := 11, descriptorIndex := 12, attributes := #[] }, { accessFlags := 2, nameIndex := 19, descriptorIndex := 16, attributes := #[] }, { accessFlags := 130, nameIndex := 211, descriptorIndex := 212, attributes := #[] }, { accessFlags := 26, nameIndex := 22, descriptorIndex := 23, attributes := #[] }, { accessFlags := 2, nameIndex := 26, descriptorIndex := 23, attributes := #[] }, { accessFlags := 26, nameIndex := 327, descriptorIndex := 34, attributes := #[] }, { accessFlags := 26, nameIndex := 328, descriptorIndex := 34, attributes := #[] }, { accessFlags := 26, nameIndex := 329, descriptorIndex := 34, attributes := #[] }, { accessFlags := 26, nameIndex := 330, descriptorIndex := 34, attributes := #[] }, { accessFlags := 26, nameIndex := 304, descriptorIndex := 305, attributes := #[] }, { accessFlags := 4120, nameIndex := 165, descriptorIndex := 166, attributes := #[] }])
  fields := #[{ name := "serialVersionUID", type := .long, accessFlags := 26, slot := 0, constantValue := 0 }, { name := "backtrace", type := (.object "java/lang/Object"), accessFlags := 130, slot := 0, constantValue := 0 }, { name := "detailMessage", type := (.object "java/lang/String"), accessFlags := 2, slot := 1, constantValue := 0 }, { name := "UNASSIGNED_STACK", type := (.array (.object "java/lang/StackTraceElement")), accessFlags := 26, slot := 1, constantValue := 0 }, { name := "cause", type := (.object "java/lang/Throwable"), accessFlags := 2, slot := 2, constantValue := 0 }, { name := "stackTrace", type := (.array (.object "java/lang/StackTraceElement")), accessFlags := 2, slot := 3, constantValue := 0 }, { name := "depth", type := .int, accessFlags := 130, slot := 4, constantValue := 0 }, { name := "SUPPRESSED_SENTINEL", type := (.object "java/util/List"), accessFlags := 26, slot := 2, constantValue := 0 }, { name := "suppressedExceptions", type := (.object "java/util/List"), accessFlags := 2, slot := 5, constantValue := 0 }, { name := "NULL_CAUSE_MESSAGE", type := (.object "java/lang/String"), accessFlags := 26, slot := 3, constantValue := 0 }, { name := "SELF_SUPPRESSION_MESSAGE", type := (.object "java/lang/String"), accessFlags := 26, slot := 4, constantValue := 0 }, { name := "CAUSE_CAPTION", type := (.object "java/lang/String"), accessFlags := 26, slot := 5, constantValue := 0 }, { name := "SUPPRESSED_CAPTION", type := (.object "java/lang/String"), accessFlags := 26, slot := 6, constantValue := 0 }, { name := "EMPTY_THROWABLE_ARRAY", type := (.array (.object "java/lang/Throwable")), accessFlags := 26, slot := 7, constantValue := 0 }, { name := "$assertionsDisabled", type := .boolean, accessFlags := 4120, slot := 8, constantValue := 0 }]
  methods := #[k8m0, k8m1, k8m2]
  instanceTypes := #[(.object "java/lang/Object"), (.object "java/lang/String"), (.object "java/lang/Throwable"), (.array (.object "java/lang/StackTraceElement")), .int, (.object "java/util/List")]
  staticTypes := #[.long, (.array (.object "java/lang/StackTraceElement")), (.object "java/util/List"), (.object "java/lang/String"), (.object "java/lang/String"), (.object "java/lang/String"), (.object "java/lang/String"), (.array (.object "java/lang/Throwable")), .boolean]
  resolved := Array.replicate 404 none
  statics := some 1 }

def pool9 : Array CpInfo := pool [(2, .class_ 4), (1, u "java/lang/Throwable"), (0, u "<init>"), (0, u "()V"), (9, .methodref 2 17), (0, .nameAndType 5 18), (0, u "(Ljava/lang/String;Ljava/lang/Throwable;ZZ)V"), (0, .class_ 20), (0, u "java/lang/Exception"), (0, u "serialVersionUID"), (0, u "J")] 17

def k9m0 : Method := { name := "<init>", desc := "()V", sig := { parameters := [], returnType := none }, accessFlags := 1, code := none }
def k9c1 : Code := { maxStack := 5, maxLocals := 5, code := jdk_59_method_5_code, exceptionTable := #[], attributes := #[] }
def k9m1 : Method := { name := "<init>", desc := "(Ljava/lang/String;Ljava/lang/Throwable;ZZ)V", sig := { parameters := [(.object "java/lang/String"), (.object "java/lang/Throwable"), .boolean, .boolean], returnType := none }, accessFlags := 4, code := some k9c1 }
/-- java/lang/Exception -/
def k9 : Class := { plain "java/lang/Exception" (some 8) with
  accessFlags := 33
  interfaces := #[]
  cf := some (fileOf pool9 19 #[] #[{ accessFlags := 1, nameIndex := 5, descriptorIndex := 6, attributes := #[] }, { accessFlags := 4, nameIndex := 5, descriptorIndex := 18, attributes := #[] }] 33 2 #[] #[{ accessFlags := 24, nameIndex := 21, descriptorIndex := 22, attributes := #[] }])
  fields := #[{ name := "serialVersionUID", type := .long, accessFlags := 24, slot := 0, constantValue := 0 }]
  methods := #[k9m0, k9m1]
  instanceTypes := #[(.object "java/lang/Object"), (.object "java/lang/String"), (.object "java/lang/Throwable"), (.array (.object "java/lang/StackTraceElement")), .int, (.object "java/util/List")]
  staticTypes := #[.long]
  resolved := Array.replicate 40 none
  statics := none }

def pool10 : Array CpInfo := pool [(1, .class_ 2), (0, u "java/lang/StringBuilder"), (0, .methodref 1 4), (0, .nameAndType 5 6), (0, u "<init>"), (0, u "()V"), (0, .methodref 1 8), (0, .nameAndType 9 10), (0, u "append"), (0, u "(Ljava/lang/String;)Ljava/lang/StringBuilder;"), (0, .string 12), (0, u ": "), (0, .methodref 1 14), (0, .nameAndType 15 16), (0, u "toString"), (0, u "()Ljava/lang/String;"), (0, .methodref 18 19), (0, .class_ 20), (0, .nameAndType 5 21), (0, u "java/lang/Exception"), (0, u "(Ljava/lang/String;Ljava/lang/Throwable;ZZ)V"), (0, .fieldref 23 24), (0, .class_ 25), (0, .nameAndType 26 27), (0, u "com/example/vestline/vestline/input/MalformedFieldException"), (0, u "field"), (0, u "Ljava/lang/String;"), (0, .fieldref 23 29), (0, .nameAndType 30 27), (0, u "reason"), (0, .string 32), (0, u "."), (0, .methodref 23 34), (0, .nameAndType 5 35), (0, u "(Ljava/lang/String;Ljava/lang/String;)V"), (0, u "serialVersionUID"), (0, u "J"), (5, u "within"), (0, u "(Ljava/lang/String;)Lcom/example/vestline/vestline/input/MalformedFieldException;")] 2

def k10c0 : Code := { maxStack := 5, maxLocals := 3, code := prog_4_method_1_code, exceptionTable := #[], attributes := #[] }
def k10m0 : Method := { name := "<init>", desc := "(Ljava/lang/String;Ljava/lang/String;)V", sig := { parameters := [(.object "java/lang/String"), (.object "java/lang/String")], returnType := none }, accessFlags := 1, code := some k10c0 }
def k10c1 : Code := { maxStack := 4, maxLocals := 2, code := prog_4_method_2_code, exceptionTable := #[], attributes := #[] }
def k10m1 : Method := { name := "within", desc := "(Ljava/lang/String;)Lcom/example/vestline/vestline/input/MalformedFieldException;", sig := { parameters := [(.object "java/lang/String")], returnType := some (.object "com/example/vestline/vestline/input/MalformedFieldException") }, accessFlags := 1, code := some k10c1 }
/-- com/example/vestline/vestline/input/MalformedFieldException -/
def k10 : Class := { plain "com/example/vestline/vestline/input/MalformedFieldException" (some 9) with
  accessFlags := 49
  interfaces := #[]
  cf := some (fileOf pool10 23 #[] #[{ accessFlags := 1, nameIndex := 5, descriptorIndex := 35, attributes := #[] }, { accessFlags := 1, nameIndex := 43, descriptorIndex := 44, attributes := #[] }] 49 18 #[] #[{ accessFlags := 26, nameIndex := 36, descriptorIndex := 37, attributes := #[] }, { accessFlags := 18, nameIndex := 26, descriptorIndex := 27, attributes := #[] }, { accessFlags := 18, nameIndex := 30, descriptorIndex := 27, attributes := #[] }])
  fields := #[{ name := "serialVersionUID", type := .long, accessFlags := 26, slot := 0, constantValue := 0 }, { name := "field", type := (.object "java/lang/String"), accessFlags := 18, slot := 6, constantValue := 0 }, { name := "reason", type := (.object "java/lang/String"), accessFlags := 18, slot := 7, constantValue := 0 }]
  methods := #[k10m0, k10m1]
  instanceTypes := #[(.object "java/lang/Object"), (.object "java/lang/String"), (.object "java/lang/Throwable"), (.array (.object "java/lang/StackTraceElement")), .int, (.object "java/util/List"), (.object "java/lang/String"), (.object "java/lang/String")]
  staticTypes := #[.long]
  resolved := Array.replicate 47 none
  statics := none }

def pool11 : Array CpInfo := pool [(1, .class_ 2), (0, u "java/lang/Appendable"), (0, .class_ 4), (0, u "java/lang/Object")] 9

/-- java/lang/Appendable -/
def k11 : Class := { plain "java/lang/Appendable" (some 0) with
  accessFlags := 1537
  interfaces := #[]
  cf := some (fileOf pool11 1 #[] #[] 1537 3 #[] #[])
  fields := #[]
  methods := #[]
  instanceTypes := #[]
  staticTypes := #[]
  resolved := Array.replicate 14 none
  statics := none }

def pool12 : Array CpInfo := pool [(1, .class_ 2), (0, u "java/lang/String"), (0, .methodref 4 5), (0, .class_ 6), (0, .nameAndType 7 8), (0, u "java/lang/Object"), (0, u "<init>"), (0, u "()V"), (1, .class_ 12), (1, u "java/lang/AbstractStringBuilder"), (0, u "EMPTYVALUE"), (0, u "[B"), (0, .fieldref 10 16), (0, .nameAndType 17 14), (0, u "value"), (0, .fieldref 1 19), (0, .nameAndType 20 21), (0, u "COMPACT_STRINGS"), (0, u "Z"), (0, .fieldref 10 23), (0, .nameAndType 24 25), (0, u "coder"), (0, u "B"), (6, .methodref 1 33), (0, .nameAndType 34 35), (0, u "length"), (0, u "()I"), (4, .methodref 1 41), (0, .nameAndType 24 42), (0, u "()B"), (2, u "append"), (0, u "(Ljava/lang/String;)Ljava/lang/AbstractStringBuilder;"), (1, .class_ 49), (0, u "java/lang/CharSequence"), (19, u "(Ljava/lang/String;)V"), (5, u "maybeLatin1"), (3, .fieldref 10 80), (0, .nameAndType 81 82), (0, u "count"), (0, u "I"), (2, u "isLatin1"), (0, u "()Z"), (13, .methodref 10 101), (0, .nameAndType 102 103), (0, u "ensureCapacityInternal"), (0, u "(I)V"), (104, .methodref 10 209), (0, .nameAndType 210 211), (0, u "putStringAt"), (0, u "(ILjava/lang/String;)V"), (5, u "inflateIfNeededFor"), (2, .nameAndType 221 222), (0, u "getBytes"), (0, u "([BIB)V"), (174, .methodref 10 398), (0, .nameAndType 217 69), (0, .methodref 1 220), (3, u "()[B"), (40, .class_ 445), (0, u "java/lang/Appendable"), (106, u "getValue")] 56

def k12m0 : Method := { name := "<init>", desc := "()V", sig := { parameters := [], returnType := none }, accessFlags := 0, code := none }
def k12c1 : Code := { maxStack := 2, maxLocals := 2, code := jdk_68_method_2_code, exceptionTable := #[], attributes := #[] }
def k12m1 : Method := { name := "<init>", desc := "(I)V", sig := { parameters := [.int], returnType := none }, accessFlags := 0, code := some k12c1 }
def k12c2 : Code := { maxStack := 1, maxLocals := 1, code := jdk_68_method_6_code, exceptionTable := #[], attributes := #[] }
def k12m2 : Method := { name := "length", desc := "()I", sig := { parameters := [], returnType := some .int }, accessFlags := 1, code := some k12c2 }
def k12c3 : Code := { maxStack := 4, maxLocals := 3, code := jdk_68_method_9_code, exceptionTable := #[], attributes := #[] }
def k12m3 : Method := { name := "ensureCapacityInternal", desc := "(I)V", sig := { parameters := [.int], returnType := none }, accessFlags := 2, code := some k12c3 }
def k12c4 : Code := { maxStack := 3, maxLocals := 3, code := jdk_68_method_22_code, exceptionTable := #[], attributes := #[] }
def k12m4 : Method := { name := "append", desc := "(Ljava/lang/String;)Ljava/lang/AbstractStringBuilder;", sig := { parameters := [(.object "java/lang/String")], returnType := some (.object "java/lang/AbstractStringBuilder") }, accessFlags := 1, code := some k12c4 }
def k12c5 : Code := { maxStack := 1, maxLocals := 1, code := jdk_68_method_64_code, exceptionTable := #[], attributes := #[] }
def k12m5 : Method := { name := "getValue", desc := "()[B", sig := { parameters := [], returnType := some (.array .byte) }, accessFlags := 16, code := some k12c5 }
def k12c6 : Code := { maxStack := 1, maxLocals := 1, code := jdk_68_method_68_code, exceptionTable := #[], attributes := #[] }
def k12m6 : Method := { name := "isLatin1", desc := "()Z", sig := { parameters := [], returnType := some .boolean }, accessFlags := 16, code := some k12c6 }
def k12c7 : Code := { maxStack := 2, maxLocals := 2, code := jdk_68_method_71_code, exceptionTable := #[], attributes := #[] }
def k12m7 : Method := { name := "inflateIfNeededFor", desc := "(Ljava/lang/String;)V", sig := { parameters := [(.object "java/lang/String")], returnType := none }, accessFlags := 2, code := some k12c7 }
def k12c8 : Code := { maxStack := 4, maxLocals := 3, code := jdk_68_method_73_code, exceptionTable := #[], attributes := #[] }
def k12m8 : Method := { name := "putStringAt", desc := "(ILjava/lang/String;)V", sig := { parameters := [.int, (.object "java/lang/String")], returnType := none }, accessFlags := 2, code := some k12c8 }
/-- java/lang/AbstractStringBuilder -/
def k12 : Class := { plain "java/lang/AbstractStringBuilder" (some 0) with
  accessFlags := 1056
  interfaces := #[11, 4]
  cf := some (fileOf pool12 10 #[] #[{ accessFlags := 0, nameIndex := 7, descriptorIndex := 8, attributes := #[] }, { accessFlags := 0, nameIndex := 7, descriptorIndex := 103, attributes := #[] }, { accessFlags := 1, nameIndex := 34, descriptorIndex := 35, attributes := #[] }, { accessFlags := 2, nameIndex := 102, descriptorIndex := 103, attributes := #[] }, { accessFlags := 1, nameIndex := 45, descriptorIndex := 46, attributes := #[] }, { accessFlags := 16, nameIndex := 552, descriptorIndex := 403, attributes := #[] }, { accessFlags := 16, nameIndex := 85, descriptorIndex := 86, attributes := #[] }, { accessFlags := 2, nameIndex := 217, descriptorIndex := 69, attributes := #[] }, { accessFlags := 2, nameIndex := 210, descriptorIndex := 211, attributes := #[] }] 1056 4 #[444, 48] #[{ accessFlags := 0, nameIndex := 17, descriptorIndex := 14, attributes := #[] }, { accessFlags := 0, nameIndex := 24, descriptorIndex := 25, attributes := #[] }, { accessFlags := 0, nameIndex := 75, descriptorIndex := 21, attributes := #[] }, { accessFlags := 0, nameIndex := 81, descriptorIndex := 82, attributes := #[] }, { accessFlags := 26, nameIndex := 13, descriptorIndex := 14, attributes := #[] }])
  fields := #[{ name := "value", type := (.array .byte), accessFlags := 0, slot := 0, constantValue := 0 }, { name := "coder", type := .byte, accessFlags := 0, slot := 1, constantValue := 0 }, { name := "maybeLatin1", type := .boolean, accessFlags := 0, slot := 2, constantValue := 0 }, { name := "count", type := .int, accessFlags := 0, slot := 3, constantValue := 0 }, { name := "EMPTYVALUE", type := (.array .byte), accessFlags := 26, slot := 0, constantValue := 0 }]
  methods := #[k12m0, k12m1, k12m2, k12m3, k12m4, k12m5, k12m6, k12m7, k12m8]
  instanceTypes := #[(.array .byte), .byte, .boolean, .int]
  staticTypes := #[(.array .byte)]
  resolved := Array.replicate 609 none
  statics := none }

def pool13 : Array CpInfo := pool [(1, .methodref 2 3), (0, .class_ 4), (0, .nameAndType 5 6), (0, u "java/lang/AbstractStringBuilder"), (0, u "<init>"), (0, u "(I)V"), (11, .class_ 20), (1, u "java/lang/String"), (3, .class_ 26), (1, u "java/lang/StringBuilder"), (0, u "append"), (0, u "(Ljava/lang/String;)Ljava/lang/StringBuilder;"), (0, .methodref 2 30), (0, .nameAndType 27 31), (0, u "(Ljava/lang/String;)Ljava/lang/AbstractStringBuilder;"), (105, .methodref 18 138), (0, .nameAndType 5 139), (0, u "(Ljava/lang/StringBuilder;)V"), (5, u "()V"), (10, u "()I"), (186, .methodref 2 344), (0, .nameAndType 345 156), (0, u "length"), (3, .class_ 350), (0, u "java/lang/Appendable"), (0, .class_ 352), (0, u "java/io/Serializable"), (0, .class_ 354), (0, u "java/lang/Comparable"), (0, .class_ 356), (0, u "java/lang/CharSequence"), (0, u "serialVersionUID"), (0, u "J"), (40, u "toString"), (0, u "()Ljava/lang/String;")] 21

def k13c0 : Code := { maxStack := 2, maxLocals := 1, code := jdk_67_method_1_code, exceptionTable := #[], attributes := #[] }
def k13m0 : Method := { name := "<init>", desc := "()V", sig := { parameters := [], returnType := none }, accessFlags := 1, code := some k13c0 }
def k13c1 : Code := { maxStack := 2, maxLocals := 2, code := jdk_67_method_7_code, exceptionTable := #[], attributes := #[] }
def k13m1 : Method := { name := "append", desc := "(Ljava/lang/String;)Ljava/lang/StringBuilder;", sig := { parameters := [(.object "java/lang/String")], returnType := some (.object "java/lang/StringBuilder") }, accessFlags := 1, code := some k13c1 }
def k13c2 : Code := { maxStack := 3, maxLocals := 1, code := jdk_67_method_42_code, exceptionTable := #[], attributes := #[] }
def k13m2 : Method := { name := "toString", desc := "()Ljava/lang/String;", sig := { parameters := [], returnType := some (.object "java/lang/String") }, accessFlags := 1, code := some k13c2 }
def k13c3 : Code := { maxStack := 1, maxLocals := 1, code := jdk_67_method_93_code, exceptionTable := #[], attributes := #[] }
def k13m3 : Method := { name := "length", desc := "()I", sig := { parameters := [], returnType := some .int }, accessFlags := 4161, code := some k13c3 }
/-- java/lang/StringBuilder -/
def k13 : Class := { plain "java/lang/StringBuilder" (some 12) with
  accessFlags := 49
  interfaces := #[11, 2, 3, 4]
  cf := some (fileOf pool13 24 #[] #[{ accessFlags := 1, nameIndex := 5, descriptorIndex := 145, attributes := #[] }, { accessFlags := 1, nameIndex := 27, descriptorIndex := 28, attributes := #[] }, { accessFlags := 1, nameIndex := 399, descriptorIndex := 400, attributes := #[] }, { accessFlags := 4161, nameIndex := 345, descriptorIndex := 156, attributes := #[] }] 49 2 #[349, 351, 353, 355] #[{ accessFlags := 24, nameIndex := 357, descriptorIndex := 358, attributes := #[] }])
  fields := #[{ name := "serialVersionUID", type := .long, accessFlags := 24, slot := 0, constantValue := 0 }]
  methods := #[k13m0, k13m1, k13m2, k13m3]
  instanceTypes := #[(.array .byte), .byte, .boolean, .int]
  staticTypes := #[.long]
  resolved := Array.replicate 422 none
  statics := none }

def pool14 : Array CpInfo := pool [(2, .class_ 4), (1, u "java/lang/Object"), (0, u "<init>"), (0, u "()V"), (1, .class_ 10), (1, u "java/lang/System"), (0, u "allowSecurityManager"), (0, u "I"), (16, u "cons"), (0, u "Ljava/io/Console;"), (77, .class_ 110), (1, u "java/lang/System$CallersHolder"), (43, u "initialErrStream"), (0, u "Ljava/io/PrintStream;"), (19, u "security"), (0, u "Ljava/lang/SecurityManager;"), (31, .class_ 209), (0, u "java/lang/System$1"), (7, u "props"), (0, u "Ljava/util/Properties;"), (2, u "lineSeparator"), (0, u "Ljava/lang/String;"), (96, .class_ 321), (1, u "java/lang/System$LoggerFinder"), (5, .class_ 328), (0, u "java/lang/System$Logger"), (67, u "err"), (2, u "out"), (91, u "notSupportedJnuEncoding"), (15, u "in"), (17, u "initialIn"), (0, u "Ljava/io/InputStream;"), (35, u "bootLayer"), (0, u "Ljava/lang/ModuleLayer;"), (99, .class_ 664), (0, u "java/lang/System$2"), (9, u "NEVER"), (2, u "MAYBE"), (49, u "arraycopy"), (0, u "(Ljava/lang/Object;ILjava/lang/Object;II)V"), (72, .class_ 802), (0, u "java/lang/System$Logger$Level")] 31

def k14m0 : Method := { name := "<init>", desc := "()V", sig := { parameters := [], returnType := none }, accessFlags := 2, code := none }
def k14m1 : Method := { name := "arraycopy", desc := "(Ljava/lang/Object;ILjava/lang/Object;II)V", sig := { parameters := [(.object "java/lang/Object"), .int, (.object "java/lang/Object"), .int, .int], returnType := none }, accessFlags := 265, code := none }
/-- java/lang/System -/
def k14 : Class := { plain "java/lang/System" (some 0) with
  accessFlags := 49
  interfaces := #[]
  cf := some (fileOf pool14 8 #[.nestMembers #[319, 327, 801, 108, 663, 208]] #[{ accessFlags := 2, nameIndex := 5, descriptorIndex := 6, attributes := #[] }, { accessFlags := 265, nameIndex := 727, descriptorIndex := 728, attributes := #[] }] 49 2 #[] #[{ accessFlags := 25, nameIndex := 507, descriptorIndex := 526, attributes := #[] }, { accessFlags := 25, nameIndex := 399, descriptorIndex := 155, attributes := #[] }, { accessFlags := 25, nameIndex := 396, descriptorIndex := 155, attributes := #[] }, { accessFlags := 10, nameIndex := 525, descriptorIndex := 526, attributes := #[] }, { accessFlags := 26, nameIndex := 674, descriptorIndex := 12, attributes := #[] }, { accessFlags := 26, nameIndex := 677, descriptorIndex := 12, attributes := #[] }, { accessFlags := 10, nameIndex := 11, descriptorIndex := 12, attributes := #[] }, { accessFlags := 74, nameIndex := 175, descriptorIndex := 176, attributes := #[] }, { accessFlags := 10, nameIndex := 491, descriptorIndex := 222, attributes := #[] }, { accessFlags := 74, nameIndex := 29, descriptorIndex := 30, attributes := #[] }, { accessFlags := 74, nameIndex := 154, descriptorIndex := 155, attributes := #[] }, { accessFlags := 10, nameIndex := 217, descriptorIndex := 218, attributes := #[] }, { accessFlags := 10, nameIndex := 221, descriptorIndex := 222, attributes := #[] }, { accessFlags := 8, nameIndex := 562, descriptorIndex := 563, attributes := #[] }])
  fields := #[{ name := "in", type := (.object "java/io/InputStream"), accessFlags := 25, slot := 0, constantValue := 0 }, { name := "out", type := (.object "java/io/PrintStream"), accessFlags := 25, slot := 1, constantValue := 0 }, { name := "err", type := (.object "java/io/PrintStream"), accessFlags := 25, slot := 2, constantValue := 0 }, { name := "initialIn", type := (.object "java/io/InputStream"), accessFlags := 10, slot := 3, constantValue := 0 }, { name := "NEVER", type := .int, accessFlags := 26, slot := 4, constantValue := 0 }, { name := "MAYBE", type := .int, accessFlags := 26, slot := 5, constantValue := 0 }, { name := "allowSecurityManager", type := .int, accessFlags := 10, slot := 6, constantValue := 0 }, { name := "security", type := (.object "java/lang/SecurityManager"), accessFlags := 74, slot := 7, constantValue := 0 }, { name := "notSupportedJnuEncoding", type := (.object "java/lang/String"), accessFlags := 10, slot := 8, constantValue := 0 }, { name := "cons", type := (.object "java/io/Console"), accessFlags := 74, slot := 9, constantValue := 0 }, { name := "initialErrStream", type := (.object "java/io/PrintStream"), accessFlags := 74, slot := 10, constantValue := 0 }, { name := "props", type := (.object "java/util/Properties"), accessFlags := 10, slot := 11, constantValue := 0 }, { name := "lineSeparator", type := (.object "java/lang/String"), accessFlags := 10, slot := 12, constantValue := 0 }, { name := "bootLayer", type := (.object "java/lang/ModuleLayer"), accessFlags := 8, slot := 13, constantValue := 0 }]
  methods := #[k14m0, k14m1]
  instanceTypes := #[]
  staticTypes := #[(.object "java/io/InputStream"), (.object "java/io/PrintStream"), (.object "java/io/PrintStream"), (.object "java/io/InputStream"), .int, .int, .int, (.object "java/lang/SecurityManager"), (.object "java/lang/String"), (.object "java/io/Console"), (.object "java/io/PrintStream"), (.object "java/util/Properties"), (.object "java/lang/String"), (.object "java/lang/ModuleLayer")]
  resolved := Array.replicate 834 none
  statics := none }

def pool15 : Array CpInfo := pool [(2, .class_ 4), (1, u "java/lang/Object"), (0, u "<init>"), (0, u "()V"), (7, .class_ 16), (1, u "java/util/Arrays"), (57, .class_ 76), (1, u "java/util/Arrays$NaturalOrder"), (36, .class_ 115), (1, u "java/util/Arrays$LegacyMergeSort"), (1, u "Z"), (21, u "copyOfRange"), (10, .methodref 151 152), (0, .class_ 153), (0, .nameAndType 154 155), (0, u "java/lang/System"), (0, u "arraycopy"), (0, u "(Ljava/lang/Object;ILjava/lang/Object;II)V"), (148, .methodref 305 306), (0, .class_ 307), (0, .nameAndType 308 309), (0, u "java/lang/Math"), (0, u "min"), (0, u "(II)I"), (29, .methodref 14 340), (0, .nameAndType 341 342), (0, u "copyOfRangeByte"), (0, u "([BII)[B"), (0, .methodref 14 344), (0, .nameAndType 345 346), (0, u "checkLength"), (0, u "(II)V"), (28, .class_ 376), (0, u "java/util/Arrays$ArrayList"), (68, u "$assertionsDisabled"), (269, u "MIN_ARRAY_SORT_GRAN"), (0, u "I"), (2, u "INSERTIONSORT_THRESHOLD"), (255, .class_ 976), (0, u "java/util/Arrays$ArrayItr")] 52

def k15m0 : Method := { name := "<init>", desc := "()V", sig := { parameters := [], returnType := none }, accessFlags := 2, code := none }
def k15c1 : Code := { maxStack := 4, maxLocals := 2, code := jdk_65_method_131_code, exceptionTable := #[], attributes := #[] }
def k15m1 : Method := { name := "checkLength", desc := "(II)V", sig := { parameters := [.int, .int], returnType := none }, accessFlags := 10, code := some k15c1 }
def k15c2 : Code := { maxStack := 3, maxLocals := 3, code := jdk_65_method_132_code, exceptionTable := #[], attributes := #[] }
def k15m2 : Method := { name := "copyOfRange", desc := "([BII)[B", sig := { parameters := [(.array .byte), .int, .int], returnType := some (.array .byte) }, accessFlags := 9, code := some k15c2 }
def k15c3 : Code := { maxStack := 6, maxLocals := 5, code := jdk_65_method_133_code, exceptionTable := #[], attributes := #[] }
def k15m3 : Method := { name := "copyOfRangeByte", desc := "([BII)[B", sig := { parameters := [(.array .byte), .int, .int], returnType := some (.array .byte) }, accessFlags := 10, code := some k15c3 }
/-- java/util/Arrays -/
def k15 : Class := { plain "java/util/Arrays" (some 0) with
  accessFlags := 49
  interfaces := #[]
  cf := some (fileOf pool15 14 #[.nestMembers #[975, 375, 113, 74]] #[{ accessFlags := 2, nameIndex := 5, descriptorIndex := 6, attributes := #[] }, { accessFlags := 10, nameIndex := 345, descriptorIndex := 346, attributes := #[] }, { accessFlags := 9, nameIndex := 139, descriptorIndex := 342, attributes := #[] }, { accessFlags := 10, nameIndex := 341, descriptorIndex := 342, attributes := #[] }] 49 2 #[] #[{ accessFlags := 26, nameIndex := 715, descriptorIndex := 716, attributes := #[] }, { accessFlags := 26, nameIndex := 719, descriptorIndex := 716, attributes := #[] }, { accessFlags := 4120, nameIndex := 445, descriptorIndex := 117, attributes := #[] }])
  fields := #[{ name := "MIN_ARRAY_SORT_GRAN", type := .int, accessFlags := 26, slot := 0, constantValue := 0 }, { name := "INSERTIONSORT_THRESHOLD", type := .int, accessFlags := 26, slot := 1, constantValue := 0 }, { name := "$assertionsDisabled", type := .boolean, accessFlags := 4120, slot := 2, constantValue := 0 }]
  methods := #[k15m0, k15m1, k15m2, k15m3]
  instanceTypes := #[]
  staticTypes := #[.int, .int, .boolean]
  resolved := Array.replicate 1029 none
  statics := none }

def pool16 : Array CpInfo := pool [(1, .class_ 2), (0, u "java/lang/Math"), (1, .class_ 6), (1, u "java/lang/Object"), (0, u "<init>"), (0, u "()V"), (89, .class_ 100), (1, u "java/lang/Math$RandomNumberGeneratorHolder"), (71, u "negativeZeroFloatBits"), (0, u "J"), (2, u "negativeZeroDoubleBits"), (24, u "min"), (43, u "$assertionsDisabled"), (0, u "Z"), (88, u "(II)I"), (2, u "twoToTheDoubleScaleDown"), (0, u "D"), (4, u "twoToTheDoubleScaleUp"), (9, u "E"), (3, u "PI"), (2, u "TAU"), (2, u "DEGREES_TO_RADIANS"), (0, u "RADIANS_TO_DEGREES")] 94

def k16m0 : Method := { name := "<init>", desc := "()V", sig := { parameters := [], returnType := none }, accessFlags := 2, code := none }
def k16c1 : Code := { maxStack := 2, maxLocals := 2, code := jdk_29_method_69_code, exceptionTable := #[], attributes := #[] }
def k16m1 : Method := { name := "min", desc := "(II)I", sig := { parameters := [.int, .int], returnType := some .int }, accessFlags := 9, code := some k16c1 }
/-- java/lang/Math -/
def k16 : Class := { plain "java/lang/Math" (some 0) with
  accessFlags := 49
  interfaces := #[]
  cf := some (fileOf pool16 1 #[.nestMembers #[98]] #[{ accessFlags := 2, nameIndex := 7, descriptorIndex := 8, attributes := #[] }, { accessFlags := 9, nameIndex := 201, descriptorIndex := 335, attributes := #[] }] 49 4 #[] #[{ accessFlags := 25, nameIndex := 354, descriptorIndex := 339, attributes := #[] }, { accessFlags := 25, nameIndex := 358, descriptorIndex := 339, attributes := #[] }, { accessFlags := 25, nameIndex := 361, descriptorIndex := 339, attributes := #[] }, { accessFlags := 26, nameIndex := 364, descriptorIndex := 339, attributes := #[] }, { accessFlags := 26, nameIndex := 365, descriptorIndex := 339, attributes := #[] }, { accessFlags := 26, nameIndex := 172, descriptorIndex := 173, attributes := #[] }, { accessFlags := 26, nameIndex := 176, descriptorIndex := 173, attributes := #[] }, { accessFlags := 8, nameIndex := 344, descriptorIndex := 339, attributes := #[] }, { accessFlags := 8, nameIndex := 338, descriptorIndex := 339, attributes := #[] }, { accessFlags := 4120, nameIndex := 245, descriptorIndex := 246, attributes := #[] }])
  fields := #[{ name := "E", type := .double, accessFlags := 25, slot := 0, constantValue := 0 }, { name := "PI", type := .double, accessFlags := 25, slot := 1, constantValue := 0 }, { name := "TAU", type := .double, accessFlags := 25, slot := 2, constantValue := 0 }, { name := "DEGREES_TO_RADIANS", type := .double, accessFlags := 26, slot := 3, constantValue := 0 }, { name := "RADIANS_TO_DEGREES", type := .double, accessFlags := 26, slot := 4, constantValue := 0 }, { name := "negativeZeroFloatBits", type := .long, accessFlags := 26, slot := 5, constantValue := 0 }, { name := "negativeZeroDoubleBits", type := .long, accessFlags := 26, slot := 6, constantValue := 0 }, { name := "twoToTheDoubleScaleUp", type := .double, accessFlags := 8, slot := 7, constantValue := 0 }, { name := "twoToTheDoubleScaleDown", type := .double, accessFlags := 8, slot := 8, constantValue := 0 }, { name := "$assertionsDisabled", type := .boolean, accessFlags := 4120, slot := 9, constantValue := 0 }]
  methods := #[k16m0, k16m1]
  instanceTypes := #[]
  staticTypes := #[.double, .double, .double, .double, .double, .long, .long, .double, .double, .boolean]
  resolved := Array.replicate 460 none
  statics := none }

def pool17 : Array CpInfo := pool [(1, .class_ 2), (0, u "java/lang/String"), (1, .class_ 6), (1, u "java/lang/Object"), (0, u "<init>"), (0, u "()V"), (0, .methodref 1 10), (0, .nameAndType 11 12), (0, u "checkIndex"), (0, u "(II)V"), (1, .class_ 16), (1, u "java/lang/StringLatin1"), (36, u "([BI)C"), (36, u "canEncode"), (14, u "(C)Z"), (15, u "$assertionsDisabled"), (0, u "Z"), (98, .class_ 223), (1, u "java/lang/StringLatin1$LinesSpliterator"), (28, u "charAt"), (127, u "toBytes"), (1, u "(C)[B"), (7, .class_ 391), (0, u "java/lang/StringLatin1$CharsSpliterator")] 3

def k17m0 : Method := { name := "<init>", desc := "()V", sig := { parameters := [], returnType := none }, accessFlags := 0, code := none }
def k17c1 : Code := { maxStack := 2, maxLocals := 2, code := jdk_43_method_2_code, exceptionTable := #[], attributes := #[] }
def k17m1 : Method := { name := "charAt", desc := "([BI)C", sig := { parameters := [(.array .byte), .int], returnType := some .char }, accessFlags := 9, code := some k17c1 }
def k17c2 : Code := { maxStack := 2, maxLocals := 1, code := jdk_43_method_3_code, exceptionTable := #[], attributes := #[] }
def k17m2 : Method := { name := "canEncode", desc := "(C)Z", sig := { parameters := [.char], returnType := some .boolean }, accessFlags := 9, code := some k17c2 }
def k17c3 : Code := { maxStack := 4, maxLocals := 1, code := jdk_43_method_46_code, exceptionTable := #[], attributes := #[] }
def k17m3 : Method := { name := "toBytes", desc := "(C)[B", sig := { parameters := [.char], returnType := some (.array .byte) }, accessFlags := 9, code := some k17c3 }
/-- java/lang/StringLatin1 -/
def k17 : Class := { plain "java/lang/StringLatin1" (some 0) with
  accessFlags := 48
  interfaces := #[]
  cf := some (fileOf pool17 14 #[.nestMembers #[390, 221]] #[{ accessFlags := 0, nameIndex := 7, descriptorIndex := 8, attributes := #[] }, { accessFlags := 9, nameIndex := 252, descriptorIndex := 53, attributes := #[] }, { accessFlags := 9, nameIndex := 90, descriptorIndex := 105, attributes := #[] }, { accessFlags := 9, nameIndex := 380, descriptorIndex := 382, attributes := #[] }] 48 4 #[] #[{ accessFlags := 4120, nameIndex := 121, descriptorIndex := 122, attributes := #[] }])
  fields := #[{ name := "$assertionsDisabled", type := .boolean, accessFlags := 4120, slot := 0, constantValue := 0 }]
  methods := #[k17m0, k17m1, k17m2, k17m3]
  instanceTypes := #[]
  staticTypes := #[.boolean]
  resolved := Array.replicate 395 none
  statics := none }

def pool18 : Array CpInfo := pool [(2, .class_ 4), (1, u "java/lang/Object"), (0, u "<init>"), (0, u "()V"), (17, .class_ 26), (1, u "jdk/internal/util/Preconditions"), (6, u "checkIndex"), (21, .class_ 56), (0, u "jdk/internal/util/Preconditions$4"), (57, .class_ 115), (0, u "jdk/internal/util/Preconditions$1"), (7, u "SIOOBE_FORMATTER"), (0, u "Ljava/util/function/BiFunction;"), (0, .class_ 126), (0, u "jdk/internal/util/Preconditions$2"), (3, u "AIOOBE_FORMATTER"), (0, .class_ 132), (0, u "jdk/internal/util/Preconditions$3"), (3, u "IOOBE_FORMATTER"), (41, u "(IILjava/util/function/BiFunction;)I")] 15

def k18m0 : Method := { name := "<init>", desc := "()V", sig := { parameters := [], returnType := none }, accessFlags := 1, code := none }
def k18c1 : Code := { maxStack := 3, maxLocals := 3, code := jdk_41_method_11_code, exceptionTable := #[], attributes := #[] }
def k18m1 : Method := { name := "checkIndex", desc := "(IILjava/util/function/BiFunction;)I", sig := { parameters := [.int, .int, (.object "java/util/function/BiFunction")], returnType := some .int }, accessFlags := 9, code := some k18c1 }
/-- jdk/internal/util/Preconditions -/
def k18 : Class := { plain "jdk/internal/util/Preconditions" (some 0) with
  accessFlags := 33
  interfaces := #[]
  cf := some (fileOf pool18 24 #[.nestMembers #[55, 131, 125, 114]] #[{ accessFlags := 1, nameIndex := 5, descriptorIndex := 6, attributes := #[] }, { accessFlags := 9, nameIndex := 33, descriptorIndex := 178, attributes := #[] }] 33 2 #[] #[{ accessFlags := 25, nameIndex := 123, descriptorIndex := 124, attributes := #[] }, { accessFlags := 25, nameIndex := 130, descriptorIndex := 124, attributes := #[] }, { accessFlags := 25, nameIndex := 136, descriptorIndex := 124, attributes := #[] }])
  fields := #[{ name := "SIOOBE_FORMATTER", type := (.object "java/util/function/BiFunction"), accessFlags := 25, slot := 0, constantValue := 0 }, { name := "AIOOBE_FORMATTER", type := (.object "java/util/function/BiFunction"), accessFlags := 25, slot := 1, constantValue := 0 }, { name := "IOOBE_FORMATTER", type := (.object "java/util/function/BiFunction"), accessFlags := 25, slot := 2, constantValue := 0 }]
  methods := #[k18m0, k18m1]
  instanceTypes := #[]
  staticTypes := #[(.object "java/util/function/BiFunction"), (.object "java/util/function/BiFunction"), (.object "java/util/function/BiFunction")]
  resolved := Array.replicate 194 none
  statics := some 2 }

def pool19 : Array CpInfo := pool [(6, .class_ 8), (1, u "java/lang/Object"), (0, u "<init>"), (0, u "()V"), (1, .class_ 14), (1, u "java/lang/StringUTF16"), (31, u "$assertionsDisabled"), (0, u "Z"), (13, u "HI_BYTE_SHIFT"), (0, u "I"), (2, u "LO_BYTE_SHIFT"), (49, .methodref 12 116), (0, .nameAndType 117 118), (0, u "compress"), (0, u "([CI[BII)I"), (3, u "([CII)[B"), (138, u "coderFromArrayLen"), (0, u "([BI)B"), (106, .class_ 371), (1, u "java/lang/StringUTF16$LinesSpliterator"), (58, u "MAX_LENGTH"), (196, .class_ 628), (0, u "java/lang/StringUTF16$CodePointsSpliterator"), (0, .class_ 630), (0, u "java/lang/StringUTF16$CharsSpliterator")] 4

def k19m0 : Method := { name := "<init>", desc := "()V", sig := { parameters := [], returnType := none }, accessFlags := 0, code := none }
def k19c1 : Code := { maxStack := 2, maxLocals := 2, code := jdk_52_method_15_code, exceptionTable := #[], attributes := #[] }
def k19m1 : Method := { name := "coderFromArrayLen", desc := "([BI)B", sig := { parameters := [(.array .byte), .int], returnType := some .byte }, accessFlags := 8, code := some k19c1 }
def k19c2 : Code := { maxStack := 5, maxLocals := 6, code := jdk_52_method_16_code, exceptionTable := #[], attributes := #[] }
def k19m2 : Method := { name := "compress", desc := "([CII)[B", sig := { parameters := [(.array .char), .int, .int], returnType := some (.array .byte) }, accessFlags := 9, code := some k19c2 }
def k19c3 : Code := { maxStack := 3, maxLocals := 7, code := jdk_52_method_21_code, exceptionTable := #[], attributes := #[] }
def k19m3 : Method := { name := "compress", desc := "([CI[BII)I", sig := { parameters := [(.array .char), .int, (.array .byte), .int, .int], returnType := some .int }, accessFlags := 9, code := some k19c3 }
/-- java/lang/StringUTF16 -/
def k19 : Class := { plain "java/lang/StringUTF16" (some 0) with
  accessFlags := 48
  interfaces := #[]
  cf := some (fileOf pool19 12 #[.nestMembers #[627, 629, 369]] #[{ accessFlags := 0, nameIndex := 9, descriptorIndex := 10, attributes := #[] }, { accessFlags := 8, nameIndex := 261, descriptorIndex := 262, attributes := #[] }, { accessFlags := 9, nameIndex := 117, descriptorIndex := 122, attributes := #[] }, { accessFlags := 9, nameIndex := 117, descriptorIndex := 118, attributes := #[] }] 48 6 #[] #[{ accessFlags := 26, nameIndex := 61, descriptorIndex := 62, attributes := #[] }, { accessFlags := 26, nameIndex := 65, descriptorIndex := 62, attributes := #[] }, { accessFlags := 24, nameIndex := 430, descriptorIndex := 62, attributes := #[] }, { accessFlags := 4120, nameIndex := 46, descriptorIndex := 47, attributes := #[] }])
  fields := #[{ name := "HI_BYTE_SHIFT", type := .int, accessFlags := 26, slot := 0, constantValue := 0 }, { name := "LO_BYTE_SHIFT", type := .int, accessFlags := 26, slot := 1, constantValue := 0 }, { name := "MAX_LENGTH", type := .int, accessFlags := 24, slot := 2, constantValue := 0 }, { name := "$assertionsDisabled", type := .boolean, accessFlags := 4120, slot := 3, constantValue := 0 }]
  methods := #[k19m0, k19m1, k19m2, k19m3]
  instanceTypes := #[]
  staticTypes := #[.int, .int, .int, .boolean]
  resolved := Array.replicate 635 none
  statics := none }

def pool20 : Array CpInfo := pool [(9, u "<init>"), (6, .class_ 18), (1, u "java/lang/Object"), (0, u "()V"), (1, .class_ 23), (1, u "jdk/internal/util/ArraysSupport"), (0, u "LOG2_ARRAY_LONG_INDEX_SCALE"), (0, u "I"), (2, u "U"), (0, u "Ljdk/internal/misc/Unsafe;"), (8, u "BIG_ENDIAN"), (0, u "Z"), (8, u "LOG2_BYTE_BIT_SIZE"), (4, u "LOG2_ARRAY_INT_INDEX_SCALE"), (54, u "JLA"), (0, u "Ljdk/internal/access/JavaLangAccess;"), (11, u "LOG2_ARRAY_BOOLEAN_INDEX_SCALE"), (9, u "LOG2_ARRAY_BYTE_INDEX_SCALE"), (5, u "LOG2_ARRAY_CHAR_INDEX_SCALE"), (5, u "LOG2_ARRAY_SHORT_INDEX_SCALE"), (18, u "LOG2_ARRAY_FLOAT_INDEX_SCALE"), (24, u "LOG2_ARRAY_DOUBLE_INDEX_SCALE"), (89, u "T_BOOLEAN"), (2, u "T_CHAR"), (1, u "T_FLOAT"), (1, u "T_DOUBLE"), (1, u "T_BYTE"), (1, u "T_SHORT"), (1, u "T_INT"), (1, u "T_LONG"), (1, u "SOFT_MAX_ARRAY_LENGTH")] 83

def k20m0 : Method := { name := "<init>", desc := "()V", sig := { parameters := [], returnType := none }, accessFlags := 2, code := none }
/-- jdk/internal/util/ArraysSupport -/
def k20 : Class := { plain "jdk/internal/util/ArraysSupport" (some 0) with
  accessFlags := 33
  interfaces := #[]
  cf := some (fileOf pool20 21 #[] #[{ accessFlags := 2, nameIndex := 9, descriptorIndex := 19, attributes := #[] }] 33 16 #[] #[{ accessFlags := 24, nameIndex := 28, descriptorIndex := 29, attributes := #[] }, { accessFlags := 26, nameIndex := 38, descriptorIndex := 39, attributes := #[] }, { accessFlags := 25, nameIndex := 121, descriptorIndex := 25, attributes := #[] }, { accessFlags := 25, nameIndex := 131, descriptorIndex := 25, attributes := #[] }, { accessFlags := 25, nameIndex := 137, descriptorIndex := 25, attributes := #[] }, { accessFlags := 25, nameIndex := 143, descriptorIndex := 25, attributes := #[] }, { accessFlags := 25, nameIndex := 53, descriptorIndex := 25, attributes := #[] }, { accessFlags := 25, nameIndex := 24, descriptorIndex := 25, attributes := #[] }, { accessFlags := 25, nameIndex := 162, descriptorIndex := 25, attributes := #[] }, { accessFlags := 25, nameIndex := 187, descriptorIndex := 25, attributes := #[] }, { accessFlags := 26, nameIndex := 48, descriptorIndex := 25, attributes := #[] }, { accessFlags := 25, nameIndex := 277, descriptorIndex := 25, attributes := #[] }, { accessFlags := 25, nameIndex := 280, descriptorIndex := 25, attributes := #[] }, { accessFlags := 25, nameIndex := 282, descriptorIndex := 25, attributes := #[] }, { accessFlags := 25, nameIndex := 284, descriptorIndex := 25, attributes := #[] }, { accessFlags := 25, nameIndex := 286, descriptorIndex := 25, attributes := #[] }, { accessFlags := 25, nameIndex := 288, descriptorIndex := 25, attributes := #[] }, { accessFlags := 25, nameIndex := 290, descriptorIndex := 25, attributes := #[] }, { accessFlags := 25, nameIndex := 292, descriptorIndex := 25, attributes := #[] }, { accessFlags := 26, nameIndex := 108, descriptorIndex := 109, attributes := #[] }, { accessFlags := 25, nameIndex := 294, descriptorIndex := 25, attributes := #[] }])
  fields := #[{ name := "U", type := (.object "jdk/internal/misc/Unsafe"), accessFlags := 24, slot := 0, constantValue := 0 }, { name := "BIG_ENDIAN", type := .boolean, accessFlags := 26, slot := 1, constantValue := 0 }, { name := "LOG2_ARRAY_BOOLEAN_INDEX_SCALE", type := .int, accessFlags := 25, slot := 2, constantValue := 0 }, { name := "LOG2_ARRAY_BYTE_INDEX_SCALE", type := .int, accessFlags := 25, slot := 3, constantValue := 0 }, { name := "LOG2_ARRAY_CHAR_INDEX_SCALE", type := .int, accessFlags := 25, slot := 4, constantValue := 0 }, { name := "LOG2_ARRAY_SHORT_INDEX_SCALE", type := .int, accessFlags := 25, slot := 5, constantValue := 0 }, { name := "LOG2_ARRAY_INT_INDEX_SCALE", type := .int, accessFlags := 25, slot := 6, constantValue := 0 }, { name := "LOG2_ARRAY_LONG_INDEX_SCALE", type := .int, accessFlags := 25, slot := 7, constantValue := 0 }, { name := "LOG2_ARRAY_FLOAT_INDEX_SCALE", type := .int, accessFlags := 25, slot := 8, constantValue := 0 }, { name := "LOG2_ARRAY_DOUBLE_INDEX_SCALE", type := .int, accessFlags := 25, slot := 9, constantValue := 0 }, { name := "LOG2_BYTE_BIT_SIZE", type := .int, accessFlags := 26, slot := 10, constantValue := 0 }, { name := "T_BOOLEAN", type := .int, accessFlags := 25, slot := 11, constantValue := 0 }, { name := "T_CHAR", type := .int, accessFlags := 25, slot := 12, constantValue := 0 }, { name := "T_FLOAT", type := .int, accessFlags := 25, slot := 13, constantValue := 0 }, { name := "T_DOUBLE", type := .int, accessFlags := 25, slot := 14, constantValue := 0 }, { name := "T_BYTE", type := .int, accessFlags := 25, slot := 15, constantValue := 0 }, { name := "T_SHORT", type := .int, accessFlags := 25, slot := 16, constantValue := 0 }, { name := "T_INT", type := .int, accessFlags := 25, slot := 17, constantValue := 0 }, { name := "T_LONG", type := .int, accessFlags := 25, slot := 18, constantValue := 0 }, { name := "JLA", type := (.object "jdk/internal/access/JavaLangAccess"), accessFlags := 26, slot := 19, constantValue := 0 }, { name := "SOFT_MAX_ARRAY_LENGTH", type := .int, accessFlags := 25, slot := 20, constantValue := 0 }]
  methods := #[k20m0]
  instanceTypes := #[]
  staticTypes := #[(.object "jdk/internal/misc/Unsafe"), .boolean, .int, .int, .int, .int, .int, .int, .int, .int, .int, .int, .int, .int, .int, .int, .int, .int, .int, (.object "jdk/internal/access/JavaLangAccess"), .int]
  resolved := Array.replicate 378 none
  statics := none }

def pool21 : Array CpInfo := pool [(2, .class_ 4), (1, u "java/lang/Object"), (0, u "<init>"), (0, u "()V"), (12, .class_ 20), (0, u "java/util/Collections"), (63, u "r"), (0, u "Ljava/util/Random;"), (80, .class_ 167), (0, u "java/util/Collections$UnmodifiableCollection"), (6, .class_ 175), (0, u "java/util/Collections$UnmodifiableSequencedCollection"), (6, .class_ 183), (0, u "java/util/Collections$UnmodifiableSet"), (6, .class_ 191), (0, u "java/util/Collections$UnmodifiableSequencedSet"), (6, .class_ 199), (0, u "java/util/Collections$UnmodifiableSortedSet"), (6, .class_ 207), (0, u "java/util/Collections$UnmodifiableNavigableSet"), (4, .class_ 213), (0, u "java/util/Collections$UnmodifiableList"), (1, .class_ 216), (0, u "java/util/Collections$UnmodifiableRandomAccessList"), (6, .class_ 224), (0, u "java/util/Collections$UnmodifiableMap"), (6, .class_ 232), (0, u "java/util/Collections$UnmodifiableSequencedMap"), (4, .class_ 238), (0, u "java/util/Collections$UnmodifiableSortedMap"), (6, .class_ 246), (0, u "java/util/Collections$UnmodifiableNavigableMap"), (3, .class_ 251), (0, u "java/util/Collections$SynchronizedCollection"), (4, .class_ 257), (0, u "java/util/Collections$SynchronizedSet"), (4, .class_ 263), (0, u "java/util/Collections$SynchronizedSortedSet"), (1, .class_ 266), (0, u "java/util/Collections$SynchronizedNavigableSet"), (1, .class_ 269), (0, u "java/util/Collections$SynchronizedRandomAccessList"), (1, .class_ 272), (0, u "java/util/Collections$SynchronizedList"), (5, .class_ 279), (0, u "java/util/Collections$SynchronizedMap"), (1, .class_ 282), (0, u "java/util/Collections$SynchronizedSortedMap"), (1, .class_ 285), (0, u "java/util/Collections$SynchronizedNavigableMap"), (1, .class_ 288), (0, u "java/util/Collections$CheckedCollection"), (11, .class_ 301), (0, u "java/util/Collections$CheckedQueue"), (3, .class_ 306), (0, u "java/util/Collections$CheckedSet"), (3, .class_ 311), (0, u "java/util/Collections$CheckedSortedSet"), (3, .class_ 316), (0, u "java/util/Collections$CheckedNavigableSet"), (3, .class_ 321), (0, u "java/util/Collections$CheckedRandomAccessList"), (3, .class_ 326), (0, u "java/util/Collections$CheckedList"), (1, .class_ 329), (0, u "java/util/Collections$CheckedMap"), (3, .class_ 334), (0, u "java/util/Collections$CheckedSortedMap"), (3, .class_ 339), (0, u "java/util/Collections$CheckedNavigableMap"), (4, .class_ 346), (1, u "java/util/Collections$EmptyIterator"), (3, .class_ 352), (1, u "java/util/Collections$EmptyListIterator"), (2, .class_ 357), (1, u "java/util/Collections$EmptyEnumeration"), (4, u "EMPTY_SET"), (0, u "Ljava/util/Set;"), (6, u "EMPTY_LIST"), (0, u "Ljava/util/List;"), (2, u "EMPTY_MAP"), (0, u "Ljava/util/Map;"), (4, .class_ 381), (0, u "java/util/Collections$SingletonSet"), (2, .class_ 385), (0, u "java/util/Collections$1"), (1, .class_ 388), (0, u "java/util/Collections$2"), (1, .class_ 391), (0, u "java/util/Collections$SingletonList"), (1, .class_ 394), (0, u "java/util/Collections$SingletonMap"), (22, .class_ 418), (0, u "java/util/Collections$CopiesList"), (4, .class_ 425), (1, u "java/util/Collections$ReverseComparator"), (8, .class_ 435), (0, u "java/util/Collections$ReverseComparator2"), (6, .class_ 443), (0, u "java/util/Collections$3"), (25, .class_ 470), (0, u "java/util/Collections$SetFromMap"), (2, .class_ 474), (0, u "java/util/Collections$SequencedSetFromMap"), (3, .class_ 479), (0, u "java/util/Collections$AsLIFOQueue"), (11, .class_ 492), (0, u "java/util/Collections$EmptySet"), (1, .class_ 495), (0, u "java/util/Collections$EmptyList"), (1, .class_ 498), (0, u "java/util/Collections$EmptyMap"), (1, u "BINARYSEARCH_THRESHOLD"), (0, u "I"), (2, u "REVERSE_THRESHOLD"), (1, u "SHUFFLE_THRESHOLD"), (1, u "FILL_THRESHOLD"), (1, u "ROTATE_THRESHOLD"), (1, u "COPY_THRESHOLD"), (1, u "REPLACEALL_THRESHOLD"), (1, u "INDEXOFSUBLIST_THRESHOLD"), (333, .class_ 851), (0, u "java/util/Collections$CheckedMap$CheckedEntrySet"), (0, .class_ 853), (0, u "java/util/Collections$CheckedMap$CheckedEntrySet$CheckedEntry"), (0, .class_ 855), (0, u "java/util/Collections$CheckedMap$CheckedEntrySet$1"), (0, .class_ 857), (0, u "java/util/Collections$CheckedList$1"), (0, .class_ 859), (0, u "java/util/Collections$CheckedCollection$1"), (0, .class_ 861), (0, u "java/util/Collections$UnmodifiableNavigableMap$EmptyNavigableMap"), (0, .class_ 863), (0, u "java/util/Collections$UnmodifiableMap$UnmodifiableEntrySet"), (0, .class_ 865), (0, u "java/util/Collections$UnmodifiableMap$UnmodifiableEntrySet$UnmodifiableEntry"), (0, .class_ 867), (0, u "java/util/Collections$UnmodifiableMap$UnmodifiableEntrySet$UnmodifiableEntrySetSpliterator"), (0, .class_ 869), (0, u "java/util/Collections$UnmodifiableMap$UnmodifiableEntrySet$1"), (0, .class_ 871), (0, u "java/util/Collections$UnmodifiableList$1"), (0, .class_ 873), (0, u "java/util/Collections$UnmodifiableNavigableSet$EmptyNavigableSet"), (0, .class_ 875), (0, u "java/util/Collections$UnmodifiableCollection$1")] 57

def k21m0 : Method := { name := "<init>", desc := "()V", sig := { parameters := [], returnType := none }, accessFlags := 2, code := none }
/-- java/util/Collections -/
def k21 : Class := { plain "java/util/Collections" (some 0) with
  accessFlags := 33
  interfaces := #[]
  cf := some (fileOf pool21 19 #[.nestMembers #[478, 473, 469, 434, 423, 417, 393, 390, 380, 497, 494, 491, 355, 350, 344, 338, 333, 328, 850, 852, 854, 320, 325, 856, 315, 310, 305, 300, 287, 858, 284, 281, 278, 268, 271, 265, 262, 256, 250, 245, 860, 237, 231, 223, 862, 864, 866, 868, 215, 212, 870, 206, 872, 198, 190, 182, 174, 166, 874, 442, 387, 384]] #[{ accessFlags := 2, nameIndex := 5, descriptorIndex := 6, attributes := #[] }] 33 2 #[] #[{ accessFlags := 26, nameIndex := 500, descriptorIndex := 501, attributes := #[] }, { accessFlags := 26, nameIndex := 504, descriptorIndex := 501, attributes := #[] }, { accessFlags := 26, nameIndex := 506, descriptorIndex := 501, attributes := #[] }, { accessFlags := 26, nameIndex := 508, descriptorIndex := 501, attributes := #[] }, { accessFlags := 26, nameIndex := 510, descriptorIndex := 501, attributes := #[] }, { accessFlags := 26, nameIndex := 512, descriptorIndex := 501, attributes := #[] }, { accessFlags := 26, nameIndex := 514, descriptorIndex := 501, attributes := #[] }, { accessFlags := 26, nameIndex := 516, descriptorIndex := 501, attributes := #[] }, { accessFlags := 10, nameIndex := 84, descriptorIndex := 85, attributes := #[] }, { accessFlags := 25, nameIndex := 362, descriptorIndex := 363, attributes := #[] }, { accessFlags := 25, nameIndex := 370, descriptorIndex := 371, attributes := #[] }, { accessFlags := 25, nameIndex := 374, descriptorIndex := 375, attributes := #[] }])
  fields := #[{ name := "BINARYSEARCH_THRESHOLD", type := .int, accessFlags := 26, slot := 0, constantValue := 0 }, { name := "REVERSE_THRESHOLD", type := .int, accessFlags := 26, slot := 1, constantValue := 0 }, { name := "SHUFFLE_THRESHOLD", type := .int, accessFlags := 26, slot := 2, constantValue := 0 }, { name := "FILL_THRESHOLD", type := .int, accessFlags := 26, slot := 3, constantValue := 0 }, { name := "ROTATE_THRESHOLD", type := .int, accessFlags := 26, slot := 4, constantValue := 0 }, { name := "COPY_THRESHOLD", type := .int, accessFlags := 26, slot := 5, constantValue := 0 }, { name := "REPLACEALL_THRESHOLD", type := .int, accessFlags := 26, slot := 6, constantValue := 0 }, { name := "INDEXOFSUBLIST_THRESHOLD", type := .int, accessFlags := 26, slot := 7, constantValue := 0 }, { name := "r", type := (.object "java/util/Random"), accessFlags := 10, slot := 8, constantValue := 0 }, { name := "EMPTY_SET", type := (.object "java/util/Set"), accessFlags := 25, slot := 9, constantValue := 0 }, { name := "EMPTY_LIST", type := (.object "java/util/List"), accessFlags := 25, slot := 10, constantValue := 0 }, { name := "EMPTY_MAP", type := (.object "java/util/Map"), accessFlags := 25, slot := 11, constantValue := 0 }]
  methods := #[k21m0]
  instanceTypes := #[]
  staticTypes := #[.int, .int, .int, .int, .int, .int, .int, .int, (.object "java/util/Random"), (.object "java/util/Set"), (.object "java/util/List"), (.object "java/util/Map")]
  resolved := Array.replicate 933 none
  statics := some 3 }

def pool22 : Array CpInfo := pool [(8, .class_ 10), (1, u "java/lang/Iterable"), (24, .class_ 36), (0, u "java/lang/Object")] 25

/-- java/lang/Iterable -/
def k22 : Class := { plain "java/lang/Iterable" (some 0) with
  accessFlags := 1537
  interfaces := #[]
  cf := some (fileOf pool22 8 #[] #[] 1537 35 #[] #[])
  fields := #[]
  methods := #[]
  instanceTypes := #[]
  staticTypes := #[]
  resolved := Array.replicate 62 none
  statics := none }

def pool23 : Array CpInfo := pool [(10, .class_ 12), (1, u "java/util/Collection"), (47, .class_ 61), (0, u "java/lang/Object"), (0, .class_ 63), (0, u "java/lang/Iterable")] 51

/-- java/util/Collection -/
def k23 : Class := { plain "java/util/Collection" (some 0) with
  accessFlags := 1537
  interfaces := #[22]
  cf := some (fileOf pool23 10 #[] #[] 1537 60 #[62] #[])
  fields := #[]
  methods := #[]
  instanceTypes := #[]
  staticTypes := #[]
  resolved := Array.replicate 115 none
  statics := none }

def pool24 : Array CpInfo := pool [(2, .class_ 4), (1, u "java/lang/Object"), (0, u "<init>"), (0, u "()V"), (1, .class_ 10), (1, u "java/util/AbstractCollection"), (66, .class_ 78), (0, u "java/util/Collection")] 81

def k24m0 : Method := { name := "<init>", desc := "()V", sig := { parameters := [], returnType := none }, accessFlags := 4, code := none }
/-- java/util/AbstractCollection -/
def k24 : Class := { plain "java/util/AbstractCollection" (some 0) with
  accessFlags := 1057
  interfaces := #[23]
  cf := some (fileOf pool24 8 #[] #[{ accessFlags := 4, nameIndex := 5, descriptorIndex := 6, attributes := #[] }] 1057 2 #[77] #[])
  fields := #[]
  methods := #[k24m0]
  instanceTypes := #[]
  staticTypes := #[]
  resolved := Array.replicate 160 none
  statics := none }

def pool25 : Array CpInfo := pool [(8, .class_ 10), (1, u "java/util/SequencedCollection"), (15, .class_ 27), (0, u "java/lang/Object"), (0, .class_ 29), (0, u "java/util/Collection")] 27

/-- java/util/SequencedCollection -/
def k25 : Class := { plain "java/util/SequencedCollection" (some 0) with
  accessFlags := 1537
  interfaces := #[23]
  cf := some (fileOf pool25 8 #[] #[] 1537 26 #[28] #[])
  fields := #[]
  methods := #[]
  instanceTypes := #[]
  staticTypes := #[]
  resolved := Array.replicate 57 none
  statics := none }

def pool26 : Array CpInfo := pool [(8, .class_ 10), (1, u "java/util/List"), (92, .class_ 104), (0, u "java/lang/Object"), (15, .class_ 121), (0, u "java/util/SequencedCollection")] 129

/-- java/util/List -/
def k26 : Class := { plain "java/util/List" (some 0) with
  accessFlags := 1537
  interfaces := #[25]
  cf := some (fileOf pool26 8 #[] #[] 1537 103 #[120] #[])
  fields := #[]
  methods := #[]
  instanceTypes := #[]
  staticTypes := #[]
  resolved := Array.replicate 251 none
  statics := none }

def pool27 : Array CpInfo := pool [(2, .class_ 4), (1, u "java/util/AbstractCollection"), (0, u "<init>"), (0, u "()V"), (1, .class_ 10), (1, u "java/util/AbstractList"), (0, u "modCount"), (0, u "I"), (64, .class_ 78), (0, u "java/util/AbstractList$Itr"), (3, .class_ 83), (0, u "java/util/AbstractList$ListItr"), (9, .class_ 94), (0, u "java/util/AbstractList$RandomAccessSubList"), (3, .class_ 99), (0, u "java/util/AbstractList$SubList"), (33, .class_ 134), (0, u "java/util/List"), (73, .class_ 209), (0, u "java/util/AbstractList$SubList$1"), (0, .class_ 211), (0, u "java/util/AbstractList$RandomAccessSpliterator")] 6

def k27m0 : Method := { name := "<init>", desc := "()V", sig := { parameters := [], returnType := none }, accessFlags := 4, code := none }
/-- java/util/AbstractList -/
def k27 : Class := { plain "java/util/AbstractList" (some 24) with
  accessFlags := 1057
  interfaces := #[26]
  cf := some (fileOf pool27 8 #[.nestMembers #[93, 98, 208, 210, 82, 77]] #[{ accessFlags := 4, nameIndex := 5, descriptorIndex := 6, attributes := #[] }] 1057 2 #[133] #[{ accessFlags := 132, nameIndex := 11, descriptorIndex := 12, attributes := #[] }])
  fields := #[{ name := "modCount", type := .int, accessFlags := 132, slot := 0, constantValue := 0 }]
  methods := #[k27m0]
  instanceTypes := #[.int]
  staticTypes := #[]
  resolved := Array.replicate 218 none
  statics := none }

def pool28 : Array CpInfo := pool [(1, .class_ 2), (0, u "java/util/RandomAccess"), (0, .class_ 4), (0, u "java/lang/Object")] 2

/-- java/util/RandomAccess -/
def k28 : Class := { plain "java/util/RandomAccess" (some 0) with
  accessFlags := 1537
  interfaces := #[]
  cf := some (fileOf pool28 1 #[] #[] 1537 3 #[] #[])
  fields := #[]
  methods := #[]
  instanceTypes := #[]
  staticTypes := #[]
  resolved := Array.replicate 7 none
  statics := none }

def pool29 : Array CpInfo := pool [(2, .class_ 4), (1, u "java/util/AbstractList"), (0, u "<init>"), (0, u "()V"), (1, .class_ 10), (1, u "java/util/Collections"), (54, .class_ 66), (0, u "java/util/Collections$EmptyList"), (0, .class_ 68), (0, u "java/util/RandomAccess"), (0, .class_ 70), (0, u "java/io/Serializable"), (0, u "serialVersionUID"), (0, u "J")] 77

def k29m0 : Method := { name := "<init>", desc := "()V", sig := { parameters := [], returnType := none }, accessFlags := 2, code := none }
/-- java/util/Collections$EmptyList -/
def k29 : Class := { plain "java/util/Collections$EmptyList" (some 27) with
  accessFlags := 32
  interfaces := #[28, 2]
  cf := some (fileOf pool29 65 #[.nestHost 8] #[{ accessFlags := 2, nameIndex := 5, descriptorIndex := 6, attributes := #[] }] 32 2 #[67, 69] #[{ accessFlags := 26, nameIndex := 71, descriptorIndex := 72, attributes := #[] }])
  fields := #[{ name := "serialVersionUID", type := .long, accessFlags := 26, slot := 0, constantValue := 0 }]
  methods := #[k29m0]
  instanceTypes := #[.int]
  staticTypes := #[.long]
  resolved := Array.replicate 150 none
  statics := none }

def pool30 : Array CpInfo := pool [(2, .class_ 4), (1, u "java/lang/StackTraceElement"), (0, u "<init>"), (2, .class_ 10), (1, u "java/lang/Object"), (0, u "()V"), (2, u "format"), (0, u "B"), (2, u "classLoaderName"), (0, u "Ljava/lang/String;"), (2, u "moduleName"), (2, u "moduleVersion"), (12, u "declaringClass"), (4, u "methodName"), (2, u "fileName"), (2, u "lineNumber"), (0, u "I"), (65, u "declaringClassObject"), (0, u "Ljava/lang/Class;"), (33, .class_ 153), (1, u "java/lang/StackTraceElement$HashedModules"), (17, .class_ 172), (0, u "java/io/Serializable"), (0, u "NATIVE_METHOD"), (1, u "UNKNOWN_SOURCE"), (2, u "BUILTIN_CLASS_LOADER"), (1, u "JDK_NON_UPGRADEABLE_MODULE"), (1, u "serialVersionUID"), (0, u "J")] 51

def k30m0 : Method := { name := "<init>", desc := "()V", sig := { parameters := [], returnType := none }, accessFlags := 2, code := none }
/-- java/lang/StackTraceElement -/
def k30 : Class := { plain "java/lang/StackTraceElement" (some 0) with
  accessFlags := 49
  interfaces := #[2]
  cf := some (fileOf pool30 2 #[.nestMembers #[151]] #[{ accessFlags := 2, nameIndex := 5, descriptorIndex := 11, attributes := #[] }] 49 8 #[171] #[{ accessFlags := 26, nameIndex := 173, descriptorIndex := 19, attributes := #[] }, { accessFlags := 26, nameIndex := 175, descriptorIndex := 19, attributes := #[] }, { accessFlags := 130, nameIndex := 116, descriptorIndex := 117, attributes := #[] }, { accessFlags := 2, nameIndex := 18, descriptorIndex := 19, attributes := #[] }, { accessFlags := 2, nameIndex := 22, descriptorIndex := 19, attributes := #[] }, { accessFlags := 2, nameIndex := 25, descriptorIndex := 19, attributes := #[] }, { accessFlags := 2, nameIndex := 38, descriptorIndex := 19, attributes := #[] }, { accessFlags := 2, nameIndex := 43, descriptorIndex := 19, attributes := #[] }, { accessFlags := 2, nameIndex := 46, descriptorIndex := 19, attributes := #[] }, { accessFlags := 2, nameIndex := 49, descriptorIndex := 50, attributes := #[] }, { accessFlags := 2, nameIndex := 14, descriptorIndex := 15, attributes := #[] }, { accessFlags := 26, nameIndex := 178, descriptorIndex := 15, attributes := #[] }, { accessFlags := 26, nameIndex := 180, descriptorIndex := 15, attributes := #[] }, { accessFlags := 26, nameIndex := 182, descriptorIndex := 183, attributes := #[] }])
  fields := #[{ name := "NATIVE_METHOD", type := (.object "java/lang/String"), accessFlags := 26, slot := 0, constantValue := 0 }, { name := "UNKNOWN_SOURCE", type := (.object "java/lang/String"), accessFlags := 26, slot := 1, constantValue := 0 }, { name := "declaringClassObject", type := (.object "java/lang/Class"), accessFlags := 130, slot := 0, constantValue := 0 }, { name := "classLoaderName", type := (.object "java/lang/String"), accessFlags := 2, slot := 1, constantValue := 0 }, { name := "moduleName", type := (.object "java/lang/String"), accessFlags := 2, slot := 2, constantValue := 0 }, { name := "moduleVersion", type := (.object "java/lang/String"), accessFlags := 2, slot := 3, constantValue := 0 }, { name := "declaringClass", type := (.object "java/lang/String"), accessFlags := 2, slot := 4, constantValue := 0 }, { name := "methodName", type := (.object "java/lang/String"), accessFlags := 2, slot := 5, constantValue := 0 }, { name := "fileName", type := (.object "java/lang/String"), accessFlags := 2, slot := 6, constantValue := 0 }, { name := "lineNumber", type := .int, accessFlags := 2, slot := 7, constantValue := 0 }, { name := "format", type := .byte, accessFlags := 2, slot := 8, constantValue := 0 }, { name := "BUILTIN_CLASS_LOADER", type := .byte, accessFlags := 26, slot := 2, constantValue := 0 }, { name := "JDK_NON_UPGRADEABLE_MODULE", type := .byte, accessFlags := 26, slot := 3, constantValue := 0 }, { name := "serialVersionUID", type := .long, accessFlags := 26, slot := 4, constantValue := 0 }]
  methods := #[k30m0]
  instanceTypes := #[(.object "java/lang/Class"), (.object "java/lang/String"), (.object "java/lang/String"), (.object "java/lang/String"), (.object "java/lang/String"), (.object "java/lang/String"), (.object "java/lang/String"), .int, .byte]
  staticTypes := #[(.object "java/lang/String"), (.object "java/lang/String"), .byte, .byte, .long]
  resolved := Array.replicate 235 none
  statics := none }

def pool31 : Array CpInfo := pool [(1, u "java/lang/Cloneable"), (0, .class_ 1), (0, u "java/lang/Object"), (0, .class_ 3)] 3

/-- java/lang/Cloneable -/
def k31 : Class := { plain "java/lang/Cloneable" (some 0) with
  accessFlags := 1537
  interfaces := #[]
  cf := some (fileOf pool31 2 #[] #[] 1537 4 #[] #[])
  fields := #[]
  methods := #[]
  instanceTypes := #[]
  staticTypes := #[]
  resolved := Array.replicate 8 none
  statics := none }

/-- the primitive byte -/
def k32 : Class := { plain "byte" none with kind := .primitive 'B', accessFlags := 0x411 }
/-- [B -/
def k33 : Class := { plain "[B" (some 0) with kind := .array 32 .byte, interfaces := #[31, 2], accessFlags := 1041 }

/-- the primitive char -/
def k34 : Class := { plain "char" none with kind := .primitive 'C', accessFlags := 0x411 }
/-- [C -/
def k35 : Class := { plain "[C" (some 0) with kind := .array 34 .char, interfaces := #[31, 2], accessFlags := 1041 }

/-- the primitive int -/
def k36 : Class := { plain "int" none with kind := .primitive 'I', accessFlags := 0x411 }
/-- [I -/
def k37 : Class := { plain "[I" (some 0) with kind := .array 36 .int, interfaces := #[31, 2], accessFlags := 1041 }

/-- [Ljava/lang/StackTraceElement; -/
def k38 : Class := { plain "[Ljava/lang/StackTraceElement;" (some 0) with kind := .array 30 (.object "java/lang/StackTraceElement"), interfaces := #[31, 2], accessFlags := 1041 }

/-- [Ljava/lang/Throwable; -/
def k39 : Class := { plain "[Ljava/lang/Throwable;" (some 0) with kind := .array 8 (.object "java/lang/Throwable"), interfaces := #[31, 2], accessFlags := 1041 }

def heap : Heap := #[{ cls := 7, slots := #[.long 0, .int 1, .null, .int 0, .null, .int 0, .int 0], vm := .statics 7 },
  { cls := 8, slots := #[.long 0, .ref 4, .ref 5, .null, .null, .null, .null, .ref 6, .int 1], vm := .statics 8 },
  { cls := 18, slots := #[.null, .null, .null], vm := .statics 18 },
  { cls := 21, slots := #[.int 0, .int 0, .int 0, .int 0, .int 0, .int 0, .int 0, .int 0, .null, .null, .ref 5, .null], vm := .statics 21 },
  { cls := 38, slots := #[], vm := .none },
  { cls := 29, slots := #[.int 0], vm := .none },
  { cls := 39, slots := #[], vm := .none }]
def classes : Array Class := #[k0, k1, k2, k3, k4, k5, k6, k7, k8, k9, k10, k11, k12, k13, k14, k15, k16, k17, k18, k19, k20, k21, k22, k23, k24, k25, k26, k27, k28, k29, k30, k31, k32, k33, k34, k35, k36, k37, k38, k39]
def interned : List (Array UInt16 × Addr) := []
def slotsUsed : Nat := 32
def theMethod : MethodId := ⟨1, 3⟩
def args0 : Array Value := #[.int 5, .int 5, .int 5]
def aboutOver (below : List Frame) : State where
  vm := { classes := classes, interned := interned.toArray }
  heap := heap
  slotsUsed := slotsUsed
  threads := #[{ frames := .invoking theMethod args0 :: below }]
def below0 : List Frame := [.native { method := ⟨0, 0⟩, args := #[] }]
def about1 : State := aboutOver below0
def p0 : Program := .bare "" "" ""
def e0 : Env := launch0.env 0 0 0
theorem w_frames : about1.frames = Frame.invoking theMethod args0 :: below0 := rfl
set_option maxRecDepth 65536 in
theorem w_args : argsFit about1.vm theMethod args0 = true := by decide +kernel
set_option maxRecDepth 65536 in
theorem w_heap : heapFits about1 = true := by decide +kernel
set_option maxRecDepth 65536 in
theorem w_runnable : about1.curStatus? = some .runnable := by decide +kernel
set_option maxRecDepth 65536 in
theorem w_alone : about1.alone = true := by decide +kernel
set_option maxRecDepth 65536 in
theorem w_named : about1.methodNamed? x = some theMethod := by decide +kernel
set_option maxRecDepth 65536 in
theorem w_hears : about1.hears theMethod below0 = true := by decide +kernel
set_option maxRecDepth 65536 in
theorem w_ripe : about1.ripe theMethod args0 below0 = true := by decide +kernel
theorem w_running : about1.status = .running := rfl
set_option maxRecDepth 65536 in
theorem w_room : about1.hasRoom e0.platform room_1 = true :=
  launch0.hasRoom_least _ room_1 (by decide +kernel) (by decide +kernel) (by decide +kernel) (by decide +kernel) (by decide +kernel) (by decide +kernel)
theorem allAtoms_all (ts : List Jvm.Cond) (a : Array Jvm.Value) (st : Jvm.State) : (allAtoms ts).before a st = ts.all (fun c => c.before a st) := by
  induction ts with
  | nil => rfl
  | cons c t ih =>
    show (Jvm.Cond.and c (allAtoms t)).before a st = _
    rw [Jvm.Cond.before_and, ih, List.all_cons]
def words1 : List Jvm.Cond := Jvm.Cond.code x code maxLocals ret :: tables_1
/-- a 'code' word, met by the world's own term for the bytes: nothing is compared byte by byte -/
theorem code_word {y : MethodName} {bytes : ByteArray} {mx : Nat} {rt : Option FieldType} {a : Array Value} {s : State} {m : MethodId} {meth : Method} {c : Code} (h1 : s.methodNamed? y = some m) (h2 : s.vm.method? m = some meth) (h3 : meth.code = some c) (h4 : c.code = bytes)
    (h5 : (c.maxLocals == mx && c.exceptionTable.isEmpty && decide (c.maxStack ≤ mostOperands) && decide (meth.sig.returnType = rt) && !meth.locks && decide (parseMethodDescriptor y.desc = some meth.sig)) = true) : (Jvm.Cond.code y bytes mx rt).before a s = true := by
  simp only [Bool.and_eq_true, beq_iff_eq, Bool.not_eq_true', decide_eq_true_eq] at h5
  obtain ⟨⟨⟨⟨⟨g1, g2⟩, g3⟩, g4⟩, g5⟩, g6⟩ := h5
  simp [Cond.before, Cond.holds, Cond.value, h1, h2, h3, h4, g1, g2, g3, g4, g5, g6]
def isCode : Jvm.Cond → Bool
  | .code _ _ _ _ => true
  | _ => false
theorem all_split {L : List Jvm.Cond} {P : Jvm.Cond → Bool} (h1 : L.all (fun c => isCode c || P c) = true) (h2 : ∀ c ∈ L.filter isCode, P c = true) : L.all P = true := by
  refine List.all_eq_true.mpr fun c hc => ?_
  have h := List.all_eq_true.mp h1 c hc
  rcases Bool.eq_false_or_eq_true (isCode c) with hi | hi
  · exact h2 c (List.mem_filter.mpr ⟨hc, hi⟩)
  · simpa [hi] using h
set_option maxRecDepth 65536 in
theorem w_c0 : (Jvm.Cond.code x code maxLocals ret).before args0 about1 = true := code_word (m := ⟨1, 3⟩) (meth := k1m3) (c := k1c3) (by decide +kernel) rfl rfl rfl (by decide +kernel)
set_option maxRecDepth 65536 in
theorem w_c1 : (Jvm.Cond.code ({ cls := "com/example/vestline/vestline/input/MalformedFieldExceptionWithinPinLaw", name := "str", desc := "(I)Ljava/lang/String;" } : Jvm.MethodName) method_2_code (4 : Nat) (Option.some (Jvm.ClassFile.FieldType.object "java/lang/String"))).before args0 about1 = true := code_word (m := ⟨1, 1⟩) (meth := k1m1) (c := k1c1) (by decide +kernel) rfl rfl rfl (by decide +kernel)
set_option maxRecDepth 65536 in
theorem w_c2 : (Jvm.Cond.code ({ cls := "java/lang/String", name := "<init>", desc := "([C)V" } : Jvm.MethodName) jdk_42_method_3_code (2 : Nat) (Option.none : Option Jvm.ClassFile.FieldType)).before args0 about1 = true := code_word (m := ⟨7, 1⟩) (meth := k7m1) (c := k7c1) (by decide +kernel) rfl rfl rfl (by decide +kernel)
set_option maxRecDepth 65536 in
theorem w_c3 : (Jvm.Cond.code ({ cls := "java/lang/String", name := "<init>", desc := "([CIILjava/lang/Void;)V" } : Jvm.MethodName) jdk_42_method_149_code (6 : Nat) (Option.none : Option Jvm.ClassFile.FieldType)).before args0 about1 = true := code_word (m := ⟨7, 7⟩) (meth := k7m7) (c := k7c7) (by decide +kernel) rfl rfl rfl (by decide +kernel)
set_option maxRecDepth 65536 in
theorem w_c4 : (Jvm.Cond.code ({ cls := "java/lang/Object", name := "<init>", desc := "()V" } : Jvm.MethodName) object_method_1_code (1 : Nat) (Option.none : Option Jvm.ClassFile.FieldType)).before args0 about1 = true := code_word (m := ⟨0, 0⟩) (meth := k0m0) (c := k0c0) (by decide +kernel) rfl rfl rfl (by decide +kernel)
set_option maxRecDepth 65536 in
theorem w_c5 : (Jvm.Cond.code ({ cls := "java/lang/String", name := "length", desc := "()I" } : Jvm.MethodName) jdk_42_method_54_code (1 : Nat) (Option.some Jvm.ClassFile.FieldType.int)).before args0 about1 = true := code_word (m := ⟨7, 3⟩) (meth := k7m3) (c := k7c3) (by decide +kernel) rfl rfl rfl (by decide +kernel)
set_option maxRecDepth 65536 in
theorem w_c6 : (Jvm.Cond.code ({ cls := "java/lang/String", name := "coder", desc := "()B" } : Jvm.MethodName) jdk_42_method_152_code (1 : Nat) (Option.some Jvm.ClassFile.FieldType.byte)).before args0 about1 = true := code_word (m := ⟨7, 10⟩) (meth := k7m10) (c := k7c10) (by decide +kernel) rfl rfl rfl (by decide +kernel)
set_option maxRecDepth 65536 in
theorem w_c7 : (Jvm.Cond.code ({ cls := "com/example/vestline/vestline/input/MalformedFieldException", name := "<init>", desc := "(Ljava/lang/String;Ljava/lang/String;)V" } : Jvm.MethodName) prog_4_method_1_code (3 : Nat) (Option.none : Option Jvm.ClassFile.FieldType)).before args0 about1 = true := code_word (m := ⟨10, 0⟩) (meth := k10m0) (c := k10c0) (by decide +kernel) rfl rfl rfl (by decide +kernel)
set_option maxRecDepth 65536 in
theorem w_c8 : (Jvm.Cond.code ({ cls := "java/lang/StringBuilder", name := "<init>", desc := "()V" } : Jvm.MethodName) jdk_67_method_1_code (1 : Nat) (Option.none : Option Jvm.ClassFile.FieldType)).before args0 about1 = true := code_word (m := ⟨13, 0⟩) (meth := k13m0) (c := k13c0) (by decide +kernel) rfl rfl rfl (by decide +kernel)
set_option maxRecDepth 65536 in
theorem w_c9 : (Jvm.Cond.code ({ cls := "java/lang/AbstractStringBuilder", name := "<init>", desc := "(I)V" } : Jvm.MethodName) jdk_68_method_2_code (2 : Nat) (Option.none : Option Jvm.ClassFile.FieldType)).before args0 about1 = true := code_word (m := ⟨12, 1⟩) (meth := k12m1) (c := k12c1) (by decide +kernel) rfl rfl rfl (by decide +kernel)
set_option maxRecDepth 65536 in
theorem w_c10 : (Jvm.Cond.code ({ cls := "java/lang/StringBuilder", name := "append", desc := "(Ljava/lang/String;)Ljava/lang/StringBuilder;" } : Jvm.MethodName) jdk_67_method_7_code (2 : Nat) (Option.some (Jvm.ClassFile.FieldType.object "java/lang/StringBuilder"))).before args0 about1 = true := code_word (m := ⟨13, 1⟩) (meth := k13m1) (c := k13c1) (by decide +kernel) rfl rfl rfl (by decide +kernel)
set_option maxRecDepth 65536 in
theorem w_c11 : (Jvm.Cond.code ({ cls := "java/lang/AbstractStringBuilder", name := "append", desc := "(Ljava/lang/String;)Ljava/lang/AbstractStringBuilder;" } : Jvm.MethodName) jdk_68_method_22_code (3 : Nat) (Option.some (Jvm.ClassFile.FieldType.object "java/lang/AbstractStringBuilder"))).before args0 about1 = true := code_word (m := ⟨12, 4⟩) (meth := k12m4) (c := k12c4) (by decide +kernel) rfl rfl rfl (by decide +kernel)
set_option maxRecDepth 65536 in
theorem w_c12 : (Jvm.Cond.code ({ cls := "java/lang/AbstractStringBuilder", name := "ensureCapacityInternal", desc := "(I)V" } : Jvm.MethodName) jdk_68_method_9_code (3 : Nat) (Option.none : Option Jvm.ClassFile.FieldType)).before args0 about1 = true := code_word (m := ⟨12, 3⟩) (meth := k12m3) (c := k12c3) (by decide +kernel) rfl rfl rfl (by decide +kernel)
set_option maxRecDepth 65536 in
theorem w_c13 : (Jvm.Cond.code ({ cls := "java/lang/AbstractStringBuilder", name := "putStringAt", desc := "(ILjava/lang/String;)V" } : Jvm.MethodName) jdk_68_method_73_code (3 : Nat) (Option.none : Option Jvm.ClassFile.FieldType)).before args0 about1 = true := code_word (m := ⟨12, 8⟩) (meth := k12m8) (c := k12c8) (by decide +kernel) rfl rfl rfl (by decide +kernel)
set_option maxRecDepth 65536 in
theorem w_c14 : (Jvm.Cond.code ({ cls := "java/lang/AbstractStringBuilder", name := "inflateIfNeededFor", desc := "(Ljava/lang/String;)V" } : Jvm.MethodName) jdk_68_method_71_code (2 : Nat) (Option.none : Option Jvm.ClassFile.FieldType)).before args0 about1 = true := code_word (m := ⟨12, 7⟩) (meth := k12m7) (c := k12c7) (by decide +kernel) rfl rfl rfl (by decide +kernel)
set_option maxRecDepth 65536 in
theorem w_c15 : (Jvm.Cond.code ({ cls := "java/lang/String", name := "getBytes", desc := "([BIB)V" } : Jvm.MethodName) jdk_42_method_147_code (4 : Nat) (Option.none : Option Jvm.ClassFile.FieldType)).before args0 about1 = true := code_word (m := ⟨7, 6⟩) (meth := k7m6) (c := k7c6) (by decide +kernel) rfl rfl rfl (by decide +kernel)
set_option maxRecDepth 65536 in
theorem w_c16 : (Jvm.Cond.code ({ cls := "java/lang/StringBuilder", name := "toString", desc := "()Ljava/lang/String;" } : Jvm.MethodName) jdk_67_method_42_code (1 : Nat) (Option.some (Jvm.ClassFile.FieldType.object "java/lang/String"))).before args0 about1 = true := code_word (m := ⟨13, 2⟩) (meth := k13m2) (c := k13c2) (by decide +kernel) rfl rfl rfl (by decide +kernel)
set_option maxRecDepth 65536 in
theorem w_c17 : (Jvm.Cond.code ({ cls := "java/lang/String", name := "<init>", desc := "(Ljava/lang/StringBuilder;)V" } : Jvm.MethodName) jdk_42_method_53_code (2 : Nat) (Option.none : Option Jvm.ClassFile.FieldType)).before args0 about1 = true := code_word (m := ⟨7, 2⟩) (meth := k7m2) (c := k7c2) (by decide +kernel) rfl rfl rfl (by decide +kernel)
set_option maxRecDepth 65536 in
theorem w_c18 : (Jvm.Cond.code ({ cls := "java/lang/String", name := "<init>", desc := "(Ljava/lang/AbstractStringBuilder;Ljava/lang/Void;)V" } : Jvm.MethodName) jdk_42_method_150_code (5 : Nat) (Option.none : Option Jvm.ClassFile.FieldType)).before args0 about1 = true := code_word (m := ⟨7, 8⟩) (meth := k7m8) (c := k7c8) (by decide +kernel) rfl rfl rfl (by decide +kernel)
set_option maxRecDepth 65536 in
theorem w_c19 : (Jvm.Cond.code ({ cls := "java/lang/AbstractStringBuilder", name := "getValue", desc := "()[B" } : Jvm.MethodName) jdk_68_method_64_code (1 : Nat) (Option.some (Jvm.ClassFile.FieldType.array Jvm.ClassFile.FieldType.byte))).before args0 about1 = true := code_word (m := ⟨12, 5⟩) (meth := k12m5) (c := k12c5) (by decide +kernel) rfl rfl rfl (by decide +kernel)
set_option maxRecDepth 65536 in
theorem w_c20 : (Jvm.Cond.code ({ cls := "java/lang/StringBuilder", name := "length", desc := "()I" } : Jvm.MethodName) jdk_67_method_93_code (1 : Nat) (Option.some Jvm.ClassFile.FieldType.int)).before args0 about1 = true := code_word (m := ⟨13, 3⟩) (meth := k13m3) (c := k13c3) (by decide +kernel) rfl rfl rfl (by decide +kernel)
set_option maxRecDepth 65536 in
theorem w_c21 : (Jvm.Cond.code ({ cls := "java/lang/AbstractStringBuilder", name := "length", desc := "()I" } : Jvm.MethodName) jdk_68_method_6_code (1 : Nat) (Option.some Jvm.ClassFile.FieldType.int)).before args0 about1 = true := code_word (m := ⟨12, 2⟩) (meth := k12m2) (c := k12c2) (by decide +kernel) rfl rfl rfl (by decide +kernel)
set_option maxRecDepth 65536 in
theorem w_c22 : (Jvm.Cond.code ({ cls := "java/lang/AbstractStringBuilder", name := "isLatin1", desc := "()Z" } : Jvm.MethodName) jdk_68_method_68_code (1 : Nat) (Option.some Jvm.ClassFile.FieldType.boolean)).before args0 about1 = true := code_word (m := ⟨12, 6⟩) (meth := k12m6) (c := k12c6) (by decide +kernel) rfl rfl rfl (by decide +kernel)
set_option maxRecDepth 65536 in
theorem w_c23 : (Jvm.Cond.code ({ cls := "java/util/Arrays", name := "copyOfRange", desc := "([BII)[B" } : Jvm.MethodName) jdk_65_method_132_code (3 : Nat) (Option.some (Jvm.ClassFile.FieldType.array Jvm.ClassFile.FieldType.byte))).before args0 about1 = true := code_word (m := ⟨15, 2⟩) (meth := k15m2) (c := k15c2) (by decide +kernel) rfl rfl rfl (by decide +kernel)
set_option maxRecDepth 65536 in
theorem w_c24 : (Jvm.Cond.code ({ cls := "java/util/Arrays", name := "copyOfRangeByte", desc := "([BII)[B" } : Jvm.MethodName) jdk_65_method_133_code (5 : Nat) (Option.some (Jvm.ClassFile.FieldType.array Jvm.ClassFile.FieldType.byte))).before args0 about1 = true := code_word (m := ⟨15, 3⟩) (meth := k15m3) (c := k15c3) (by decide +kernel) rfl rfl rfl (by decide +kernel)
set_option maxRecDepth 65536 in
theorem w_c25 : (Jvm.Cond.code ({ cls := "java/util/Arrays", name := "checkLength", desc := "(II)V" } : Jvm.MethodName) jdk_65_method_131_code (2 : Nat) (Option.none : Option Jvm.ClassFile.FieldType)).before args0 about1 = true := code_word (m := ⟨15, 1⟩) (meth := k15m1) (c := k15c1) (by decide +kernel) rfl rfl rfl (by decide +kernel)
set_option maxRecDepth 65536 in
theorem w_c26 : (Jvm.Cond.code ({ cls := "java/lang/Math", name := "min", desc := "(II)I" } : Jvm.MethodName) jdk_29_method_69_code (2 : Nat) (Option.some Jvm.ClassFile.FieldType.int)).before args0 about1 = true := code_word (m := ⟨16, 1⟩) (meth := k16m1) (c := k16c1) (by decide +kernel) rfl rfl rfl (by decide +kernel)
set_option maxRecDepth 65536 in
theorem w_c27 : (Jvm.Cond.code ({ cls := "java/lang/Exception", name := "<init>", desc := "(Ljava/lang/String;Ljava/lang/Throwable;ZZ)V" } : Jvm.MethodName) jdk_59_method_5_code (5 : Nat) (Option.none : Option Jvm.ClassFile.FieldType)).before args0 about1 = true := code_word (m := ⟨9, 1⟩) (meth := k9m1) (c := k9c1) (by decide +kernel) rfl rfl rfl (by decide +kernel)
set_option maxRecDepth 65536 in
theorem w_c28 : (Jvm.Cond.code ({ cls := "java/lang/Throwable", name := "<init>", desc := "(Ljava/lang/String;Ljava/lang/Throwable;ZZ)V" } : Jvm.MethodName) jdk_78_method_5_code (5 : Nat) (Option.none : Option Jvm.ClassFile.FieldType)).before args0 about1 = true := code_word (m := ⟨8, 1⟩) (meth := k8m1) (c := k8c1) (by decide +kernel) rfl rfl rfl (by decide +kernel)
set_option maxRecDepth 65536 in
theorem w_c29 : (Jvm.Cond.code ({ cls := "com/example/vestline/vestline/input/MalformedFieldException", name := "within", desc := "(Ljava/lang/String;)Lcom/example/vestline/vestline/input/MalformedFieldException;" } : Jvm.MethodName) prog_4_method_2_code (2 : Nat) (Option.some (Jvm.ClassFile.FieldType.object "com/example/vestline/vestline/input/MalformedFieldException"))).before args0 about1 = true := code_word (m := ⟨10, 1⟩) (meth := k10m1) (c := k10c1) (by decide +kernel) rfl rfl rfl (by decide +kernel)
set_option maxRecDepth 65536 in
theorem w_c30 : (Jvm.Cond.code ({ cls := "java/lang/Throwable", name := "getMessage", desc := "()Ljava/lang/String;" } : Jvm.MethodName) jdk_78_method_6_code (1 : Nat) (Option.some (Jvm.ClassFile.FieldType.object "java/lang/String"))).before args0 about1 = true := code_word (m := ⟨8, 2⟩) (meth := k8m2) (c := k8c2) (by decide +kernel) rfl rfl rfl (by decide +kernel)
set_option maxRecDepth 65536 in
theorem w_c31 : (Jvm.Cond.code ({ cls := "com/example/vestline/vestline/input/MalformedFieldExceptionWithinPinLaw", name := "at", desc := "(Ljava/lang/String;ILjava/lang/String;)Z" } : Jvm.MethodName) method_3_code (3 : Nat) (Option.some Jvm.ClassFile.FieldType.boolean)).before args0 about1 = true := code_word (m := ⟨1, 2⟩) (meth := k1m2) (c := k1c2) (by decide +kernel) rfl rfl rfl (by decide +kernel)
set_option maxRecDepth 65536 in
theorem w_c32 : (Jvm.Cond.code ({ cls := "java/lang/String", name := "charAt", desc := "(I)C" } : Jvm.MethodName) jdk_42_method_56_code (2 : Nat) (Option.some Jvm.ClassFile.FieldType.char)).before args0 about1 = true := code_word (m := ⟨7, 4⟩) (meth := k7m4) (c := k7c4) (by decide +kernel) rfl rfl rfl (by decide +kernel)
set_option maxRecDepth 65536 in
theorem w_c33 : (Jvm.Cond.code ({ cls := "java/lang/String", name := "isLatin1", desc := "()Z" } : Jvm.MethodName) jdk_42_method_154_code (1 : Nat) (Option.some Jvm.ClassFile.FieldType.boolean)).before args0 about1 = true := code_word (m := ⟨7, 11⟩) (meth := k7m11) (c := k7c11) (by decide +kernel) rfl rfl rfl (by decide +kernel)
set_option maxRecDepth 65536 in
theorem w_c34 : (Jvm.Cond.code ({ cls := "java/lang/StringLatin1", name := "charAt", desc := "([BI)C" } : Jvm.MethodName) jdk_43_method_2_code (2 : Nat) (Option.some Jvm.ClassFile.FieldType.char)).before args0 about1 = true := code_word (m := ⟨17, 1⟩) (meth := k17m1) (c := k17c1) (by decide +kernel) rfl rfl rfl (by decide +kernel)
set_option maxRecDepth 65536 in
theorem w_c35 : (Jvm.Cond.code ({ cls := "java/lang/String", name := "checkIndex", desc := "(II)V" } : Jvm.MethodName) jdk_42_method_155_code (2 : Nat) (Option.none : Option Jvm.ClassFile.FieldType)).before args0 about1 = true := code_word (m := ⟨7, 12⟩) (meth := k7m12) (c := k7c12) (by decide +kernel) rfl rfl rfl (by decide +kernel)
set_option maxRecDepth 65536 in
theorem w_c36 : (Jvm.Cond.code ({ cls := "jdk/internal/util/Preconditions", name := "checkIndex", desc := "(IILjava/util/function/BiFunction;)I" } : Jvm.MethodName) jdk_41_method_11_code (3 : Nat) (Option.some Jvm.ClassFile.FieldType.int)).before args0 about1 = true := code_word (m := ⟨18, 1⟩) (meth := k18m1) (c := k18c1) (by decide +kernel) rfl rfl rfl (by decide +kernel)
set_option maxRecDepth 65536 in
theorem w_c37 : (Jvm.Cond.code ({ cls := "java/lang/String", name := "valueOf", desc := "(C)Ljava/lang/String;" } : Jvm.MethodName) jdk_42_method_139_code (1 : Nat) (Option.some (Jvm.ClassFile.FieldType.object "java/lang/String"))).before args0 about1 = true := code_word (m := ⟨7, 5⟩) (meth := k7m5) (c := k7c5) (by decide +kernel) rfl rfl rfl (by decide +kernel)
set_option maxRecDepth 65536 in
theorem w_c38 : (Jvm.Cond.code ({ cls := "java/lang/StringLatin1", name := "canEncode", desc := "(C)Z" } : Jvm.MethodName) jdk_43_method_3_code (1 : Nat) (Option.some Jvm.ClassFile.FieldType.boolean)).before args0 about1 = true := code_word (m := ⟨17, 2⟩) (meth := k17m2) (c := k17c2) (by decide +kernel) rfl rfl rfl (by decide +kernel)
set_option maxRecDepth 65536 in
theorem w_c39 : (Jvm.Cond.code ({ cls := "java/lang/StringLatin1", name := "toBytes", desc := "(C)[B" } : Jvm.MethodName) jdk_43_method_46_code (1 : Nat) (Option.some (Jvm.ClassFile.FieldType.array Jvm.ClassFile.FieldType.byte))).before args0 about1 = true := code_word (m := ⟨17, 3⟩) (meth := k17m3) (c := k17c3) (by decide +kernel) rfl rfl rfl (by decide +kernel)
set_option maxRecDepth 65536 in
theorem w_c40 : (Jvm.Cond.code ({ cls := "java/lang/String", name := "<init>", desc := "([BB)V" } : Jvm.MethodName) jdk_42_method_151_code (3 : Nat) (Option.none : Option Jvm.ClassFile.FieldType)).before args0 about1 = true := code_word (m := ⟨7, 9⟩) (meth := k7m9) (c := k7c9) (by decide +kernel) rfl rfl rfl (by decide +kernel)
set_option maxRecDepth 65536 in
theorem w_c41 : (Jvm.Cond.code ({ cls := "java/lang/StringUTF16", name := "compress", desc := "([CII)[B" } : Jvm.MethodName) jdk_52_method_16_code (6 : Nat) (Option.some (Jvm.ClassFile.FieldType.array Jvm.ClassFile.FieldType.byte))).before args0 about1 = true := code_word (m := ⟨19, 2⟩) (meth := k19m2) (c := k19c2) (by decide +kernel) rfl rfl rfl (by decide +kernel)
set_option maxRecDepth 65536 in
theorem w_c42 : (Jvm.Cond.code ({ cls := "java/lang/StringUTF16", name := "compress", desc := "([CI[BII)I" } : Jvm.MethodName) jdk_52_method_21_code (7 : Nat) (Option.some Jvm.ClassFile.FieldType.int)).before args0 about1 = true := code_word (m := ⟨19, 3⟩) (meth := k19m3) (c := k19c3) (by decide +kernel) rfl rfl rfl (by decide +kernel)
set_option maxRecDepth 65536 in
theorem w_c43 : (Jvm.Cond.code ({ cls := "java/lang/StringUTF16", name := "coderFromArrayLen", desc := "([BI)B" } : Jvm.MethodName) jdk_52_method_15_code (2 : Nat) (Option.some Jvm.ClassFile.FieldType.byte)).before args0 about1 = true := code_word (m := ⟨19, 1⟩) (meth := k19m1) (c := k19c1) (by decide +kernel) rfl rfl rfl (by decide +kernel)
def codes1 : List Jvm.Cond := [Jvm.Cond.code x code maxLocals ret, Jvm.Cond.code ({ cls := "com/example/vestline/vestline/input/MalformedFieldExceptionWithinPinLaw", name := "str", desc := "(I)Ljava/lang/String;" } : Jvm.MethodName) method_2_code (4 : Nat) (Option.some (Jvm.ClassFile.FieldType.object "java/lang/String")), Jvm.Cond.code ({ cls := "java/lang/String", name := "<init>", desc := "([C)V" } : Jvm.MethodName) jdk_42_method_3_code (2 : Nat) (Option.none : Option Jvm.ClassFile.FieldType), Jvm.Cond.code ({ cls := "java/lang/String", name := "<init>", desc := "([CIILjava/lang/Void;)V" } : Jvm.MethodName) jdk_42_method_149_code (6 : Nat) (Option.none : Option Jvm.ClassFile.FieldType), Jvm.Cond.code ({ cls := "java/lang/Object", name := "<init>", desc := "()V" } : Jvm.MethodName) object_method_1_code (1 : Nat) (Option.none : Option Jvm.ClassFile.FieldType), Jvm.Cond.code ({ cls := "java/lang/String", name := "length", desc := "()I" } : Jvm.MethodName) jdk_42_method_54_code (1 : Nat) (Option.some Jvm.ClassFile.FieldType.int), Jvm.Cond.code ({ cls := "java/lang/String", name := "coder", desc := "()B" } : Jvm.MethodName) jdk_42_method_152_code (1 : Nat) (Option.some Jvm.ClassFile.FieldType.byte), Jvm.Cond.code ({ cls := "com/example/vestline/vestline/input/MalformedFieldException", name := "<init>", desc := "(Ljava/lang/String;Ljava/lang/String;)V" } : Jvm.MethodName) prog_4_method_1_code (3 : Nat) (Option.none : Option Jvm.ClassFile.FieldType), Jvm.Cond.code ({ cls := "java/lang/StringBuilder", name := "<init>", desc := "()V" } : Jvm.MethodName) jdk_67_method_1_code (1 : Nat) (Option.none : Option Jvm.ClassFile.FieldType), Jvm.Cond.code ({ cls := "java/lang/AbstractStringBuilder", name := "<init>", desc := "(I)V" } : Jvm.MethodName) jdk_68_method_2_code (2 : Nat) (Option.none : Option Jvm.ClassFile.FieldType), Jvm.Cond.code ({ cls := "java/lang/StringBuilder", name := "append", desc := "(Ljava/lang/String;)Ljava/lang/StringBuilder;" } : Jvm.MethodName) jdk_67_method_7_code (2 : Nat) (Option.some (Jvm.ClassFile.FieldType.object "java/lang/StringBuilder")), Jvm.Cond.code ({ cls := "java/lang/AbstractStringBuilder", name := "append", desc := "(Ljava/lang/String;)Ljava/lang/AbstractStringBuilder;" } : Jvm.MethodName) jdk_68_method_22_code (3 : Nat) (Option.some (Jvm.ClassFile.FieldType.object "java/lang/AbstractStringBuilder")), Jvm.Cond.code ({ cls := "java/lang/AbstractStringBuilder", name := "ensureCapacityInternal", desc := "(I)V" } : Jvm.MethodName) jdk_68_method_9_code (3 : Nat) (Option.none : Option Jvm.ClassFile.FieldType), Jvm.Cond.code ({ cls := "java/lang/AbstractStringBuilder", name := "putStringAt", desc := "(ILjava/lang/String;)V" } : Jvm.MethodName) jdk_68_method_73_code (3 : Nat) (Option.none : Option Jvm.ClassFile.FieldType), Jvm.Cond.code ({ cls := "java/lang/AbstractStringBuilder", name := "inflateIfNeededFor", desc := "(Ljava/lang/String;)V" } : Jvm.MethodName) jdk_68_method_71_code (2 : Nat) (Option.none : Option Jvm.ClassFile.FieldType), Jvm.Cond.code ({ cls := "java/lang/String", name := "getBytes", desc := "([BIB)V" } : Jvm.MethodName) jdk_42_method_147_code (4 : Nat) (Option.none : Option Jvm.ClassFile.FieldType), Jvm.Cond.code ({ cls := "java/lang/StringBuilder", name := "toString", desc := "()Ljava/lang/String;" } : Jvm.MethodName) jdk_67_method_42_code (1 : Nat) (Option.some (Jvm.ClassFile.FieldType.object "java/lang/String")), Jvm.Cond.code ({ cls := "java/lang/String", name := "<init>", desc := "(Ljava/lang/StringBuilder;)V" } : Jvm.MethodName) jdk_42_method_53_code (2 : Nat) (Option.none : Option Jvm.ClassFile.FieldType), Jvm.Cond.code ({ cls := "java/lang/String", name := "<init>", desc := "(Ljava/lang/AbstractStringBuilder;Ljava/lang/Void;)V" } : Jvm.MethodName) jdk_42_method_150_code (5 : Nat) (Option.none : Option Jvm.ClassFile.FieldType), Jvm.Cond.code ({ cls := "java/lang/AbstractStringBuilder", name := "getValue", desc := "()[B" } : Jvm.MethodName) jdk_68_method_64_code (1 : Nat) (Option.some (Jvm.ClassFile.FieldType.array Jvm.ClassFile.FieldType.byte)), Jvm.Cond.code ({ cls := "java/lang/StringBuilder", name := "length", desc := "()I" } : Jvm.MethodName) jdk_67_method_93_code (1 : Nat) (Option.some Jvm.ClassFile.FieldType.int), Jvm.Cond.code ({ cls := "java/lang/AbstractStringBuilder", name := "length", desc := "()I" } : Jvm.MethodName) jdk_68_method_6_code (1 : Nat) (Option.some Jvm.ClassFile.FieldType.int), Jvm.Cond.code ({ cls := "java/lang/AbstractStringBuilder", name := "isLatin1", desc := "()Z" } : Jvm.MethodName) jdk_68_method_68_code (1 : Nat) (Option.some Jvm.ClassFile.FieldType.boolean), Jvm.Cond.code ({ cls := "java/util/Arrays", name := "copyOfRange", desc := "([BII)[B" } : Jvm.MethodName) jdk_65_method_132_code (3 : Nat) (Option.some (Jvm.ClassFile.FieldType.array Jvm.ClassFile.FieldType.byte)), Jvm.Cond.code ({ cls := "java/util/Arrays", name := "copyOfRangeByte", desc := "([BII)[B" } : Jvm.MethodName) jdk_65_method_133_code (5 : Nat) (Option.some (Jvm.ClassFile.FieldType.array Jvm.ClassFile.FieldType.byte)), Jvm.Cond.code ({ cls := "java/util/Arrays", name := "checkLength", desc := "(II)V" } : Jvm.MethodName) jdk_65_method_131_code (2 : Nat) (Option.none : Option Jvm.ClassFile.FieldType), Jvm.Cond.code ({ cls := "java/lang/Math", name := "min", desc := "(II)I" } : Jvm.MethodName) jdk_29_method_69_code (2 : Nat) (Option.some Jvm.ClassFile.FieldType.int), Jvm.Cond.code ({ cls := "java/lang/Exception", name := "<init>", desc := "(Ljava/lang/String;Ljava/lang/Throwable;ZZ)V" } : Jvm.MethodName) jdk_59_method_5_code (5 : Nat) (Option.none : Option Jvm.ClassFile.FieldType), Jvm.Cond.code ({ cls := "java/lang/Throwable", name := "<init>", desc := "(Ljava/lang/String;Ljava/lang/Throwable;ZZ)V" } : Jvm.MethodName) jdk_78_method_5_code (5 : Nat) (Option.none : Option Jvm.ClassFile.FieldType), Jvm.Cond.code ({ cls := "com/example/vestline/vestline/input/MalformedFieldException", name := "within", desc := "(Ljava/lang/String;)Lcom/example/vestline/vestline/input/MalformedFieldException;" } : Jvm.MethodName) prog_4_method_2_code (2 : Nat) (Option.some (Jvm.ClassFile.FieldType.object "com/example/vestline/vestline/input/MalformedFieldException")), Jvm.Cond.code ({ cls := "java/lang/Throwable", name := "getMessage", desc := "()Ljava/lang/String;" } : Jvm.MethodName) jdk_78_method_6_code (1 : Nat) (Option.some (Jvm.ClassFile.FieldType.object "java/lang/String")), Jvm.Cond.code ({ cls := "com/example/vestline/vestline/input/MalformedFieldExceptionWithinPinLaw", name := "at", desc := "(Ljava/lang/String;ILjava/lang/String;)Z" } : Jvm.MethodName) method_3_code (3 : Nat) (Option.some Jvm.ClassFile.FieldType.boolean), Jvm.Cond.code ({ cls := "java/lang/String", name := "charAt", desc := "(I)C" } : Jvm.MethodName) jdk_42_method_56_code (2 : Nat) (Option.some Jvm.ClassFile.FieldType.char), Jvm.Cond.code ({ cls := "java/lang/String", name := "isLatin1", desc := "()Z" } : Jvm.MethodName) jdk_42_method_154_code (1 : Nat) (Option.some Jvm.ClassFile.FieldType.boolean), Jvm.Cond.code ({ cls := "java/lang/StringLatin1", name := "charAt", desc := "([BI)C" } : Jvm.MethodName) jdk_43_method_2_code (2 : Nat) (Option.some Jvm.ClassFile.FieldType.char), Jvm.Cond.code ({ cls := "java/lang/String", name := "checkIndex", desc := "(II)V" } : Jvm.MethodName) jdk_42_method_155_code (2 : Nat) (Option.none : Option Jvm.ClassFile.FieldType), Jvm.Cond.code ({ cls := "jdk/internal/util/Preconditions", name := "checkIndex", desc := "(IILjava/util/function/BiFunction;)I" } : Jvm.MethodName) jdk_41_method_11_code (3 : Nat) (Option.some Jvm.ClassFile.FieldType.int), Jvm.Cond.code ({ cls := "java/lang/String", name := "valueOf", desc := "(C)Ljava/lang/String;" } : Jvm.MethodName) jdk_42_method_139_code (1 : Nat) (Option.some (Jvm.ClassFile.FieldType.object "java/lang/String")), Jvm.Cond.code ({ cls := "java/lang/StringLatin1", name := "canEncode", desc := "(C)Z" } : Jvm.MethodName) jdk_43_method_3_code (1 : Nat) (Option.some Jvm.ClassFile.FieldType.boolean), Jvm.Cond.code ({ cls := "java/lang/StringLatin1", name := "toBytes", desc := "(C)[B" } : Jvm.MethodName) jdk_43_method_46_code (1 : Nat) (Option.some (Jvm.ClassFile.FieldType.array Jvm.ClassFile.FieldType.byte)), Jvm.Cond.code ({ cls := "java/lang/String", name := "<init>", desc := "([BB)V" } : Jvm.MethodName) jdk_42_method_151_code (3 : Nat) (Option.none : Option Jvm.ClassFile.FieldType), Jvm.Cond.code ({ cls := "java/lang/StringUTF16", name := "compress", desc := "([CII)[B" } : Jvm.MethodName) jdk_52_method_16_code (6 : Nat) (Option.some (Jvm.ClassFile.FieldType.array Jvm.ClassFile.FieldType.byte)), Jvm.Cond.code ({ cls := "java/lang/StringUTF16", name := "compress", desc := "([CI[BII)I" } : Jvm.MethodName) jdk_52_method_21_code (7 : Nat) (Option.some Jvm.ClassFile.FieldType.int), Jvm.Cond.code ({ cls := "java/lang/StringUTF16", name := "coderFromArrayLen", desc := "([BI)B" } : Jvm.MethodName) jdk_52_method_15_code (2 : Nat) (Option.some Jvm.ClassFile.FieldType.byte)]
set_option maxRecDepth 65536 in
theorem codes_eq : words1.filter isCode = codes1 := rfl
theorem w_codes : ∀ c ∈ words1.filter isCode, c.before args0 about1 = true := by
  rw [codes_eq]
  intro c hc
  simp only [codes1, List.mem_cons, List.not_mem_nil, or_false] at hc
  rcases hc with rfl | rfl | rfl | rfl | rfl | rfl | rfl | rfl | rfl | rfl | rfl | rfl | rfl | rfl | rfl | rfl | rfl | rfl | rfl | rfl | rfl | rfl | rfl | rfl | rfl | rfl | rfl | rfl | rfl | rfl | rfl | rfl | rfl | rfl | rfl | rfl | rfl | rfl | rfl | rfl | rfl | rfl | rfl | rfl
  · exact w_c0
  · exact w_c1
  · exact w_c2
  · exact w_c3
  · exact w_c4
  · exact w_c5
  · exact w_c6
  · exact w_c7
  · exact w_c8
  · exact w_c9
  · exact w_c10
  · exact w_c11
  · exact w_c12
  · exact w_c13
  · exact w_c14
  · exact w_c15
  · exact w_c16
  · exact w_c17
  · exact w_c18
  · exact w_c19
  · exact w_c20
  · exact w_c21
  · exact w_c22
  · exact w_c23
  · exact w_c24
  · exact w_c25
  · exact w_c26
  · exact w_c27
  · exact w_c28
  · exact w_c29
  · exact w_c30
  · exact w_c31
  · exact w_c32
  · exact w_c33
  · exact w_c34
  · exact w_c35
  · exact w_c36
  · exact w_c37
  · exact w_c38
  · exact w_c39
  · exact w_c40
  · exact w_c41
  · exact w_c42
  · exact w_c43
set_option maxRecDepth 65536 in
theorem w_t1 : (words1.take 24).all (fun c => isCode c || c.before args0 about1) = true := by decide +kernel
set_option maxRecDepth 65536 in
theorem w_t2 : ((words1.drop 24).take 24).all (fun c => isCode c || c.before args0 about1) = true := by decide +kernel
set_option maxRecDepth 65536 in
theorem w_t3 : (((words1.drop 24).drop 24).take 24).all (fun c => isCode c || c.before args0 about1) = true := by decide +kernel
set_option maxRecDepth 65536 in
theorem w_t4 : ((((words1.drop 24).drop 24).drop 24).take 24).all (fun c => isCode c || c.before args0 about1) = true := by decide +kernel
set_option maxRecDepth 65536 in
theorem w_t5 : (((((words1.drop 24).drop 24).drop 24).drop 24).take 24).all (fun c => isCode c || c.before args0 about1) = true := by decide +kernel
set_option maxRecDepth 65536 in
theorem w_t6 : ((((((words1.drop 24).drop 24).drop 24).drop 24).drop 24).take 24).all (fun c => isCode c || c.before args0 about1) = true := by decide +kernel
set_option maxRecDepth 65536 in
theorem w_t7 : (((((((words1.drop 24).drop 24).drop 24).drop 24).drop 24).drop 24).take 24).all (fun c => isCode c || c.before args0 about1) = true := by decide +kernel
set_option maxRecDepth 65536 in
theorem w_t8 : ((((((((words1.drop 24).drop 24).drop 24).drop 24).drop 24).drop 24).drop 24).take 24).all (fun c => isCode c || c.before args0 about1) = true := by decide +kernel
set_option maxRecDepth 65536 in
theorem w_t9 : (((((((((words1.drop 24).drop 24).drop 24).drop 24).drop 24).drop 24).drop 24).drop 24).take 24).all (fun c => isCode c || c.before args0 about1) = true := by decide +kernel
set_option maxRecDepth 65536 in
theorem w_t10 : (((((((((words1.drop 24).drop 24).drop 24).drop 24).drop 24).drop 24).drop 24).drop 24).drop 24).all (fun c => isCode c || c.before args0 about1) = true := by decide +kernel
theorem w_tables : (allAtoms (Jvm.Cond.code x code maxLocals ret :: tables_1)).before args0 about1 = true := by
  rw [allAtoms_all]
  show words1.all (fun c => c.before args0 about1) = true
  refine all_split ?_ w_codes
  rw [← List.take_append_drop 24 words1, List.all_append, w_t1, ← List.take_append_drop 24 (words1.drop 24), List.all_append, w_t2, ← List.take_append_drop 24 ((words1.drop 24).drop 24), List.all_append, w_t3, ← List.take_append_drop 24 (((words1.drop 24).drop 24).drop 24), List.all_append, w_t4, ← List.take_append_drop 24 ((((words1.drop 24).drop 24).drop 24).drop 24), List.all_append, w_t5, ← List.take_append_drop 24 (((((words1.drop 24).drop 24).drop 24).drop 24).drop 24), List.all_append, w_t6, ← List.take_append_drop 24 ((((((words1.drop 24).drop 24).drop 24).drop 24).drop 24).drop 24), List.all_append, w_t7, ← List.take_append_drop 24 (((((((words1.drop 24).drop 24).drop 24).drop 24).drop 24).drop 24).drop 24), List.all_append, w_t8, ← List.take_append_drop 24 ((((((((words1.drop 24).drop 24).drop 24).drop 24).drop 24).drop 24).drop 24).drop 24), List.all_append, w_t9, w_t10]
  rfl
set_option maxRecDepth 65536 in
theorem w_rest : rest_1_c.before args0 about1 = true := by decide +kernel
set_option maxRecDepth 65536 in
theorem w_case : (Jvm.Cond.and given_1 narrow_1).before args0 about1 = true := by decide +kernel
set_option maxRecDepth 65536 in
theorem w_consts : constsHeld consts_1 about1 := Jvm.Lit.constsHeldB_iff.mp (by decide +kernel)
theorem w_applies : (headSpec (Jvm.Cond.code x code maxLocals ret :: tables_1) room_1).applies x e0.platform about1 = true :=
  (Spec.applies_iff w_frames).mpr ⟨w_running, w_runnable, w_alone, w_named, w_hears, w_ripe, w_room, w_tables⟩
theorem atStart : AtStart classFile x code maxLocals ret World_1 tables_1 room_1 Calls_1 rest_1 Pre_1 launch0 p0 e0 about1 theMethod args0 below0 :=
  ⟨lists_1, trivial, launch0.admits_env _ _ _, launch0.least_env, fairChoices_fair.cas, fairChoices_fair.clock, w_frames, w_args, w_heap, w_applies, ⟨w_consts, trivial⟩, w_rest, w_case⟩
end start1
theorem witness_1 : WitnessClaimed_1 := ⟨start1.p0, start1.e0, start1.about1, start1.theMethod, start1.args0, start1.below0, start1.atStart⟩
end Jvm.Pilot.@@N@@
