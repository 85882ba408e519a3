import JvmDerived
import JvmDerived.Pilot.@@N@@Statement
import JvmDerived.Pilot.@@N@@Code
set_option linter.unusedVariables false
set_option linter.unusedSimpArgs false
namespace Jvm.Pilot.@@N@@
namespace Own
open Jvm Jvm.ClassFile Sem Op Lib Jvm.Free Jvm.Stand Jvm.LawKit Jvm.RoadKit Bundle
/-! A small logic of walks over the library's Stand: WP says that the run from a frame returns well; one rule an instruction; a callee by Con. -/
abbrev Ctx : Type := Program × Env × Room × State × MethodId × Array Value × List Frame × Method × Code
abbrev Ctx.p (K : Ctx) : Program := K.1
abbrev Ctx.e (K : Ctx) : Env := K.2.1
abbrev Ctx.R (K : Ctx) : Room := K.2.2.1
abbrev Ctx.s (K : Ctx) : State := K.2.2.2.1
abbrev Ctx.m (K : Ctx) : MethodId := K.2.2.2.2.1
abbrev Ctx.args (K : Ctx) : Array Value := K.2.2.2.2.2.1
abbrev Ctx.below (K : Ctx) : List Frame := K.2.2.2.2.2.2.1
abbrev Ctx.meth (K : Ctx) : Method := K.2.2.2.2.2.2.2.1
abbrev Ctx.c (K : Ctx) : Code := K.2.2.2.2.2.2.2.2
/-- whether a stack trace may be filled in beneath -/
abbrev TR : Prop := False
/-- warmer by links alone -/
def Wm (vm vm1 : Vm) : Prop := ∀ s : State, s.vm = vm → s.WarmedH vm1
theorem Wm.refl (vm : Vm) : Wm vm vm := fun s e => by subst e; exact State.WarmedH.refl s
theorem Wm.of {s0 : State} {vm1 : Vm} (h : s0.WarmedH vm1) : Wm s0.vm vm1 := fun s e => by
  have q : s.WarmedH s0.vm := by rw [← e]; exact State.WarmedH.refl s
  exact State.WarmedH.trans q h
theorem Wm.trans {vm vm1 vm2 : Vm} (A : Wm vm vm1) (B : Wm vm1 vm2) : Wm vm vm2 := fun s e => State.WarmedH.trans (t := s.setVm vm1) (A s e) (B (s.setVm vm1) rfl)
/-- RoadKit's CHr; it: whether the walk may intern -/
def CHx (it : Prop) (Z : State) (EL : List (String × Nat)) (vm : Vm) (h : Heap) (vm1 : Vm) (h' : Heap) : Prop := CHv Z EL vm1 h' ∧ h.size ≤ h'.size ∧ (∀ y, Bk Z EL vm1 h' y → Bk Z EL vm h y ∨ (it ∧ h.size ≤ y)) ∧ (it ∨ Wm vm vm1)
section CHxs
variable {it it' : Prop} {Z : State} {EL : List (String × Nat)} {vm vm1 vm2 : Vm} {h h' h2 : Heap}
theorem CHx.refl (H : CHv Z EL vm h) : CHx it Z EL vm h vm h := ⟨H, Nat.le_refl _, fun _ q => Or.inl q, Or.inr (Wm.refl _)⟩
theorem CHx.trans (A : CHx it Z EL vm h vm1 h') (B : CHx it Z EL vm1 h' vm2 h2) : CHx it Z EL vm h vm2 h2 := ⟨B.1, Nat.le_trans A.2.1 B.2.1, fun y q => by
  rcases B.2.2.1 y q with q | q
  · exact A.2.2.1 y q
  · exact Or.inr ⟨q.1, Nat.le_trans A.2.1 q.2⟩, A.2.2.2.elim Or.inl fun a => B.2.2.2.imp id fun b => a.trans b⟩
theorem CHx.safe (A : CHx it Z EL vm h vm1 h') {x : Addr} (hx : x < h.size) (S : Safe Z EL vm h x) : Safe Z EL vm1 h' x := fun B => by
  rcases A.2.2.1 x B with q | q
  · exact S q
  · exact absurd hx (Nat.not_lt.mpr q.2)
theorem CHx.ext (E : Ext h h') (H : CHv Z EL vm h) : CHx it Z EL vm h vm h' := ⟨H.ext E, E.1, fun y q => Or.inl ((H.step fun _ _ _ q => E.2 _ _ q).2 y q), Or.inr (Wm.refl _)⟩
theorem CHx.wr {a : Addr} {sl : Nat} {v : Value} (W : Wr h h' a sl v) (S : Safe Z EL vm h a) (H : CHv Z EL vm h) : CHx it Z EL vm h vm h' := ⟨H.wr W S, Nat.le_of_eq W.size.symm, fun y q => Or.inl ((H.wrStep W S).2 y q), Or.inr (Wm.refl _)⟩
theorem CHx.mono (hi : it' → it) (A : CHx it' Z EL vm h vm1 h') : CHx it Z EL vm h vm1 h' := ⟨A.1, A.2.1, fun y q => (A.2.2.1 y q).imp id fun z => ⟨hi z.1, z.2⟩, A.2.2.2.imp hi id⟩
theorem CHx.of (hi : it) (A : CHr Z EL vm h vm1 h') : CHx it Z EL vm h vm1 h' := ⟨A.1, A.2.1, fun y q => (A.2.2 y q).imp id fun z => ⟨hi, z⟩, Or.inl hi⟩
/-- over the same heap nothing new is booked -/
theorem CHx.still (A : CHr Z EL vm h vm1 h) (w : Wm vm vm1) : CHx it Z EL vm h vm1 h := ⟨A.1, A.2.1, fun y q => Or.inl ((A.2.2 y q).elim id fun z => by
  obtain ⟨c, hc⟩ := q.there
  exact absurd (Array.getElem?_eq_some_iff.mp hc).1 (Nat.not_lt.mpr z)), Or.inr w⟩
end CHxs
/-- addresses that may be written: new since the law's start, no constant's cell -/
def Owned (Z : State) (EL : List (String × Nat)) (it : Prop) (n0 : Nat) (h0 : Heap) (ws0 : List Addr) (vm : Vm) (h : Heap) (ws : List Addr) : Prop :=
  ∀ x ∈ ws, n0 ≤ x ∧ x < h.size ∧ Safe Z EL vm h x ∧ (x ∈ ws0 ∨ h0.size ≤ x)
def Pos (l : Launch) (Z : State) (EL : List (String × Nat)) (it : Prop) (n0 : Nat) (own : String) (h0 : Heap) (ws0 : List Addr) (K : Ctx) (h : Heap) (ws : List Addr) (cells slots : Nat) (vm : Vm) (T : State) (locs : List Loc) : Prop :=
  Stand K.p l K.e K.R (K.s.setVm vm) K.m K.args K.below K.meth K.c T locs cells slots ∧ T.heap = h ∧ (∃ k, K.s.Since vm k ∧ k ≤ h.size) ∧ Z.Warmed39 vm ∧ vm.findClass own = some K.m.cls ∧
  CHx it Z EL K.s.vm h0 vm h ∧ Fr n0 locs ∧ Keep h0 h ws0 ∧ Old Z n0 h ∧ Owned Z EL it n0 h0 ws0 vm h ws
def Fine (Z : State) (EL : List (String × Nat)) (it : Prop) (n0 : Nat) (h0 : Heap) (ws0 : List Addr) (Q : Option Value → Heap → Prop) (cl sl : Nat) (s : State) (o : Outcome) (t : State) : Prop :=
  ∃ v L, o = .returned v ∧ (Q v t.heap ∧ Keep h0 t.heap ws0 ∧ Fr n0 L) ∧ CHx it Z EL s.vm h0 t.vm t.heap ∧ ReturnedEndW s o t L cl sl
def Goes (Z : State) (EL : List (String × Nat)) (it : Prop) (n0 : Nat) (h0 : Heap) (ws0 : List Addr) (Q : Option Value → Heap → Prop) (K : Ctx) (S : State) : Prop :=
  ∃ s₂ o, Steps K.p.tables K.e K.below S s₂ ∧ s₂.status = .running ∧ Ended s₂ K.below o ∧ Fine Z EL it n0 h0 ws0 Q K.R.cells K.R.slots K.s o s₂
def WP (l : Launch) (Z : State) (EL : List (String × Nat)) (it : Prop) (n0 : Nat) (own : String) (h0 : Heap) (ws0 : List Addr) (Q : Option Value → Heap → Prop) (K : Ctx) (h : Heap) (ws : List Addr) (cells slots : Nat) (g : JFrame) : Prop :=
  ∀ (vm : Vm) (T : State) (locs : List Loc), Pos l Z EL it n0 own h0 ws0 K h ws cells slots vm T locs → Goes Z EL it n0 h0 ws0 Q K (T.setTop g)
/-- what the walk knows of its own method -/
def Ok (l : Launch) (Z : State) (a0 : Array Value) (EL : List (String × Nat)) (it : Prop) (n0 : Nat) (own : String) (h0 : Heap) (ws0 : List Addr) (Q : Option Value → Heap → Prop) (code : ByteArray) (maxL : Nat) (ret : Option FieldType) (nm : String) (rm : Room) (K : Ctx) : Prop :=
  K.p.tables.exec = Jvm.exec ∧ EW Z a0 EL ∧ K.c.code = code ∧ K.c.maxLocals = maxL ∧ K.meth.sig.returnType = ret ∧ K.meth.name = nm ∧ K.meth.locks = false ∧ K.R = rm ∧ (TR → K.s.vm.MethodsKnown ∧ K.s.vm.FramesKnown K.below) ∧ K.s.heap = h0 ∧ Old Z n0 h0
/-- a method's law, as its body gives it -/
def Met (l : Launch) (Z : State) (EL : List (String × Nat)) (it : Prop) (n0 : Nat) (y : MethodName) (bytes : ByteArray) (maxL : Nat) (ret : Option FieldType) (rm : Room) (cs : List Jvm.Cond) (as : Array Value) (h : Heap) (ws : List Addr) (Q : Option Value → Heap → Prop) : Prop :=
  MetFree l y (head1 (Jvm.Cond.code y bytes maxL ret :: cs) rm) (fun a U => a = as ∧ Z.Warmed39 U.vm ∧ U.heap = h ∧ CHv Z EL U.vm h ∧ Old Z n0 h ∧ ∀ x ∈ ws, n0 ≤ x ∧ x < h.size ∧ Safe Z EL U.vm h x) (fun _ _ bl s _ => TR → s.vm.MethodsKnown ∧ s.vm.FramesKnown bl)
    (fun _ U o U' => Fine Z EL it n0 h ws Q rm.cells rm.slots U o U')
/-- a method's law, as a caller takes it -/
def Con (l : Launch) (Z : State) (a0 : Array Value) (EL : List (String × Nat)) (it : Prop) (n0 : Nat) (y : MethodName) (fr lo cl sl : Nat) (as : Array Value) (h : Heap) (ws : List Addr) (Q : Option Value → Heap → Prop) : Prop :=
  ∀ (R : Room) (p : Program) (e : Env) (below : List Frame) (s : State) (args : Array Value) (len W : Nat) (vm0 : Vm), Z.Warmed39 vm0 → EW Z a0 EL → CHv Z EL vm0 h → Old Z n0 h → (TR → vm0.MethodsKnown ∧ vm0.FramesKnown below) → (∀ x ∈ ws, n0 ≤ x ∧ x < h.size ∧ Safe Z EL vm0 h x) → fr ≤ R.frames → W + lo ≤ R.locals →
    BackS l R p e below (s.setVm vm0) args y len W (fun A a => a = as ∧ A.U.heap = h ∧ A.cells + cl ≤ R.cells ∧ A.slots + sl ≤ R.slots)
      (fun A _ v B => ∃ L, (Q v B.U.heap ∧ Keep h B.U.heap ws ∧ Fr n0 L) ∧ B.locs = A.locs ++ L ∧ B.cells = A.cells + cl ∧ B.slots = A.slots + sl ∧ CHx it Z EL vm0 h B.U.vm B.U.heap)
section Rules
variable {l : Launch} {Z : State} {a0 : Array Value} {EL : List (String × Nat)} {it : Prop} {n0 : Nat} {own : String} {h0 : Heap} {ws0 : List Addr} {Q : Option Value → Heap → Prop} {code : ByteArray} {maxL : Nat} {ret : Option FieldType} {nm : String} {rm : Room} {K : Ctx} {h : Heap} {ws : List Addr} {cells slots pc : Nat} {Ls : Array Slot} {st : List Value} {g g' : JFrame}
theorem Goes.of {S S' : State} (f : ∀ t, Steps K.p.tables K.e K.below S' t → Steps K.p.tables K.e K.below S t) (k : Goes Z EL it n0 h0 ws0 Q K S') : Goes Z EL it n0 h0 ws0 Q K S := by
  obtain ⟨s₂, o, h1, h2⟩ := k
  exact ⟨s₂, o, f _ h1, h2⟩
abbrev Ok.W (C : Ok l Z a0 EL it n0 own h0 ws0 Q code maxL ret nm rm K) (h : Heap) (ws : List Addr) (cells slots : Nat) (g : JFrame) : Prop := WP l Z EL it n0 own h0 ws0 Q K h ws cells slots g
theorem Ok.exec (C : Ok l Z a0 EL it n0 own h0 ws0 Q code maxL ret nm rm K) : K.p.tables.exec = Jvm.exec := C.1
theorem Ok.ew (C : Ok l Z a0 EL it n0 own h0 ws0 Q code maxL ret nm rm K) : EW Z a0 EL := C.2.1
theorem Ok.bytes (C : Ok l Z a0 EL it n0 own h0 ws0 Q code maxL ret nm rm K) : K.c.code = code := C.2.2.1
theorem Ok.maxl (C : Ok l Z a0 EL it n0 own h0 ws0 Q code maxL ret nm rm K) : K.c.maxLocals = maxL := C.2.2.2.1
theorem Ok.rets (C : Ok l Z a0 EL it n0 own h0 ws0 Q code maxL ret nm rm K) : K.meth.sig.returnType = ret := C.2.2.2.2.1
theorem Ok.named (C : Ok l Z a0 EL it n0 own h0 ws0 Q code maxL ret nm rm K) : K.meth.name = nm := C.2.2.2.2.2.1
theorem Ok.unlocked (C : Ok l Z a0 EL it n0 own h0 ws0 Q code maxL ret nm rm K) : K.meth.locks = false := C.2.2.2.2.2.2.1
theorem Ok.room (C : Ok l Z a0 EL it n0 own h0 ws0 Q code maxL ret nm rm K) : K.R = rm := C.2.2.2.2.2.2.2.1
theorem Ok.heap0 (C : Ok l Z a0 EL it n0 own h0 ws0 Q code maxL ret nm rm K) : K.s.heap = h0 := C.2.2.2.2.2.2.2.2.2.1
theorem Ok.old0 (C : Ok l Z a0 EL it n0 own h0 ws0 Q code maxL ret nm rm K) : Old Z n0 h0 := C.2.2.2.2.2.2.2.2.2.2
theorem Ok.known (C : Ok l Z a0 EL it n0 own h0 ws0 Q code maxL ret nm rm K) {vm : Vm} {k : Nat} (hS : K.s.Since vm k) : TR → vm.MethodsKnown ∧ vm.FramesKnown K.below := fun t =>
  ⟨Vm.MethodsKnown.alikeC hS.1.alike (C.2.2.2.2.2.2.2.2.1 t).1, Vm.FramesKnown.alikeC hS.1.alike (C.2.2.2.2.2.2.2.2.1 t).2⟩
theorem WP.step (f : ∀ vm T locs, Pos l Z EL it n0 own h0 ws0 K h ws cells slots vm T locs → ∀ t, Steps K.p.tables K.e K.below (T.setTop g') t → Steps K.p.tables K.e K.below (T.setTop g) t) (r : WP l Z EL it n0 own h0 ws0 Q K h ws cells slots g') : WP l Z EL it n0 own h0 ws0 Q K h ws cells slots g :=
  fun vm T locs P => Goes.of (f vm T locs P) (r vm T locs P)
/-- what a walk may lean on, wherever it stands -/
theorem Ok.know (C : Ok l Z a0 EL it n0 own h0 ws0 Q code maxL ret nm rm K) (r : n0 ≤ h.size → Keep h0 h ws0 → Old Z n0 h → (∀ x ∈ ws, n0 ≤ x ∧ x < h.size) → WP l Z EL it n0 own h0 ws0 Q K h ws cells slots g) : WP l Z EL it n0 own h0 ws0 Q K h ws cells slots g :=
  fun vm T locs P => r (P.2.2.2.2.2.2.2.2.1.1 ▸ P.2.2.2.2.2.2.2.2.1.2.1) P.2.2.2.2.2.2.2.1 P.2.2.2.2.2.2.2.2.1 (fun x hx => ⟨(P.2.2.2.2.2.2.2.2.2 x hx).1, (P.2.2.2.2.2.2.2.2.2 x hx).2.1⟩) vm T locs P
theorem Pos.ext {vm : Vm} {T T' : State} {locs : List Loc} {h' : Heap} {cells' slots' : Nat} (P : Pos l Z EL it n0 own h0 ws0 K h ws cells slots vm T locs) (X : Stand K.p l K.e K.R (K.s.setVm vm) K.m K.args K.below K.meth K.c T' locs cells' slots') (e : T'.heap = h') (E : Ext h h') :
    Pos l Z EL it n0 own h0 ws0 K h' ws cells' slots' vm T' locs := by
  obtain ⟨-, -, ⟨k, hS, hk⟩, hZ, hown, H, N, Kp, O, Ow⟩ := P
  exact ⟨X, e, ⟨k, hS, Nat.le_trans hk E.1⟩, hZ, hown, H.trans (CHx.ext E H.1), N, Kp.ext E, O.ext E, fun x hx => ⟨(Ow x hx).1, Nat.lt_of_lt_of_le (Ow x hx).2.1 E.1, (Ow x hx).2.2.1.ext E H.1, (Ow x hx).2.2.2⟩⟩
theorem Pos.new {vm : Vm} {T T' : State} {locs : List Loc} {h' : Heap} {cells' slots' : Nat} (P : Pos l Z EL it n0 own h0 ws0 K h ws cells slots vm T locs) (X : Stand K.p l K.e K.R (K.s.setVm vm) K.m K.args K.below K.meth K.c T' locs cells' slots') (e : T'.heap = h') (E : Ext h h') (hl : h.size < h'.size) :
    Pos l Z EL it n0 own h0 ws0 K h' (h.size :: ws) cells' slots' vm T' locs := by
  have P' := P.ext X e E
  obtain ⟨-, -, -, -, -, H, -, Kp, O, -⟩ := P
  refine ⟨P'.1, P'.2.1, P'.2.2.1, P'.2.2.2.1, P'.2.2.2.2.1, P'.2.2.2.2.2.1, P'.2.2.2.2.2.2.1, P'.2.2.2.2.2.2.2.1, P'.2.2.2.2.2.2.2.2.1, fun x hx => ?_⟩
  rcases List.mem_cons.mp hx with rfl | hx
  · exact ⟨O.1 ▸ O.2.1, hl, (Safe.new (Nat.le_refl _)).ext E H.1, Or.inr Kp.1⟩
  · exact P'.2.2.2.2.2.2.2.2.2 x hx
theorem Pos.wr {vm : Vm} {T T' : State} {locs : List Loc} {h' : Heap} {a : Nat} {sl : Nat} {v : Value} (P : Pos l Z EL it n0 own h0 ws0 K h ws cells slots vm T locs) (ha : a ∈ ws) (X : Stand K.p l K.e K.R (K.s.setVm vm) K.m K.args K.below K.meth K.c T' (locs ++ [⟨a, sl⟩]) cells slots) (e : T'.heap = h') (W : Wr h h' a sl v) :
    Pos l Z EL it n0 own h0 ws0 K h' ws cells slots vm T' (locs ++ [⟨a, sl⟩]) := by
  obtain ⟨-, -, ⟨k, hS, hk⟩, hZ, hown, H, N, Kp, O, Ow⟩ := P
  obtain ⟨q1, q2, q3, q4⟩ := Ow a ha
  exact ⟨X, e, ⟨k, hS, W.size ▸ hk⟩, hZ, hown, H.trans (CHx.wr W q3 H.1), Fr.snoc X N q1, Kp.wr W q4, O.wr W q1, fun x hx => ⟨(Ow x hx).1, W.size ▸ (Ow x hx).2.1, Safe.wr W q3 H.1 (Ow x hx).2.2.1, (Ow x hx).2.2.2⟩⟩
/-! plain steps -/
theorem Ok.aloadN (C : Ok l Z a0 EL it n0 own h0 ws0 Q code maxL ret nm rm K) {k : Fin 4} {v : Value} (hd : decode code pc = .ok (.aload_n k, 1)) (hl : Ls[k.val]? = some (.val v)) (hv : v.isRef = true) (r : WP l Z EL it n0 own h0 ws0 Q K h ws cells slots (mkF K.m (pc + 1) Ls (v :: st))) : WP l Z EL it n0 own h0 ws0 Q K h ws cells slots (mkF K.m pc Ls st) :=
  WP.step (fun _ _ _ P _ k => XS.aloadN P.1.here C.exec rfl (hb C.bytes hd) hl hv k) r
theorem Ok.aload (C : Ok l Z a0 EL it n0 own h0 ws0 Q code maxL ret nm rm K) {k : Nat} {v : Value} (hd : decode code pc = .ok (.aload k, 2)) (hl : Ls[k]? = some (.val v)) (hv : v.isRef = true) (r : WP l Z EL it n0 own h0 ws0 Q K h ws cells slots (mkF K.m (pc + 2) Ls (v :: st))) : WP l Z EL it n0 own h0 ws0 Q K h ws cells slots (mkF K.m pc Ls st) :=
  WP.step (fun _ _ _ P _ k => XS.aload P.1.here C.exec rfl (hb C.bytes hd) hl hv k) r
theorem Ok.iloadN (C : Ok l Z a0 EL it n0 own h0 ws0 Q code maxL ret nm rm K) {k : Fin 4} {v : Int32} (hd : decode code pc = .ok (.iload_n k, 1)) (hl : Ls[k.val]? = some (.val (.int v))) (r : WP l Z EL it n0 own h0 ws0 Q K h ws cells slots (mkF K.m (pc + 1) Ls (.int v :: st))) : WP l Z EL it n0 own h0 ws0 Q K h ws cells slots (mkF K.m pc Ls st) :=
  WP.step (fun _ _ _ P _ k => XS.iloadN P.1.here C.exec rfl (hb C.bytes hd) hl k) r
theorem Ok.iload (C : Ok l Z a0 EL it n0 own h0 ws0 Q code maxL ret nm rm K) {k : Nat} {v : Int32} (hd : decode code pc = .ok (.iload k, 2)) (hl : Ls[k]? = some (.val (.int v))) (r : WP l Z EL it n0 own h0 ws0 Q K h ws cells slots (mkF K.m (pc + 2) Ls (.int v :: st))) : WP l Z EL it n0 own h0 ws0 Q K h ws cells slots (mkF K.m pc Ls st) :=
  WP.step (fun _ _ _ P _ k => XS.iload P.1.here C.exec rfl (hb C.bytes hd) hl k) r
theorem Ok.lloadN (C : Ok l Z a0 EL it n0 own h0 ws0 Q code maxL ret nm rm K) {k : Fin 4} {v : Int64} (hd : decode code pc = .ok (.lload_n k, 1)) (hl : Ls[k.val]? = some (.val (.long v))) (r : WP l Z EL it n0 own h0 ws0 Q K h ws cells slots (mkF K.m (pc + 1) Ls (.long v :: st))) : WP l Z EL it n0 own h0 ws0 Q K h ws cells slots (mkF K.m pc Ls st) :=
  WP.step (fun _ _ _ P _ k => XS.lloadN P.1.here C.exec rfl (hb C.bytes hd) hl k) r
theorem Ok.lload (C : Ok l Z a0 EL it n0 own h0 ws0 Q code maxL ret nm rm K) {k : Nat} {v : Int64} (hd : decode code pc = .ok (.lload k, 2)) (hl : Ls[k]? = some (.val (.long v))) (r : WP l Z EL it n0 own h0 ws0 Q K h ws cells slots (mkF K.m (pc + 2) Ls (.long v :: st))) : WP l Z EL it n0 own h0 ws0 Q K h ws cells slots (mkF K.m pc Ls st) :=
  WP.step (fun _ _ _ P _ k => XS.lload P.1.here C.exec rfl (hb C.bytes hd) hl k) r
theorem Ok.iconst (C : Ok l Z a0 EL it n0 own h0 ws0 Q code maxL ret nm rm K) {i : Int} {v : Int32} (hd : decode code pc = .ok (.iconst i, 1)) (hv : Int32.ofInt i = v) (r : WP l Z EL it n0 own h0 ws0 Q K h ws cells slots (mkF K.m (pc + 1) Ls (.int v :: st))) : WP l Z EL it n0 own h0 ws0 Q K h ws cells slots (mkF K.m pc Ls st) := by
  subst hv; exact WP.step (fun _ _ _ P _ k => XS.iconst P.1.here C.exec rfl (hb C.bytes hd) k) r
theorem Ok.bipush (C : Ok l Z a0 EL it n0 own h0 ws0 Q code maxL ret nm rm K) {i : Int} {v : Int32} (hd : decode code pc = .ok (.bipush i, 2)) (hv : (Int8.ofInt i).toInt32 = v) (r : WP l Z EL it n0 own h0 ws0 Q K h ws cells slots (mkF K.m (pc + 2) Ls (.int v :: st))) : WP l Z EL it n0 own h0 ws0 Q K h ws cells slots (mkF K.m pc Ls st) := by
  subst hv; exact WP.step (fun _ _ _ P _ k => XS.bipush P.1.here C.exec rfl (hb C.bytes hd) k) r
theorem Ok.sipush (C : Ok l Z a0 EL it n0 own h0 ws0 Q code maxL ret nm rm K) {i : Int} {v : Int32} (hd : decode code pc = .ok (.sipush i, 3)) (hv : (Int16.ofInt i).toInt32 = v) (r : WP l Z EL it n0 own h0 ws0 Q K h ws cells slots (mkF K.m (pc + 3) Ls (.int v :: st))) : WP l Z EL it n0 own h0 ws0 Q K h ws cells slots (mkF K.m pc Ls st) := by
  subst hv; exact WP.step (fun _ _ _ P _ k => XS.sipush P.1.here C.exec rfl (hb C.bytes hd) k) r
theorem Ok.lconst (C : Ok l Z a0 EL it n0 own h0 ws0 Q code maxL ret nm rm K) {i : Fin 2} (hd : decode code pc = .ok (.lconst i, 1)) {v : Int64} (hv : Int64.ofNat i.val = v) (r : WP l Z EL it n0 own h0 ws0 Q K h ws cells slots (mkF K.m (pc + 1) Ls (.long v :: st))) : WP l Z EL it n0 own h0 ws0 Q K h ws cells slots (mkF K.m pc Ls st) := by
  subst hv; exact WP.step (fun _ _ _ P _ k => XS.lconst P.1.here C.exec rfl (hb C.bytes hd) k) r
theorem Ok.aconstNull (C : Ok l Z a0 EL it n0 own h0 ws0 Q code maxL ret nm rm K) (hd : decode code pc = .ok (.aconst_null, 1)) (r : WP l Z EL it n0 own h0 ws0 Q K h ws cells slots (mkF K.m (pc + 1) Ls (.null :: st))) : WP l Z EL it n0 own h0 ws0 Q K h ws cells slots (mkF K.m pc Ls st) :=
  WP.step (fun _ _ _ P _ k => XS.aconstNull P.1.here C.exec rfl (hb C.bytes hd) k) r
theorem Ok.ldcInt (C : Ok l Z a0 EL it n0 own h0 ws0 Q code maxL ret nm rm K) {index : Nat} {v : Int32} (w : (Jvm.Cond.constant own index v).before a0 Z = true) (hd : decode code pc = .ok (.ldc index, 2)) (r : WP l Z EL it n0 own h0 ws0 Q K h ws cells slots (mkF K.m (pc + 2) Ls (.int v :: st))) : WP l Z EL it n0 own h0 ws0 Q K h ws cells slots (mkF K.m pc Ls st) :=
  WP.step (fun _ _ _ P t k => P.1.ldcInt C.exec P.2.2.2.2.1 (mv P.2.2.2.1 w) (g := mkF K.m pc Ls st) rfl (hb C.bytes hd) t k) r
theorem Ok.ldcwInt (C : Ok l Z a0 EL it n0 own h0 ws0 Q code maxL ret nm rm K) {index : Nat} {v : Int32} (w : (Jvm.Cond.constant own index v).before a0 Z = true) (hd : decode code pc = .ok (.ldc_w index, 3)) (r : WP l Z EL it n0 own h0 ws0 Q K h ws cells slots (mkF K.m (pc + 3) Ls (.int v :: st))) : WP l Z EL it n0 own h0 ws0 Q K h ws cells slots (mkF K.m pc Ls st) :=
  WP.step (fun _ _ _ P t k => P.1.ldcwInt C.exec P.2.2.2.2.1 (mv P.2.2.2.1 w) (g := mkF K.m pc Ls st) rfl (hb C.bytes hd) t k) r
theorem Ok.ldc2Long (C : Ok l Z a0 EL it n0 own h0 ws0 Q code maxL ret nm rm K) {index : Nat} {v : Int64} (w : (Jvm.Cond.constantLong own index v).before a0 Z = true) (hd : decode code pc = .ok (.ldc2_w index, 3)) (r : WP l Z EL it n0 own h0 ws0 Q K h ws cells slots (mkF K.m (pc + 3) Ls (.long v :: st))) : WP l Z EL it n0 own h0 ws0 Q K h ws cells slots (mkF K.m pc Ls st) :=
  WP.step (fun _ _ _ P t k => P.1.ldc2Long C.exec P.2.2.2.2.1 (mv P.2.2.2.1 w) (g := mkF K.m pc Ls st) rfl (hb C.bytes hd) t k) r
theorem Ok.iadd (C : Ok l Z a0 EL it n0 own h0 ws0 Q code maxL ret nm rm K) {x y : Int32} (hd : decode code pc = .ok (.iadd, 1)) (r : WP l Z EL it n0 own h0 ws0 Q K h ws cells slots (mkF K.m (pc + 1) Ls (.int (x + y) :: st))) : WP l Z EL it n0 own h0 ws0 Q K h ws cells slots (mkF K.m pc Ls (.int y :: .int x :: st)) :=
  WP.step (fun _ _ _ P _ k => XS.iadd P.1.here C.exec rfl (hb C.bytes hd) rfl k) r
theorem Ok.isub (C : Ok l Z a0 EL it n0 own h0 ws0 Q code maxL ret nm rm K) {x y : Int32} (hd : decode code pc = .ok (.isub, 1)) (r : WP l Z EL it n0 own h0 ws0 Q K h ws cells slots (mkF K.m (pc + 1) Ls (.int (x - y) :: st))) : WP l Z EL it n0 own h0 ws0 Q K h ws cells slots (mkF K.m pc Ls (.int y :: .int x :: st)) :=
  WP.step (fun _ _ _ P _ k => XS.isub P.1.here C.exec rfl (hb C.bytes hd) rfl k) r
theorem Ok.imul (C : Ok l Z a0 EL it n0 own h0 ws0 Q code maxL ret nm rm K) {x y : Int32} (hd : decode code pc = .ok (.imul, 1)) (r : WP l Z EL it n0 own h0 ws0 Q K h ws cells slots (mkF K.m (pc + 1) Ls (.int (x * y) :: st))) : WP l Z EL it n0 own h0 ws0 Q K h ws cells slots (mkF K.m pc Ls (.int y :: .int x :: st)) :=
  WP.step (fun _ _ _ P _ k => XS.imul P.1.here C.exec rfl (hb C.bytes hd) rfl k) r
theorem Ok.iand (C : Ok l Z a0 EL it n0 own h0 ws0 Q code maxL ret nm rm K) {x y : Int32} (hd : decode code pc = .ok (.iand, 1)) (r : WP l Z EL it n0 own h0 ws0 Q K h ws cells slots (mkF K.m (pc + 1) Ls (.int (x &&& y) :: st))) : WP l Z EL it n0 own h0 ws0 Q K h ws cells slots (mkF K.m pc Ls (.int y :: .int x :: st)) :=
  WP.step (fun _ _ _ P _ k => XS.iand P.1.here C.exec rfl (hb C.bytes hd) rfl k) r
theorem Ok.ior (C : Ok l Z a0 EL it n0 own h0 ws0 Q code maxL ret nm rm K) {x y : Int32} (hd : decode code pc = .ok (.ior, 1)) (r : WP l Z EL it n0 own h0 ws0 Q K h ws cells slots (mkF K.m (pc + 1) Ls (.int (x ||| y) :: st))) : WP l Z EL it n0 own h0 ws0 Q K h ws cells slots (mkF K.m pc Ls (.int y :: .int x :: st)) :=
  WP.step (fun _ _ _ P _ k => XS.ior P.1.here C.exec rfl (hb C.bytes hd) rfl k) r
theorem Ok.ixor (C : Ok l Z a0 EL it n0 own h0 ws0 Q code maxL ret nm rm K) {x y : Int32} (hd : decode code pc = .ok (.ixor, 1)) (r : WP l Z EL it n0 own h0 ws0 Q K h ws cells slots (mkF K.m (pc + 1) Ls (.int (x ^^^ y) :: st))) : WP l Z EL it n0 own h0 ws0 Q K h ws cells slots (mkF K.m pc Ls (.int y :: .int x :: st)) :=
  WP.step (fun _ _ _ P _ k => XS.ixor P.1.here C.exec rfl (hb C.bytes hd) rfl k) r
theorem Ok.ladd (C : Ok l Z a0 EL it n0 own h0 ws0 Q code maxL ret nm rm K) {x y : Int64} (hd : decode code pc = .ok (.ladd, 1)) (r : WP l Z EL it n0 own h0 ws0 Q K h ws cells slots (mkF K.m (pc + 1) Ls (.long (x + y) :: st))) : WP l Z EL it n0 own h0 ws0 Q K h ws cells slots (mkF K.m pc Ls (.long y :: .long x :: st)) :=
  WP.step (fun _ _ _ P _ k => XS.ladd P.1.here C.exec rfl (hb C.bytes hd) rfl k) r
theorem Ok.lsub (C : Ok l Z a0 EL it n0 own h0 ws0 Q code maxL ret nm rm K) {x y : Int64} (hd : decode code pc = .ok (.lsub, 1)) (r : WP l Z EL it n0 own h0 ws0 Q K h ws cells slots (mkF K.m (pc + 1) Ls (.long (x - y) :: st))) : WP l Z EL it n0 own h0 ws0 Q K h ws cells slots (mkF K.m pc Ls (.long y :: .long x :: st)) :=
  WP.step (fun _ _ _ P _ k => XS.lsub P.1.here C.exec rfl (hb C.bytes hd) rfl k) r
theorem Ok.land (C : Ok l Z a0 EL it n0 own h0 ws0 Q code maxL ret nm rm K) {x y : Int64} (hd : decode code pc = .ok (.land, 1)) (r : WP l Z EL it n0 own h0 ws0 Q K h ws cells slots (mkF K.m (pc + 1) Ls (.long (x &&& y) :: st))) : WP l Z EL it n0 own h0 ws0 Q K h ws cells slots (mkF K.m pc Ls (.long y :: .long x :: st)) :=
  WP.step (fun _ _ _ P _ k => XS.land P.1.here C.exec rfl (hb C.bytes hd) rfl k) r
theorem Ok.lmul (C : Ok l Z a0 EL it n0 own h0 ws0 Q code maxL ret nm rm K) {x y : Int64} (hd : decode code pc = .ok (.lmul, 1)) (r : WP l Z EL it n0 own h0 ws0 Q K h ws cells slots (mkF K.m (pc + 1) Ls (.long (x * y) :: st))) : WP l Z EL it n0 own h0 ws0 Q K h ws cells slots (mkF K.m pc Ls (.long y :: .long x :: st)) :=
  WP.step (fun _ _ _ P _ k => XS.lmul P.1.here C.exec rfl (hb C.bytes hd) rfl k) r
theorem Ok.i2c (C : Ok l Z a0 EL it n0 own h0 ws0 Q code maxL ret nm rm K) {x : Int32} (hd : decode code pc = .ok (.i2c, 1)) (r : WP l Z EL it n0 own h0 ws0 Q K h ws cells slots (mkF K.m (pc + 1) Ls (.int (x.toUInt32.toUInt16.toUInt32.toInt32) :: st))) : WP l Z EL it n0 own h0 ws0 Q K h ws cells slots (mkF K.m pc Ls (.int x :: st)) :=
  WP.step (fun _ _ _ P _ k => XS.i2c P.1.here C.exec rfl (hb C.bytes hd) rfl k) r
theorem Ok.i2b (C : Ok l Z a0 EL it n0 own h0 ws0 Q code maxL ret nm rm K) {x : Int32} (hd : decode code pc = .ok (.i2b, 1)) (r : WP l Z EL it n0 own h0 ws0 Q K h ws cells slots (mkF K.m (pc + 1) Ls (.int (x.toInt8.toInt32) :: st))) : WP l Z EL it n0 own h0 ws0 Q K h ws cells slots (mkF K.m pc Ls (.int x :: st)) :=
  WP.step (fun _ _ _ P _ k => XS.i2b P.1.here C.exec rfl (hb C.bytes hd) rfl k) r
theorem Ok.i2l (C : Ok l Z a0 EL it n0 own h0 ws0 Q code maxL ret nm rm K) {x : Int32} (hd : decode code pc = .ok (.i2l, 1)) (r : WP l Z EL it n0 own h0 ws0 Q K h ws cells slots (mkF K.m (pc + 1) Ls (.long (x.toInt64) :: st))) : WP l Z EL it n0 own h0 ws0 Q K h ws cells slots (mkF K.m pc Ls (.int x :: st)) :=
  WP.step (fun _ _ _ P _ k => XS.i2l P.1.here C.exec rfl (hb C.bytes hd) rfl k) r
theorem Ok.l2i (C : Ok l Z a0 EL it n0 own h0 ws0 Q code maxL ret nm rm K) {x : Int64} (hd : decode code pc = .ok (.l2i, 1)) (r : WP l Z EL it n0 own h0 ws0 Q K h ws cells slots (mkF K.m (pc + 1) Ls (.int (x.toInt32) :: st))) : WP l Z EL it n0 own h0 ws0 Q K h ws cells slots (mkF K.m pc Ls (.long x :: st)) :=
  WP.step (fun _ _ _ P _ k => XS.l2i P.1.here C.exec rfl (hb C.bytes hd) rfl k) r
theorem Ok.ineg (C : Ok l Z a0 EL it n0 own h0 ws0 Q code maxL ret nm rm K) {x : Int32} (hd : decode code pc = .ok (.ineg, 1)) (r : WP l Z EL it n0 own h0 ws0 Q K h ws cells slots (mkF K.m (pc + 1) Ls (.int (-x) :: st))) : WP l Z EL it n0 own h0 ws0 Q K h ws cells slots (mkF K.m pc Ls (.int x :: st)) :=
  WP.step (fun _ _ _ P _ k => XS.ineg P.1.here C.exec rfl (hb C.bytes hd) rfl k) r
theorem Ok.ishl (C : Ok l Z a0 EL it n0 own h0 ws0 Q code maxL ret nm rm K) {x y : Int32} (hd : decode code pc = .ok (.ishl, 1)) (r : WP l Z EL it n0 own h0 ws0 Q K h ws cells slots (mkF K.m (pc + 1) Ls (.int (x <<< (y &&& 31)) :: st))) : WP l Z EL it n0 own h0 ws0 Q K h ws cells slots (mkF K.m pc Ls (.int y :: .int x :: st)) :=
  WP.step (fun _ _ _ P _ k => XS.ishl P.1.here C.exec rfl (hb C.bytes hd) rfl k) r
theorem Ok.ishr (C : Ok l Z a0 EL it n0 own h0 ws0 Q code maxL ret nm rm K) {x y : Int32} (hd : decode code pc = .ok (.ishr, 1)) (r : WP l Z EL it n0 own h0 ws0 Q K h ws cells slots (mkF K.m (pc + 1) Ls (.int (x >>> (y &&& 31)) :: st))) : WP l Z EL it n0 own h0 ws0 Q K h ws cells slots (mkF K.m pc Ls (.int y :: .int x :: st)) :=
  WP.step (fun _ _ _ P _ k => XS.ishr P.1.here C.exec rfl (hb C.bytes hd) rfl k) r
theorem Ok.iushr (C : Ok l Z a0 EL it n0 own h0 ws0 Q code maxL ret nm rm K) {x y : Int32} (hd : decode code pc = .ok (.iushr, 1)) (r : WP l Z EL it n0 own h0 ws0 Q K h ws cells slots (mkF K.m (pc + 1) Ls (.int (x.toUInt32 >>> (y &&& 31).toUInt32).toInt32 :: st))) : WP l Z EL it n0 own h0 ws0 Q K h ws cells slots (mkF K.m pc Ls (.int y :: .int x :: st)) :=
  WP.step (fun _ _ _ P _ k => XS.iushr P.1.here C.exec rfl (hb C.bytes hd) rfl k) r
theorem Ok.lushr (C : Ok l Z a0 EL it n0 own h0 ws0 Q code maxL ret nm rm K) {x : Int64} {y : Int32} (hd : decode code pc = .ok (.lushr, 1)) (r : WP l Z EL it n0 own h0 ws0 Q K h ws cells slots (mkF K.m (pc + 1) Ls (.long (x.toUInt64 >>> (y &&& 0x3f).toInt64.toUInt64).toInt64 :: st))) : WP l Z EL it n0 own h0 ws0 Q K h ws cells slots (mkF K.m pc Ls (.int y :: .long x :: st)) :=
  WP.step (fun _ _ _ P _ k => XS.lushr P.1.here C.exec rfl (hb C.bytes hd) rfl k) r
theorem Ok.idiv (C : Ok l Z a0 EL it n0 own h0 ws0 Q code maxL ret nm rm K) {x y : Int32} (hy : y ≠ 0) (hd : decode code pc = .ok (.idiv, 1)) (r : WP l Z EL it n0 own h0 ws0 Q K h ws cells slots (mkF K.m (pc + 1) Ls (.int (x / y) :: st))) : WP l Z EL it n0 own h0 ws0 Q K h ws cells slots (mkF K.m pc Ls (.int y :: .int x :: st)) :=
  WP.step (fun _ _ _ P _ k => XS.idiv P.1.here C.exec rfl (hb C.bytes hd) rfl hy k) r
theorem Ok.irem (C : Ok l Z a0 EL it n0 own h0 ws0 Q code maxL ret nm rm K) {x y : Int32} (hy : y ≠ 0) (hd : decode code pc = .ok (.irem, 1)) (r : WP l Z EL it n0 own h0 ws0 Q K h ws cells slots (mkF K.m (pc + 1) Ls (.int (x % y) :: st))) : WP l Z EL it n0 own h0 ws0 Q K h ws cells slots (mkF K.m pc Ls (.int y :: .int x :: st)) :=
  WP.step (fun _ _ _ P _ k => iremM P.1 C.exec (g := mkF K.m pc Ls (.int y :: .int x :: st)) rfl (hb C.bytes hd) rfl hy k) r
theorem Ok.ldiv (C : Ok l Z a0 EL it n0 own h0 ws0 Q code maxL ret nm rm K) {x y : Int64} (hy : y ≠ 0) (hd : decode code pc = .ok (.ldiv, 1)) (r : WP l Z EL it n0 own h0 ws0 Q K h ws cells slots (mkF K.m (pc + 1) Ls (.long (x / y) :: st))) : WP l Z EL it n0 own h0 ws0 Q K h ws cells slots (mkF K.m pc Ls (.long y :: .long x :: st)) :=
  WP.step (fun _ _ _ P _ k => XS.ldiv P.1.here C.exec rfl (hb C.bytes hd) rfl hy k) r
theorem Ok.lrem (C : Ok l Z a0 EL it n0 own h0 ws0 Q code maxL ret nm rm K) {x y : Int64} (hy : y ≠ 0) (hd : decode code pc = .ok (.lrem, 1)) (r : WP l Z EL it n0 own h0 ws0 Q K h ws cells slots (mkF K.m (pc + 1) Ls (.long (x % y) :: st))) : WP l Z EL it n0 own h0 ws0 Q K h ws cells slots (mkF K.m pc Ls (.long y :: .long x :: st)) :=
  WP.step (fun _ _ _ P _ k => XS.lrem P.1.here C.exec rfl (hb C.bytes hd) rfl hy (by rw [lrem_mod]; exact k)) r
theorem Ok.lcmp (C : Ok l Z a0 EL it n0 own h0 ws0 Q code maxL ret nm rm K) {x y : Int64} (hd : decode code pc = .ok (.lcmp, 1)) (r : WP l Z EL it n0 own h0 ws0 Q K h ws cells slots (mkF K.m (pc + 1) Ls (.int (lcmpW x y) :: st))) : WP l Z EL it n0 own h0 ws0 Q K h ws cells slots (mkF K.m pc Ls (.long y :: .long x :: st)) :=
  WP.step (fun _ _ _ P _ k => XS.lcmp P.1.here C.exec rfl (hb C.bytes hd) rfl k) r
theorem Ok.dup (C : Ok l Z a0 EL it n0 own h0 ws0 Q code maxL ret nm rm K) {x : Value} (hc : x.category = 1) (hd : decode code pc = .ok (.dup, 1)) (r : WP l Z EL it n0 own h0 ws0 Q K h ws cells slots (mkF K.m (pc + 1) Ls (x :: x :: st))) : WP l Z EL it n0 own h0 ws0 Q K h ws cells slots (mkF K.m pc Ls (x :: st)) :=
  WP.step (fun _ _ _ P _ k => XS.dup P.1.here C.exec rfl (hb C.bytes hd) rfl hc k) r
theorem Ok.pop (C : Ok l Z a0 EL it n0 own h0 ws0 Q code maxL ret nm rm K) {x : Value} (hc : x.category = 1) (hd : decode code pc = .ok (.pop, 1)) (r : WP l Z EL it n0 own h0 ws0 Q K h ws cells slots (mkF K.m (pc + 1) Ls st)) : WP l Z EL it n0 own h0 ws0 Q K h ws cells slots (mkF K.m pc Ls (x :: st)) :=
  WP.step (fun _ _ _ P _ k => XS.pop P.1.here C.exec rfl (hb C.bytes hd) rfl hc k) r
theorem Ok.istoreN (C : Ok l Z a0 EL it n0 own h0 ws0 Q code maxL ret nm rm K) {k : Fin 4} {x : Int32} (L' : Array Slot) (hd : decode code pc = .ok (.istore_n k, 1)) (hl : storeLocals Ls k.val (.int x) = some L') (r : WP l Z EL it n0 own h0 ws0 Q K h ws cells slots (mkF K.m (pc + 1) L' st)) : WP l Z EL it n0 own h0 ws0 Q K h ws cells slots (mkF K.m pc Ls (.int x :: st)) :=
  WP.step (fun _ _ _ P _ k => XS.istoreN P.1.here C.exec rfl (hb C.bytes hd) rfl hl k) r
theorem Ok.istore (C : Ok l Z a0 EL it n0 own h0 ws0 Q code maxL ret nm rm K) {k : Nat} {x : Int32} (L' : Array Slot) (hd : decode code pc = .ok (.istore k, 2)) (hl : storeLocals Ls k (.int x) = some L') (r : WP l Z EL it n0 own h0 ws0 Q K h ws cells slots (mkF K.m (pc + 2) L' st)) : WP l Z EL it n0 own h0 ws0 Q K h ws cells slots (mkF K.m pc Ls (.int x :: st)) :=
  WP.step (fun _ _ _ P _ k => XS.istore P.1.here C.exec rfl (hb C.bytes hd) rfl hl k) r
theorem Ok.astoreN (C : Ok l Z a0 EL it n0 own h0 ws0 Q code maxL ret nm rm K) {k : Fin 4} {x : Value} (L' : Array Slot) (hd : decode code pc = .ok (.astore_n k, 1)) (hv : x.isRef = true) (hl : storeLocals Ls k.val x = some L') (r : WP l Z EL it n0 own h0 ws0 Q K h ws cells slots (mkF K.m (pc + 1) L' st)) : WP l Z EL it n0 own h0 ws0 Q K h ws cells slots (mkF K.m pc Ls (x :: st)) :=
  WP.step (fun _ _ _ P _ k => XS.astoreN P.1.here C.exec rfl (hb C.bytes hd) rfl hv hl k) r
theorem Ok.astore (C : Ok l Z a0 EL it n0 own h0 ws0 Q code maxL ret nm rm K) {k : Nat} {x : Value} (L' : Array Slot) (hd : decode code pc = .ok (.astore k, 2)) (hv : x.isRef = true) (hl : storeLocals Ls k x = some L') (r : WP l Z EL it n0 own h0 ws0 Q K h ws cells slots (mkF K.m (pc + 2) L' st)) : WP l Z EL it n0 own h0 ws0 Q K h ws cells slots (mkF K.m pc Ls (x :: st)) :=
  WP.step (fun _ _ _ P _ k => XS.astore P.1.here C.exec rfl (hb C.bytes hd) rfl hv hl k) r
theorem Ok.lstoreN (C : Ok l Z a0 EL it n0 own h0 ws0 Q code maxL ret nm rm K) {k : Fin 4} {x : Int64} (L' : Array Slot) (hd : decode code pc = .ok (.lstore_n k, 1)) (hl : storeLocals Ls k.val (.long x) = some L') (r : WP l Z EL it n0 own h0 ws0 Q K h ws cells slots (mkF K.m (pc + 1) L' st)) : WP l Z EL it n0 own h0 ws0 Q K h ws cells slots (mkF K.m pc Ls (.long x :: st)) :=
  WP.step (fun _ _ _ P _ k => XS.lstoreN P.1.here C.exec rfl (hb C.bytes hd) rfl hl k) r
theorem Ok.lstore (C : Ok l Z a0 EL it n0 own h0 ws0 Q code maxL ret nm rm K) {k : Nat} {x : Int64} (L' : Array Slot) (hd : decode code pc = .ok (.lstore k, 2)) (hl : storeLocals Ls k (.long x) = some L') (r : WP l Z EL it n0 own h0 ws0 Q K h ws cells slots (mkF K.m (pc + 2) L' st)) : WP l Z EL it n0 own h0 ws0 Q K h ws cells slots (mkF K.m pc Ls (.long x :: st)) :=
  WP.step (fun _ _ _ P _ k => XS.lstore P.1.here C.exec rfl (hb C.bytes hd) rfl hl k) r
theorem Ok.iinc (C : Ok l Z a0 EL it n0 own h0 ws0 Q code maxL ret nm rm K) {k : Nat} {cst : Int} {x z : Int32} (L' : Array Slot) (hd : decode code pc = .ok (.iinc k cst, 3)) (hl : Ls[k]? = some (.val (.int x))) (hz : Int32.ofInt cst = z) (hl' : storeLocals Ls k (.int (x + z)) = some L') (r : WP l Z EL it n0 own h0 ws0 Q K h ws cells slots (mkF K.m (pc + 3) L' st)) : WP l Z EL it n0 own h0 ws0 Q K h ws cells slots (mkF K.m pc Ls st) := by
  subst hz; exact WP.step (fun _ _ _ P _ k => XS.iinc P.1.here C.exec rfl (hb C.bytes hd) hl hl' k) r
theorem Ok.goto (C : Ok l Z a0 EL it n0 own h0 ws0 Q code maxL ret nm rm K) {o : Int} (pc' : Nat) (hd : decode code pc = .ok (.goto o, 3)) (ho : 0 ≤ (pc : Int) + o) (hp : ((pc : Int) + o).toNat = pc') (r : WP l Z EL it n0 own h0 ws0 Q K h ws cells slots (mkF K.m pc' Ls st)) : WP l Z EL it n0 own h0 ws0 Q K h ws cells slots (mkF K.m pc Ls st) :=
  WP.step (fun _ _ _ P _ k => XS.goto P.1.here C.exec rfl rfl (hb C.bytes hd) ho hp k) r
/-! branches -/
theorem Ok.icmp (C : Ok l Z a0 EL it n0 own h0 ws0 Q code maxL ret nm rm K) {cd : ClassFile.Cond} {x y : Int32} {o : Int} (pc' : Nat) (hd : decode code pc = .ok (.if_icmp cd o, 3)) (ho : 0 ≤ (pc : Int) + o) (hp : ((pc : Int) + o).toNat = pc') (t : if_icmp.holds cd x y = true → WP l Z EL it n0 own h0 ws0 Q K h ws cells slots (mkF K.m pc' Ls st)) (f : if_icmp.holds cd x y = false → WP l Z EL it n0 own h0 ws0 Q K h ws cells slots (mkF K.m (pc + 3) Ls st)) : WP l Z EL it n0 own h0 ws0 Q K h ws cells slots (mkF K.m pc Ls (.int y :: .int x :: st)) := by
  cases q : if_icmp.holds cd x y
  · exact WP.step (fun _ _ _ P _ k => XS.icmpNo P.1.here C.exec rfl (hb C.bytes hd) rfl q k) (f q)
  · exact WP.step (fun _ _ _ P _ k => XS.icmpYes P.1.here C.exec rfl rfl (hb C.bytes hd) rfl q ho hp k) (t q)
theorem Ok.ifc (C : Ok l Z a0 EL it n0 own h0 ws0 Q code maxL ret nm rm K) {cd : ClassFile.Cond} {x : Int32} {o : Int} (pc' : Nat) (hd : decode code pc = .ok (.ifCond cd o, 3)) (ho : 0 ≤ (pc : Int) + o) (hp : ((pc : Int) + o).toNat = pc') (t : if_icmp.holds cd x 0 = true → WP l Z EL it n0 own h0 ws0 Q K h ws cells slots (mkF K.m pc' Ls st)) (f : if_icmp.holds cd x 0 = false → WP l Z EL it n0 own h0 ws0 Q K h ws cells slots (mkF K.m (pc + 3) Ls st)) : WP l Z EL it n0 own h0 ws0 Q K h ws cells slots (mkF K.m pc Ls (.int x :: st)) := by
  cases q : if_icmp.holds cd x 0
  · exact WP.step (fun _ _ _ P _ k => XS.ifNo P.1.here C.exec rfl (hb C.bytes hd) rfl (by rw [if0]; exact q) k) (f q)
  · exact WP.step (fun _ _ _ P _ k => XS.ifYes P.1.here C.exec rfl rfl (hb C.bytes hd) rfl (by rw [if0]; exact q) ho hp k) (t q)
theorem hEq (x y : Int32) : (if_icmp.holds .eq x y = true ↔ x.toInt = y.toInt) ∧ (if_icmp.holds .eq x y = false ↔ x.toInt ≠ y.toInt) := by simp [if_icmp.holds, Int32.toInt_inj]
theorem hNe (x y : Int32) : (if_icmp.holds .ne x y = true ↔ x.toInt ≠ y.toInt) ∧ (if_icmp.holds .ne x y = false ↔ x.toInt = y.toInt) := by simp [if_icmp.holds, Int32.toInt_inj]
theorem hLt (x y : Int32) : (if_icmp.holds .lt x y = true ↔ x.toInt < y.toInt) ∧ (if_icmp.holds .lt x y = false ↔ y.toInt ≤ x.toInt) := by simp [if_icmp.holds, Int32.lt_iff_toInt_lt, Int32.le_iff_toInt_le]
theorem hGe (x y : Int32) : (if_icmp.holds .ge x y = true ↔ y.toInt ≤ x.toInt) ∧ (if_icmp.holds .ge x y = false ↔ x.toInt < y.toInt) := by simp [if_icmp.holds, Int32.lt_iff_toInt_lt, Int32.le_iff_toInt_le]
theorem hGt (x y : Int32) : (if_icmp.holds .gt x y = true ↔ y.toInt < x.toInt) ∧ (if_icmp.holds .gt x y = false ↔ x.toInt ≤ y.toInt) := by simp [if_icmp.holds, Int32.lt_iff_toInt_lt, Int32.le_iff_toInt_le]
theorem hLe (x y : Int32) : (if_icmp.holds .le x y = true ↔ x.toInt ≤ y.toInt) ∧ (if_icmp.holds .le x y = false ↔ y.toInt < x.toInt) := by simp [if_icmp.holds, Int32.lt_iff_toInt_lt, Int32.le_iff_toInt_le]
theorem Ok.icmp_eq (C : Ok l Z a0 EL it n0 own h0 ws0 Q code maxL ret nm rm K) {x y : Int32} {o : Int} (pc' : Nat) (hd : decode code pc = .ok (.if_icmp .eq o, 3)) (ho : 0 ≤ (pc : Int) + o) (hp : ((pc : Int) + o).toNat = pc') (t : x.toInt = y.toInt → WP l Z EL it n0 own h0 ws0 Q K h ws cells slots (mkF K.m pc' Ls st)) (f : x.toInt ≠ y.toInt → WP l Z EL it n0 own h0 ws0 Q K h ws cells slots (mkF K.m (pc + 3) Ls st)) : WP l Z EL it n0 own h0 ws0 Q K h ws cells slots (mkF K.m pc Ls (.int y :: .int x :: st)) :=
  C.icmp pc' hd ho hp (fun q => t ((hEq x y).1.mp q)) (fun q => f ((hEq x y).2.mp q))
theorem Ok.ifc_eq (C : Ok l Z a0 EL it n0 own h0 ws0 Q code maxL ret nm rm K) {x : Int32} {o : Int} (pc' : Nat) (hd : decode code pc = .ok (.ifCond .eq o, 3)) (ho : 0 ≤ (pc : Int) + o) (hp : ((pc : Int) + o).toNat = pc') (t : x.toInt = 0 → WP l Z EL it n0 own h0 ws0 Q K h ws cells slots (mkF K.m pc' Ls st)) (f : x.toInt ≠ 0 → WP l Z EL it n0 own h0 ws0 Q K h ws cells slots (mkF K.m (pc + 3) Ls st)) : WP l Z EL it n0 own h0 ws0 Q K h ws cells slots (mkF K.m pc Ls (.int x :: st)) :=
  C.ifc pc' hd ho hp (fun q => t ((hEq x 0).1.mp q)) (fun q => f ((hEq x 0).2.mp q))
theorem Ok.icmp_ne (C : Ok l Z a0 EL it n0 own h0 ws0 Q code maxL ret nm rm K) {x y : Int32} {o : Int} (pc' : Nat) (hd : decode code pc = .ok (.if_icmp .ne o, 3)) (ho : 0 ≤ (pc : Int) + o) (hp : ((pc : Int) + o).toNat = pc') (t : x.toInt ≠ y.toInt → WP l Z EL it n0 own h0 ws0 Q K h ws cells slots (mkF K.m pc' Ls st)) (f : x.toInt = y.toInt → WP l Z EL it n0 own h0 ws0 Q K h ws cells slots (mkF K.m (pc + 3) Ls st)) : WP l Z EL it n0 own h0 ws0 Q K h ws cells slots (mkF K.m pc Ls (.int y :: .int x :: st)) :=
  C.icmp pc' hd ho hp (fun q => t ((hNe x y).1.mp q)) (fun q => f ((hNe x y).2.mp q))
theorem Ok.ifc_ne (C : Ok l Z a0 EL it n0 own h0 ws0 Q code maxL ret nm rm K) {x : Int32} {o : Int} (pc' : Nat) (hd : decode code pc = .ok (.ifCond .ne o, 3)) (ho : 0 ≤ (pc : Int) + o) (hp : ((pc : Int) + o).toNat = pc') (t : x.toInt ≠ 0 → WP l Z EL it n0 own h0 ws0 Q K h ws cells slots (mkF K.m pc' Ls st)) (f : x.toInt = 0 → WP l Z EL it n0 own h0 ws0 Q K h ws cells slots (mkF K.m (pc + 3) Ls st)) : WP l Z EL it n0 own h0 ws0 Q K h ws cells slots (mkF K.m pc Ls (.int x :: st)) :=
  C.ifc pc' hd ho hp (fun q => t ((hNe x 0).1.mp q)) (fun q => f ((hNe x 0).2.mp q))
theorem Ok.icmp_lt (C : Ok l Z a0 EL it n0 own h0 ws0 Q code maxL ret nm rm K) {x y : Int32} {o : Int} (pc' : Nat) (hd : decode code pc = .ok (.if_icmp .lt o, 3)) (ho : 0 ≤ (pc : Int) + o) (hp : ((pc : Int) + o).toNat = pc') (t : x.toInt < y.toInt → WP l Z EL it n0 own h0 ws0 Q K h ws cells slots (mkF K.m pc' Ls st)) (f : y.toInt ≤ x.toInt → WP l Z EL it n0 own h0 ws0 Q K h ws cells slots (mkF K.m (pc + 3) Ls st)) : WP l Z EL it n0 own h0 ws0 Q K h ws cells slots (mkF K.m pc Ls (.int y :: .int x :: st)) :=
  C.icmp pc' hd ho hp (fun q => t ((hLt x y).1.mp q)) (fun q => f ((hLt x y).2.mp q))
theorem Ok.ifc_lt (C : Ok l Z a0 EL it n0 own h0 ws0 Q code maxL ret nm rm K) {x : Int32} {o : Int} (pc' : Nat) (hd : decode code pc = .ok (.ifCond .lt o, 3)) (ho : 0 ≤ (pc : Int) + o) (hp : ((pc : Int) + o).toNat = pc') (t : x.toInt < 0 → WP l Z EL it n0 own h0 ws0 Q K h ws cells slots (mkF K.m pc' Ls st)) (f : 0 ≤ x.toInt → WP l Z EL it n0 own h0 ws0 Q K h ws cells slots (mkF K.m (pc + 3) Ls st)) : WP l Z EL it n0 own h0 ws0 Q K h ws cells slots (mkF K.m pc Ls (.int x :: st)) :=
  C.ifc pc' hd ho hp (fun q => t ((hLt x 0).1.mp q)) (fun q => f ((hLt x 0).2.mp q))
theorem Ok.icmp_ge (C : Ok l Z a0 EL it n0 own h0 ws0 Q code maxL ret nm rm K) {x y : Int32} {o : Int} (pc' : Nat) (hd : decode code pc = .ok (.if_icmp .ge o, 3)) (ho : 0 ≤ (pc : Int) + o) (hp : ((pc : Int) + o).toNat = pc') (t : y.toInt ≤ x.toInt → WP l Z EL it n0 own h0 ws0 Q K h ws cells slots (mkF K.m pc' Ls st)) (f : x.toInt < y.toInt → WP l Z EL it n0 own h0 ws0 Q K h ws cells slots (mkF K.m (pc + 3) Ls st)) : WP l Z EL it n0 own h0 ws0 Q K h ws cells slots (mkF K.m pc Ls (.int y :: .int x :: st)) :=
  C.icmp pc' hd ho hp (fun q => t ((hGe x y).1.mp q)) (fun q => f ((hGe x y).2.mp q))
theorem Ok.ifc_ge (C : Ok l Z a0 EL it n0 own h0 ws0 Q code maxL ret nm rm K) {x : Int32} {o : Int} (pc' : Nat) (hd : decode code pc = .ok (.ifCond .ge o, 3)) (ho : 0 ≤ (pc : Int) + o) (hp : ((pc : Int) + o).toNat = pc') (t : 0 ≤ x.toInt → WP l Z EL it n0 own h0 ws0 Q K h ws cells slots (mkF K.m pc' Ls st)) (f : x.toInt < 0 → WP l Z EL it n0 own h0 ws0 Q K h ws cells slots (mkF K.m (pc + 3) Ls st)) : WP l Z EL it n0 own h0 ws0 Q K h ws cells slots (mkF K.m pc Ls (.int x :: st)) :=
  C.ifc pc' hd ho hp (fun q => t ((hGe x 0).1.mp q)) (fun q => f ((hGe x 0).2.mp q))
theorem Ok.icmp_gt (C : Ok l Z a0 EL it n0 own h0 ws0 Q code maxL ret nm rm K) {x y : Int32} {o : Int} (pc' : Nat) (hd : decode code pc = .ok (.if_icmp .gt o, 3)) (ho : 0 ≤ (pc : Int) + o) (hp : ((pc : Int) + o).toNat = pc') (t : y.toInt < x.toInt → WP l Z EL it n0 own h0 ws0 Q K h ws cells slots (mkF K.m pc' Ls st)) (f : x.toInt ≤ y.toInt → WP l Z EL it n0 own h0 ws0 Q K h ws cells slots (mkF K.m (pc + 3) Ls st)) : WP l Z EL it n0 own h0 ws0 Q K h ws cells slots (mkF K.m pc Ls (.int y :: .int x :: st)) :=
  C.icmp pc' hd ho hp (fun q => t ((hGt x y).1.mp q)) (fun q => f ((hGt x y).2.mp q))
theorem Ok.ifc_gt (C : Ok l Z a0 EL it n0 own h0 ws0 Q code maxL ret nm rm K) {x : Int32} {o : Int} (pc' : Nat) (hd : decode code pc = .ok (.ifCond .gt o, 3)) (ho : 0 ≤ (pc : Int) + o) (hp : ((pc : Int) + o).toNat = pc') (t : 0 < x.toInt → WP l Z EL it n0 own h0 ws0 Q K h ws cells slots (mkF K.m pc' Ls st)) (f : x.toInt ≤ 0 → WP l Z EL it n0 own h0 ws0 Q K h ws cells slots (mkF K.m (pc + 3) Ls st)) : WP l Z EL it n0 own h0 ws0 Q K h ws cells slots (mkF K.m pc Ls (.int x :: st)) :=
  C.ifc pc' hd ho hp (fun q => t ((hGt x 0).1.mp q)) (fun q => f ((hGt x 0).2.mp q))
theorem Ok.icmp_le (C : Ok l Z a0 EL it n0 own h0 ws0 Q code maxL ret nm rm K) {x y : Int32} {o : Int} (pc' : Nat) (hd : decode code pc = .ok (.if_icmp .le o, 3)) (ho : 0 ≤ (pc : Int) + o) (hp : ((pc : Int) + o).toNat = pc') (t : x.toInt ≤ y.toInt → WP l Z EL it n0 own h0 ws0 Q K h ws cells slots (mkF K.m pc' Ls st)) (f : y.toInt < x.toInt → WP l Z EL it n0 own h0 ws0 Q K h ws cells slots (mkF K.m (pc + 3) Ls st)) : WP l Z EL it n0 own h0 ws0 Q K h ws cells slots (mkF K.m pc Ls (.int y :: .int x :: st)) :=
  C.icmp pc' hd ho hp (fun q => t ((hLe x y).1.mp q)) (fun q => f ((hLe x y).2.mp q))
theorem Ok.ifc_le (C : Ok l Z a0 EL it n0 own h0 ws0 Q code maxL ret nm rm K) {x : Int32} {o : Int} (pc' : Nat) (hd : decode code pc = .ok (.ifCond .le o, 3)) (ho : 0 ≤ (pc : Int) + o) (hp : ((pc : Int) + o).toNat = pc') (t : x.toInt ≤ 0 → WP l Z EL it n0 own h0 ws0 Q K h ws cells slots (mkF K.m pc' Ls st)) (f : 0 < x.toInt → WP l Z EL it n0 own h0 ws0 Q K h ws cells slots (mkF K.m (pc + 3) Ls st)) : WP l Z EL it n0 own h0 ws0 Q K h ws cells slots (mkF K.m pc Ls (.int x :: st)) :=
  C.ifc pc' hd ho hp (fun q => t ((hLe x 0).1.mp q)) (fun q => f ((hLe x 0).2.mp q))
theorem Ok.ifnullY (C : Ok l Z a0 EL it n0 own h0 ws0 Q code maxL ret nm rm K) {o : Int} (pc' : Nat) (hd : decode code pc = .ok (.ifnull o, 3)) (ho : 0 ≤ (pc : Int) + o) (hp : ((pc : Int) + o).toNat = pc') (r : WP l Z EL it n0 own h0 ws0 Q K h ws cells slots (mkF K.m pc' Ls st)) : WP l Z EL it n0 own h0 ws0 Q K h ws cells slots (mkF K.m pc Ls (.null :: st)) :=
  WP.step (fun _ _ _ P _ k => XS.ifnullYes P.1.here C.exec rfl rfl (hb C.bytes hd) rfl ho hp k) r
theorem Ok.ifnullN (C : Ok l Z a0 EL it n0 own h0 ws0 Q code maxL ret nm rm K) {o : Int} {b : Nat} (hd : decode code pc = .ok (.ifnull o, 3)) (r : WP l Z EL it n0 own h0 ws0 Q K h ws cells slots (mkF K.m (pc + 3) Ls st)) : WP l Z EL it n0 own h0 ws0 Q K h ws cells slots (mkF K.m pc Ls (.ref b :: st)) :=
  WP.step (fun _ _ _ P _ k => XS.ifnullNo P.1.here C.exec rfl (hb C.bytes hd) rfl k) r
theorem Ok.ifnonnullY (C : Ok l Z a0 EL it n0 own h0 ws0 Q code maxL ret nm rm K) {o : Int} {b : Nat} (pc' : Nat) (hd : decode code pc = .ok (.ifnonnull o, 3)) (ho : 0 ≤ (pc : Int) + o) (hp : ((pc : Int) + o).toNat = pc') (r : WP l Z EL it n0 own h0 ws0 Q K h ws cells slots (mkF K.m pc' Ls st)) : WP l Z EL it n0 own h0 ws0 Q K h ws cells slots (mkF K.m pc Ls (.ref b :: st)) :=
  WP.step (fun _ _ _ P _ k => XS.ifnonnullYes P.1.here C.exec rfl rfl (hb C.bytes hd) rfl ho hp k) r
theorem Ok.ifnonnullN (C : Ok l Z a0 EL it n0 own h0 ws0 Q code maxL ret nm rm K) {o : Int} (hd : decode code pc = .ok (.ifnonnull o, 3)) (r : WP l Z EL it n0 own h0 ws0 Q K h ws cells slots (mkF K.m (pc + 3) Ls st)) : WP l Z EL it n0 own h0 ws0 Q K h ws cells slots (mkF K.m pc Ls (.null :: st)) :=
  WP.step (fun _ _ _ P _ k => XS.ifnonnullNo P.1.here C.exec rfl (hb C.bytes hd) rfl k) r
theorem Ok.acmp (C : Ok l Z a0 EL it n0 own h0 ws0 Q code maxL ret nm rm K) {cd : ACond} {x y : Value} {o : Int} (pc' : Nat) (same : Bool) (hd : decode code pc = .ok (.if_acmp cd o, 3)) (h1 : x.isRef = true) (h2 : y.isRef = true) (hq : decide (x = y) = same) (ho : 0 ≤ (pc : Int) + o) (hp : pc' = if acV cd same = true then ((pc : Int) + o).toNat else pc + 3) (r : WP l Z EL it n0 own h0 ws0 Q K h ws cells slots (mkF K.m pc' Ls st)) : WP l Z EL it n0 own h0 ws0 Q K h ws cells slots (mkF K.m pc Ls (y :: x :: st)) :=
  WP.step (fun _ _ _ P _ k => RoadKit.acmp P.1 C.exec (g := mkF K.m pc Ls (y :: x :: st)) rfl h1 h2 rfl (hb C.bytes hd) rfl hq ho hp k) r
theorem Ok.tswIn (C : Ok l Z a0 EL it n0 own h0 ws0 Q code maxL ret nm rm K) {dflt low high : Int} {offs : Array Int} {len : Nat} {o : Int} {i : Int32} (pc' : Nat) (hd : decode code pc = .ok (.tableswitch dflt low high offs, len)) (hin : ¬ (i.toInt < low ∨ i.toInt > high)) (hoff : offs[(i.toInt - low).toNat]? = some o) (ho : 0 ≤ (pc : Int) + o) (hp : ((pc : Int) + o).toNat = pc') (r : WP l Z EL it n0 own h0 ws0 Q K h ws cells slots (mkF K.m pc' Ls st)) : WP l Z EL it n0 own h0 ws0 Q K h ws cells slots (mkF K.m pc Ls (.int i :: st)) :=
  WP.step (fun _ _ _ P _ k => XS.tswIn P.1.here C.exec rfl rfl (hb C.bytes hd) rfl hin hoff ho hp k) r
theorem Ok.tswOut (C : Ok l Z a0 EL it n0 own h0 ws0 Q code maxL ret nm rm K) {dflt low high : Int} {offs : Array Int} {len : Nat} {i : Int32} (pc' : Nat) (hd : decode code pc = .ok (.tableswitch dflt low high offs, len)) (hout : i.toInt < low ∨ i.toInt > high) (ho : 0 ≤ (pc : Int) + dflt) (hp : ((pc : Int) + dflt).toNat = pc') (r : WP l Z EL it n0 own h0 ws0 Q K h ws cells slots (mkF K.m pc' Ls st)) : WP l Z EL it n0 own h0 ws0 Q K h ws cells slots (mkF K.m pc Ls (.int i :: st)) :=
  WP.step (fun _ _ _ P _ k => XS.tswOut P.1.here C.exec rfl rfl (hb C.bytes hd) rfl hout ho hp k) r
/-! the heap -/
theorem Ok.getF (C : Ok l Z a0 EL it n0 own h0 ws0 Q code maxL ret nm rm K) {R0 O n d host : String} {index : Nat} {a : Nat} {v : Value} (w : (Jvm.Cond.fieldLink own index R0 n d).before a0 Z = true ∨ (Jvm.Cond.fieldLinkNest own index R0 n d host).before a0 Z = true) (via : Via Z R0 O n d) (F : Fld Z h a O n d v) (hd : decode code pc = .ok (.getfield index, 3))
    (r : WP l Z EL it n0 own h0 ws0 Q K h ws cells slots (mkF K.m (pc + 3) Ls (v :: st))) : WP l Z EL it n0 own h0 ws0 Q K h ws cells slots (mkF K.m pc Ls (.ref a :: st)) := by
  intro vm T locs P
  obtain ⟨T', X', e', s'⟩ := RoadKit.getF P.1 C.exec P.2.2.2.1 P.2.2.2.2.1 w via P.2.1 F (g := mkF K.m pc Ls (.ref a :: st)) rfl rfl (hb C.bytes hd)
  exact Goes.of s' (r vm T' locs ⟨X', e', P.2.2⟩)
theorem Ok.getS (C : Ok l Z a0 EL it n0 own h0 ws0 Q code maxL ret nm rm K) {R0 O n d : String} {index : Nat} {v : Value} (w : (Jvm.Cond.fieldLink own index R0 n d).before a0 Z = true) (via : Via Z R0 O n d) (F : Sta Z Z.heap O n d v) (hd : decode code pc = .ok (.getstatic index, 3))
    (r : WP l Z EL it n0 own h0 ws0 Q K h ws cells slots (mkF K.m (pc + 3) Ls (v :: st))) : WP l Z EL it n0 own h0 ws0 Q K h ws cells slots (mkF K.m pc Ls st) := by
  intro vm T locs P
  obtain ⟨T', X', e', s'⟩ := RoadKit.getS (host := "") P.1 C.exec P.2.2.2.1 P.2.2.2.2.1 w via P.2.1 (F.ext P.2.2.2.2.2.2.2.2.1.2) (g := mkF K.m pc Ls st) rfl (hb C.bytes hd)
  exact Goes.of s' (r vm T' locs ⟨X', e', P.2.2⟩)
theorem Ok.castY (C : Ok l Z a0 EL it n0 own h0 ws0 Q code maxL ret nm rm K) {J : String} {index : Nat} {a : Nat} (w : (Jvm.Cond.classLink own index J).before a0 Z = true) (F : Ins Z h a J true) (hd : decode code pc = .ok (.checkcast index, 3))
    (r : WP l Z EL it n0 own h0 ws0 Q K h ws cells slots (mkF K.m (pc + 3) Ls (.ref a :: st))) : WP l Z EL it n0 own h0 ws0 Q K h ws cells slots (mkF K.m pc Ls (.ref a :: st)) := by
  intro vm T locs P
  obtain ⟨T', X', e', s'⟩ := RoadKit.castY P.1 C.exec P.2.2.2.1 P.2.2.2.2.1 w P.2.1 F (g := mkF K.m pc Ls (.ref a :: st)) rfl rfl (hb C.bytes hd)
  exact Goes.of s' (r vm T' locs ⟨X', e', P.2.2⟩)
theorem Ok.instY (C : Ok l Z a0 EL it n0 own h0 ws0 Q code maxL ret nm rm K) {J : String} {index : Nat} {a : Nat} (w : (Jvm.Cond.classLink own index J).before a0 Z = true) (F : Ins Z h a J true) (hd : decode code pc = .ok (.instanceof index, 3))
    (r : WP l Z EL it n0 own h0 ws0 Q K h ws cells slots (mkF K.m (pc + 3) Ls (.int 1 :: st))) : WP l Z EL it n0 own h0 ws0 Q K h ws cells slots (mkF K.m pc Ls (.ref a :: st)) := by
  intro vm T locs P
  obtain ⟨T', X', e', s'⟩ := RoadKit.instY P.1 C.exec P.2.2.2.1 P.2.2.2.2.1 w P.2.1 F (g := mkF K.m pc Ls (.ref a :: st)) rfl rfl (hb C.bytes hd)
  exact Goes.of s' (r vm T' locs ⟨X', e', P.2.2⟩)
theorem keep_ext {h h' : Heap} (E : Ext h h') : Keep h h' [] := (Keep.refl h []).ext E
theorem Ok.new (C : Ok l Z a0 EL it n0 own h0 ws0 Q code maxL ret nm rm K) {J : String} {index n : Nat} (w : (Jvm.Cond.classLink own index J).before a0 Z = true) (wi : (Jvm.Cond.instantiable J n).before a0 Z = true) (wz : (Jvm.Cond.initialized J).before a0 Z = true) (hd : decode code pc = .ok (.new index, 3)) (hc : cells + 1 ≤ rm.cells) (hl : slots + n ≤ rm.slots)
    (r : ∀ (h' : Heap) (a : Nat), @Eq Nat a h.size → h.size < h'.size → n0 ≤ a → Keep h h' [] → Exa Z h' a J → (∀ {O nm d : String} {ty : FieldType}, RoadKit.Laid Z a0 J O nm d → parseFieldDescriptor d = some ty → Fld Z h' a O nm d (defaultValue ty)) → RoadKit.Unt h' a → WP l Z EL it n0 own h0 ws0 Q K h' (a :: ws) (cells + 1) (slots + n) (mkF K.m (pc + 3) Ls (.ref a :: st))) :
    WP l Z EL it n0 own h0 ws0 Q K h ws cells slots (mkF K.m pc Ls st) := by
  intro vm T locs P
  obtain ⟨T', h', X', e', E, A, D, U, s'⟩ := newO P.1 C.exec P.2.2.2.1 P.2.2.2.2.1 w wi wz P.2.1 (g := mkF K.m pc Ls st) rfl (hb C.bytes hd) (by rw [C.room]; exact hc) (by rw [C.room]; exact hl)
  exact Goes.of s' (r h' h.size rfl A.lt (P.2.2.2.2.2.2.2.2.1.1 ▸ P.2.2.2.2.2.2.2.2.1.2.1) (keep_ext E) A D U vm T' locs (P.new X' e' E A.lt))
theorem Ok.putF (C : Ok l Z a0 EL it n0 own h0 ws0 Q code maxL ret nm rm K) {R0 O n d host J : String} {index kk : Nat} {ty : FieldType} {a : Nat} {v old : Value} (w : (Jvm.Cond.fieldLink own index R0 n d).before a0 Z = true ∨ (Jvm.Cond.fieldLinkNest own index R0 n d host).before a0 Z = true) (via : Via Z R0 O n d) (F : Fld Z h a O n d old) (E : Exa Z h a J)
    (L : (Jvm.Cond.lays J O n d).before a0 Z = true ∨ ((Jvm.Cond.laysFinal J O n d).before a0 Z = true ∧ own = O ∧ nm = "<init>")) (wi : (Jvm.Cond.instantiable J kk).before a0 Z = true) (hty : parseFieldDescriptor d = some ty) (hn : narrow ty v = v) (hf : fits ty v = true) (hd : decode code pc = .ok (.putfield index, 3)) (ha : a ∈ ws)
    (r : ∀ h' : Heap, h'.size = h.size → Keep h h' [a] → Exa Z h' a J → Fld Z h' a O n d v → (∀ {O' n' d' : String} {u : Value}, RoadKit.slotOf Z O' n' d' ≠ RoadKit.slotOf Z O n d → Fld Z h a O' n' d' u → Fld Z h' a O' n' d' u) → WP l Z EL it n0 own h0 ws0 Q K h' ws cells slots (mkF K.m (pc + 3) Ls st)) :
    WP l Z EL it n0 own h0 ws0 Q K h ws cells slots (mkF K.m pc Ls (v :: .ref a :: st)) := by
  intro vm T locs P
  obtain ⟨T', h', X', e', W, s'⟩ := RoadKit.putF P.1 C.exec P.2.2.2.1 P.2.2.2.2.1 w via P.2.1 F E (L.imp id fun q => ⟨q.1, q.2.1, C.named.trans q.2.2⟩) wi hty hn hf (g := mkF K.m pc Ls (v :: .ref a :: st)) rfl rfl (hb C.bytes hd)
  exact Goes.of s' (r h' W.size (Keep.of_wr W) (E.wr W) (F.same W) (fun q G => G.other W (Or.inr q)) vm T' _ (P.wr ha X' e' W))
/-- an array and all that it holds -/
def Ary (Z : State) (h : Heap) (a : Nat) (ty : FieldType) (vs : List Value) : Prop := ∃ c : Cell, RoadKit.Arr Z h a c ty ∧ c.slots.toList = vs ∧ vs.length < 2 ^ 31 ∧ ∀ v ∈ vs, fits ty v = true
theorem Ary.lt {a : Nat} {ty : FieldType} {vs : List Value} (A : Ary Z h a ty vs) : a < h.size := by obtain ⟨c, A, -⟩ := A; exact A.lt
theorem Ary.keep {h' : Heap} {a : Nat} {ty : FieldType} {vs : List Value} {us : List Addr} (A : Ary Z h a ty vs) (Kp : Keep h h' us) (q : a ∉ us) : Ary Z h' a ty vs := by
  obtain ⟨c, A, r⟩ := A; exact ⟨c, ⟨Kp.2.1 a c A.1 q, A.2⟩, r⟩
theorem Ary.len {a : Nat} {ty : FieldType} {vs : List Value} (A : Ary Z h a ty vs) : vs.length < 2 ^ 31 := by obtain ⟨c, -, -, r, -⟩ := A; exact r
theorem Ary.arv {a : Nat} {ty : FieldType} {vs : List Value} {n : Int32} {d : Value} (A : Ary Z h a ty vs) (hn : n.toInt = vs.length) : ∃ k, Arv Z h a k ty n vs d := by
  obtain ⟨c, A, r, q, f⟩ := A
  subst r
  have hz : c.slots.size = n.toNatClampNeg := by
    rw [← Int32.toNat_toInt, hn]; simp
  refine ⟨c.cls, c, A, rfl, hz, fun w => ?_, fun k hk => ?_, fun i hi => ?_⟩
  · rw [Int32.lt_iff_toInt_lt, hn] at w
    have : (0 : Int32).toInt = 0 := rfl
    omega
  · simp [hk]
  · have : c.slots.toList.getD i d = c.slots[i] := by simp [hi]
    rw [this]
    exact f _ (by simp)
theorem Ary.of_arv {a : Nat} {ty : FieldType} {vs : List Value} {n : Int32} {d : Value} {k : ClassId} (A : Arv Z h a k ty n vs d) (hn : n.toNatClampNeg = vs.length) : Ary Z h a ty vs := by
  obtain ⟨c, A, -, r2, r3, H, G⟩ := A
  have e : c.slots.toList = vs := by
    apply List.ext_getElem?
    intro i
    by_cases hi : i < c.slots.size
    · have q := H i hi
      rw [Array.getElem?_toList, q]
      have hi' : i < vs.length := by omega
      simp [hi']
    · rw [List.getElem?_eq_none (by simpa using hi), List.getElem?_eq_none (by omega)]
  refine ⟨c, A, e, ?_, fun v hv => ?_⟩
  · rw [← hn, ← Int32.toNat_toInt]
    have := n.toInt_lt
    omega
  · obtain ⟨i, hi, rfl⟩ := List.getElem_of_mem hv
    have := G i (by omega)
    simpa [hi] using this
theorem Ok.newarr (C : Ok l Z a0 EL it n0 own h0 ws0 Q code maxL ret nm rm K) {aty : ArrayType} {n : Int32} (k cap : Nat) (w : (Jvm.Cond.arrayClass (newarray.typeOf aty)).before a0 Z = true) (hd : decode code pc = .ok (.newarray aty, 2)) (hn : n.toInt = k) (hk' : k ≤ cap) (hb' : cap * 8 ≤ 536870912) (hc : cells + 1 ≤ rm.cells) (hl : slots + cap ≤ rm.slots)
    (r : ∀ (h' : Heap) (a : Nat), @Eq Nat a h.size → h.size < h'.size → n0 ≤ a → Keep h h' [] → Ary Z h' a (newarray.typeOf aty) (List.replicate k (defaultValue (newarray.typeOf aty))) → WP l Z EL it n0 own h0 ws0 Q K h' (a :: ws) (cells + 1) (slots + cap) (mkF K.m (pc + 2) Ls (.ref a :: st))) :
    WP l Z EL it n0 own h0 ws0 Q K h ws cells slots (mkF K.m pc Ls (.int n :: st)) := by
  intro vm T locs P
  have hk : n.toNatClampNeg = k := by rw [← Int32.toNat_toInt, hn]; simp
  obtain ⟨T', h', cA, X', e', E, A, s'⟩ := newP P.1 C.exec P.2.2.2.1 w P.2.1 (g := mkF K.m pc Ls (.int n :: st)) rfl (hb C.bytes hd) rfl (fun q => by rw [Int32.lt_iff_toInt_lt, hn] at q; have : (0 : Int32).toInt = 0 := rfl; omega) (cap := cap) (hk ▸ hk') hb' (by rw [C.room]; exact hc) (by rw [C.room]; exact hl)
  refine Goes.of s' (r h' h.size rfl A.lt (P.2.2.2.2.2.2.2.2.1.1 ▸ P.2.2.2.2.2.2.2.2.1.2.1) (keep_ext E) ⟨_, A, by simp [newA, hk], ?_, fun v hv => ?_⟩ vm T' locs (P.new X' e' E A.lt))
  · simp; omega
  · obtain ⟨-, rfl⟩ := List.mem_replicate.mp hv
    cases aty <;> rfl
theorem Ok.alen (C : Ok l Z a0 EL it n0 own h0 ws0 Q code maxL ret nm rm K) {a : Nat} {ty : FieldType} {vs : List Value} {n : Int32} (A : Ary Z h a ty vs) (hn : n.toInt = vs.length) (hd : decode code pc = .ok (.arraylength, 1)) (r : WP l Z EL it n0 own h0 ws0 Q K h ws cells slots (mkF K.m (pc + 1) Ls (.int n :: st))) : WP l Z EL it n0 own h0 ws0 Q K h ws cells slots (mkF K.m pc Ls (.ref a :: st)) := by
  intro vm T locs P
  obtain ⟨c, A, q, hl, -⟩ := A
  refine Goes.of (fun t k => P.1.arraylength C.exec (by rw [P.2.1]; exact A.1) (State.isArrayOf_alike P.2.2.2.1.alike A.2.1) (g := mkF K.m pc Ls (.ref a :: st)) rfl rfl (hb C.bytes hd) t ?_) (r vm T locs P)
  have e : c.slots.size.toInt32 = n := by
    apply Int32.toInt_inj.mp
    rw [hn, ← q]
    have : c.slots.size < 2 ^ 31 := by rw [← q] at hl; simpa using hl
    simpa using RoadKit.len_toInt this
  rw [e]; exact k
theorem idx_ok {j : Int32} {i n : Nat} (hj : j.toInt = i) (hi : i < n) : ¬ (j < 0 ∨ n ≤ j.toNatClampNeg) ∧ j.toNatClampNeg = i := by
  have e : j.toNatClampNeg = i := by rw [← Int32.toNat_toInt, hj]; simp
  refine ⟨fun q => ?_, e⟩
  rw [e, Int32.lt_iff_toInt_lt, hj] at q
  have : (0 : Int32).toInt = 0 := rfl
  omega
theorem Ok.caload (C : Ok l Z a0 EL it n0 own h0 ws0 Q code maxL ret nm rm K) {a : Addr} {vs : List Value} {j : Int32} {x : Int32} (i : Nat) (A : Ary Z h a .char vs) (hj : j.toInt = i) (hx : vs[i]? = some (.int x)) (hd : decode code pc = .ok (.caload, 1)) (r : WP l Z EL it n0 own h0 ws0 Q K h ws cells slots (mkF K.m (pc + 1) Ls (.int x :: st))) : WP l Z EL it n0 own h0 ws0 Q K h ws cells slots (mkF K.m pc Ls (.int j :: .ref a :: st)) := by
  intro vm T locs P
  obtain ⟨c, A, q, hl, f⟩ := A
  have hs : c.slots.size = vs.length := by rw [← q]; simp
  have hi : i < vs.length := (List.getElem?_eq_some_iff.mp hx).1
  obtain ⟨hin, hji⟩ := idx_ok hj (hs ▸ hi)
  exact Goes.of (fun t k => P.1.caload C.exec (by rw [P.2.1]; exact A.1) (State.isArrayOf_alike P.2.2.2.1.alike A.2.1) A.2.2 hin (v := .int x) (by rw [hji, ← Array.getElem?_toList, q]; exact hx) (g := mkF K.m pc Ls (.int j :: .ref a :: st)) rfl rfl (hb C.bytes hd) t k) (r vm T locs P)
theorem Ok.baload (C : Ok l Z a0 EL it n0 own h0 ws0 Q code maxL ret nm rm K) {a : Addr} {vs : List Value} {j : Int32} {x : Int32} (i : Nat) (A : Ary Z h a .byte vs) (hj : j.toInt = i) (hx : vs[i]? = some (.int x)) (hd : decode code pc = .ok (.baload, 1)) (r : WP l Z EL it n0 own h0 ws0 Q K h ws cells slots (mkF K.m (pc + 1) Ls (.int x :: st))) : WP l Z EL it n0 own h0 ws0 Q K h ws cells slots (mkF K.m pc Ls (.int j :: .ref a :: st)) := by
  intro vm T locs P
  obtain ⟨c, A, q, hl, f⟩ := A
  have hs : c.slots.size = vs.length := by rw [← q]; simp
  have hi : i < vs.length := (List.getElem?_eq_some_iff.mp hx).1
  obtain ⟨hin, hji⟩ := idx_ok hj (hs ▸ hi)
  exact Goes.of (fun t k => P.1.baloadBytes C.exec (by rw [P.2.1]; exact A.1) (State.isArrayOf_alike P.2.2.2.1.alike A.2.1) A.2.2 hin (v := .int x) (by rw [hji, ← Array.getElem?_toList, q]; exact hx) (g := mkF K.m pc Ls (.int j :: .ref a :: st)) rfl rfl (hb C.bytes hd) t k) (r vm T locs P)
theorem Ok.laload (C : Ok l Z a0 EL it n0 own h0 ws0 Q code maxL ret nm rm K) {a : Addr} {vs : List Value} {j : Int32} {x : Int64} (i : Nat) (A : Ary Z h a .long vs) (hj : j.toInt = i) (hx : vs[i]? = some (.long x)) (hd : decode code pc = .ok (.laload, 1)) (r : WP l Z EL it n0 own h0 ws0 Q K h ws cells slots (mkF K.m (pc + 1) Ls (.long x :: st))) : WP l Z EL it n0 own h0 ws0 Q K h ws cells slots (mkF K.m pc Ls (.int j :: .ref a :: st)) := by
  intro vm T locs P
  obtain ⟨c, A, q, hl, f⟩ := A
  have hs : c.slots.size = vs.length := by rw [← q]; simp
  have hi : i < vs.length := (List.getElem?_eq_some_iff.mp hx).1
  obtain ⟨hin, hji⟩ := idx_ok hj (hs ▸ hi)
  exact Goes.of (fun t k => P.1.laload C.exec (by rw [P.2.1]; exact A.1) (State.isArrayOf_alike P.2.2.2.1.alike A.2.1) A.2.2 hin (v := .long x) (by rw [hji, ← Array.getElem?_toList, q]; exact hx) (g := mkF K.m pc Ls (.int j :: .ref a :: st)) rfl rfl (hb C.bytes hd) t k) (r vm T locs P)
theorem Ary.set {a : Nat} {ty : FieldType} {vs : List Value} {c : Cell} {h' : Heap} {i : Nat} {v : Value} (A : RoadKit.Arr Z h a c ty) (q : c.slots.toList = vs) (hl : vs.length < 2 ^ 31) (f : ∀ v ∈ vs, fits ty v = true) (hv : fits ty v = true) (W : Wr h h' a i v) : Ary Z h' a ty (vs.set i v) := by
  refine ⟨_, A.same W, ?_, by simpa using hl, fun u hu => ?_⟩
  · simp [Cell.setSlot, q]
  · rcases List.mem_or_eq_of_mem_set hu with hu | rfl
    · exact f u hu
    · exact hv
theorem nar_char {x : Int32} (h0 : 0 ≤ x.toInt) (h1 : x.toInt < 65536) : nar .char x = x := by
  apply Int32.toInt_inj.mp
  have q := c_i2c x
  show x.toUInt32.toUInt16.toUInt32.toInt32.toInt = _
  omega
theorem i2c_id {x : Int32} (h0 : 0 ≤ x.toInt) (h1 : x.toInt < 65536) : x.toUInt32.toUInt16.toUInt32.toInt32 = x := nar_char h0 h1
theorem Ok.castore (C : Ok l Z a0 EL it n0 own h0 ws0 Q code maxL ret nm rm K) {a : Nat} {vs : List Value} {j x : Int32} (i : Nat) (A : Ary Z h a .char vs) (hj : j.toInt = i) (hi : i < vs.length) (x0 : 0 ≤ x.toInt) (x1 : x.toInt < 65536) (hd : decode code pc = .ok (.castore, 1)) (ha : a ∈ ws)
    (r : ∀ h' : Heap, h'.size = h.size → Keep h h' [a] → Ary Z h' a .char (vs.set i (.int x)) → WP l Z EL it n0 own h0 ws0 Q K h' ws cells slots (mkF K.m (pc + 1) Ls st)) : WP l Z EL it n0 own h0 ws0 Q K h ws cells slots (mkF K.m pc Ls (.int x :: .int j :: .ref a :: st)) := by
  intro vm T locs P
  obtain ⟨c, A, q, hl, f⟩ := A
  have hs : c.slots.size = vs.length := by rw [← q]; simp
  obtain ⟨hin, hji⟩ := idx_ok hj (hs ▸ hi)
  obtain ⟨T', h', X', e', W, s'⟩ := stC P.1 C.exec P.2.2.2.1 P.2.1 A hin (g := mkF K.m pc Ls (.int x :: .int j :: .ref a :: st)) rfl rfl (hb C.bytes hd)
  have W' := W
  rw [hji, nar_char x0 x1] at W
  exact Goes.of s' (r h' W'.size (Keep.of_wr W') (Ary.set A q hl f (by have := fits_nar_char x; rwa [nar_char x0 x1] at this) W) vm T' _ (P.wr ha X' e' W'))
theorem Ok.bastore (C : Ok l Z a0 EL it n0 own h0 ws0 Q code maxL ret nm rm K) {a : Nat} {vs : List Value} {j x : Int32} (i : Nat) (A : Ary Z h a .byte vs) (hj : j.toInt = i) (hi : i < vs.length) (hd : decode code pc = .ok (.bastore, 1)) (ha : a ∈ ws)
    (r : ∀ h' : Heap, h'.size = h.size → Keep h h' [a] → Ary Z h' a .byte (vs.set i (.int x.toInt8.toInt32)) → WP l Z EL it n0 own h0 ws0 Q K h' ws cells slots (mkF K.m (pc + 1) Ls st)) : WP l Z EL it n0 own h0 ws0 Q K h ws cells slots (mkF K.m pc Ls (.int x :: .int j :: .ref a :: st)) := by
  intro vm T locs P
  obtain ⟨c, A, q, hl, f⟩ := A
  have hs : c.slots.size = vs.length := by rw [← q]; simp
  obtain ⟨hin, hji⟩ := idx_ok hj (hs ▸ hi)
  obtain ⟨T', h', X', e', W, s'⟩ := stB P.1 C.exec P.2.2.2.1 P.2.1 A hin (g := mkF K.m pc Ls (.int x :: .int j :: .ref a :: st)) rfl rfl (hb C.bytes hd)
  have W' := W
  rw [hji] at W
  exact Goes.of s' (r h' W'.size (Keep.of_wr W') (Ary.set A q hl f (fits_nar_byte x) W) vm T' _ (P.wr ha X' e' W'))
theorem Ok.lastore (C : Ok l Z a0 EL it n0 own h0 ws0 Q code maxL ret nm rm K) {a : Nat} {vs : List Value} {j : Int32} {x : Int64} (i : Nat) (A : Ary Z h a .long vs) (hj : j.toInt = i) (hi : i < vs.length) (hd : decode code pc = .ok (.lastore, 1)) (ha : a ∈ ws)
    (r : ∀ h' : Heap, h'.size = h.size → Keep h h' [a] → Ary Z h' a .long (vs.set i (.long x)) → WP l Z EL it n0 own h0 ws0 Q K h' ws cells slots (mkF K.m (pc + 1) Ls st)) : WP l Z EL it n0 own h0 ws0 Q K h ws cells slots (mkF K.m pc Ls (.long x :: .int j :: .ref a :: st)) := by
  intro vm T locs P
  obtain ⟨c, A, q, hl, f⟩ := A
  have hs : c.slots.size = vs.length := by rw [← q]; simp
  obtain ⟨hin, hji⟩ := idx_ok hj (hs ▸ hi)
  obtain ⟨T', h', X', e', W, s'⟩ := stJ P.1 C.exec P.2.2.2.1 P.2.1 A hin (g := mkF K.m pc Ls (.long x :: .int j :: .ref a :: st)) rfl rfl (hb C.bytes hd)
  have W' := W
  rw [hji] at W
  exact Goes.of s' (r h' W'.size (Keep.of_wr W') (Ary.set A q hl f rfl W) vm T' _ (P.wr ha X' e' W'))
/-! ends -/
theorem endMore {s t : State} {o : Outcome} {L : List Loc} {k n k' n' : Nat} (R : ReturnedEndW s o t L k n) (hk : k ≤ k') (hn : n ≤ n') : ReturnedEndW s o t L k' n' := ⟨R.1, R.2.1, R.2.2.1, R.2.2.2.mono hk hn⟩
theorem Ok.leave (C : Ok l Z a0 EL it n0 own h0 ws0 Q code maxL ret nm rm K) {v : Option Value} (hv : ret = none → v = none) (hq : Q v h) (hc : cells ≤ rm.cells) (hl : slots ≤ rm.slots)
    (go : ∀ (T : State) (vm : Vm) (locs : List Loc) (fs : List Frame), Stand K.p l K.e K.R (K.s.setVm vm) K.m K.args K.below K.meth K.c T locs cells slots → (∀ (f : JFrame) (acts : List Action), f.method = K.m → f.locked = none → f.entered = [] → (doReturn K.e (T.setTop f) acts v).1 = T.setFrames fs) → Steps K.p.tables K.e K.below (T.setTop g) (T.setFrames fs)) :
    WP l Z EL it n0 own h0 ws0 Q K h ws cells slots g := by
  intro vm T locs P
  obtain ⟨X, eT, ⟨k, hS, hk⟩, hZ, hown, H, N, Kp, O, Ow⟩ := P
  obtain ⟨fs, hr, h1, h2, hR⟩ := X.leaveW hS (by rw [eT]; exact hk) (v := v) (fun q => hv (C.rets.symm.trans q)) C.unlocked
  have eh : (T.setFrames fs).heap = h := eT
  refine ⟨_, _, go T vm locs fs X hr, h1, h2, v, locs, rfl, ⟨by rw [eh]; exact hq, by rw [eh]; exact Kp, N⟩, ?_, endMore hR (by rw [C.room]; exact hc) (by rw [C.room]; exact hl)⟩
  rw [eh]
  show CHx it Z EL K.s.vm h0 T.vm h
  exact H.trans (CHx.still (CHv.at X hZ C.ew H.1) (Wm.of (s0 := K.s.setVm vm) X.warmed))
theorem Ok.return_ (C : Ok l Z a0 EL it n0 own h0 ws0 Q code maxL ret nm rm K) (hr : ret = none) (hd : decode code pc = .ok (.return_, 1)) (hc : cells ≤ rm.cells) (hl : slots ≤ rm.slots) (hq : Q none h) : WP l Z EL it n0 own h0 ws0 Q K h ws cells slots (mkF K.m pc Ls []) :=
  C.leave (v := none) (fun _ => rfl) hq hc hl fun T vm locs fs X hl => X.returnOut C.exec (C.rets.trans hr) (hb C.bytes hd) hl
theorem Ok.ireturn (C : Ok l Z a0 EL it n0 own h0 ws0 Q code maxL ret nm rm K) {t : FieldType} {z : Int32} (hr : ret = some t) (ht : t = .int ∨ t = .boolean ∨ t = .byte ∨ t = .char ∨ t = .short) (hn : narrow t (.int z) = .int z) (hd : decode code pc = .ok (.ireturn, 1)) (hc : cells ≤ rm.cells) (hl : slots ≤ rm.slots) (hq : Q (some (.int z)) h) : WP l Z EL it n0 own h0 ws0 Q K h ws cells slots (mkF K.m pc Ls (.int z :: st)) :=
  C.leave (v := some (.int z)) (fun q => by rw [hr] at q; cases q) hq hc hl fun T vm locs fs X hl => retOut X C.exec (C.rets.trans hr) hn (Or.inl ⟨rfl, ht, z, rfl⟩) (hb C.bytes hd) hl
theorem Ok.areturn (C : Ok l Z a0 EL it n0 own h0 ws0 Q code maxL ret nm rm K) {t : FieldType} {v : Value} (hr : ret = some t) (ht : t.isReference = true) (hv : v.isRef = true) (hd : decode code pc = .ok (.areturn, 1)) (hc : cells ≤ rm.cells) (hl : slots ≤ rm.slots) (hq : Q (some v) h) : WP l Z EL it n0 own h0 ws0 Q K h ws cells slots (mkF K.m pc Ls (v :: st)) :=
  C.leave (v := some v) (fun q => by rw [hr] at q; cases q) hq hc hl fun T vm locs fs X hl => retOut X C.exec (C.rets.trans hr) (by rcases ref_cases hv with rfl | ⟨a, rfl⟩ <;> cases t <;> first | rfl | cases ht) (Or.inr (Or.inr (Or.inr (Or.inr ⟨rfl, ht, hv⟩)))) (hb C.bytes hd) hl
theorem Ok.lreturn (C : Ok l Z a0 EL it n0 own h0 ws0 Q code maxL ret nm rm K) {z : Int64} (hr : ret = some .long) (hd : decode code pc = .ok (.lreturn, 1)) (hc : cells ≤ rm.cells) (hl : slots ≤ rm.slots) (hq : Q (some (.long z)) h) : WP l Z EL it n0 own h0 ws0 Q K h ws cells slots (mkF K.m pc Ls (.long z :: st)) :=
  C.leave (v := some (.long z)) (fun q => by rw [hr] at q; cases q) hq hc hl fun T vm locs fs X hl => retOut X C.exec (C.rets.trans hr) rfl (Or.inr (Or.inl ⟨rfl, rfl, z, rfl⟩)) (hb C.bytes hd) hl
end Rules
end Own
end Jvm.Pilot.@@N@@
namespace Jvm.Pilot.@@N@@
namespace Own
open Jvm Jvm.ClassFile Sem Op Lib Jvm.Free Jvm.Stand Jvm.LawKit Jvm.RoadKit Bundle
section Calls
variable {l : Launch} {Z : State} {a0 : Array Value} {EL : List (String × Nat)} {it : Prop} {n0 : Nat} {own : String} {h0 : Heap} {ws0 : List Addr} {Q : Option Value → Heap → Prop} {code : ByteArray} {maxL : Nat} {ret : Option FieldType} {nm : String} {rm : Room} {K : Ctx} {h : Heap} {ws : List Addr} {cells slots pc : Nat} {Ls : Array Slot} {st stk : List Value} {g g' : JFrame}
theorem Ok.topI (C : Ok l Z a0 EL it n0 own h0 ws0 Q code maxL ret nm rm K) {x y : Int32} (e : x = y) (r : WP l Z EL it n0 own h0 ws0 Q K h ws cells slots (mkF K.m pc Ls (.int y :: st))) : WP l Z EL it n0 own h0 ws0 Q K h ws cells slots (mkF K.m pc Ls (.int x :: st)) := by subst e; exact r
theorem Ok.topJ (C : Ok l Z a0 EL it n0 own h0 ws0 Q code maxL ret nm rm K) {x y : Int64} (e : x = y) (r : WP l Z EL it n0 own h0 ws0 Q K h ws cells slots (mkF K.m pc Ls (.long y :: st))) : WP l Z EL it n0 own h0 ws0 Q K h ws cells slots (mkF K.m pc Ls (.long x :: st)) := by subst e; exact r
theorem Ok.more (C : Ok l Z a0 EL it n0 own h0 ws0 Q code maxL ret nm rm K) {cells' slots' : Nat} (h1 : cells ≤ cells') (h2 : slots ≤ slots') (r : WP l Z EL it n0 own h0 ws0 Q K h ws cells' slots' g) : WP l Z EL it n0 own h0 ws0 Q K h ws cells slots g :=
  fun vm T locs P => r vm T locs ⟨P.1.more h1 h2, P.2⟩
theorem Ok.sub (C : Ok l Z a0 EL it n0 own h0 ws0 Q code maxL ret nm rm K) {ws' : List Addr} (hs : ∀ x ∈ ws', x ∈ ws) (r : WP l Z EL it n0 own h0 ws0 Q K h ws' cells slots g) : WP l Z EL it n0 own h0 ws0 Q K h ws cells slots g :=
  fun vm T locs P => r vm T locs ⟨P.1, P.2.1, P.2.2.1, P.2.2.2.1, P.2.2.2.2.1, P.2.2.2.2.2.1, P.2.2.2.2.2.2.1, P.2.2.2.2.2.2.2.1, P.2.2.2.2.2.2.2.2.1, fun x hx => P.2.2.2.2.2.2.2.2.2 x (hs x hx)⟩
theorem Ok.aaloadB (C : Ok l Z a0 EL it n0 own h0 ws0 Q code maxL ret nm rm K) {a : Nat} {c : Cell} {KK d : String} {z : Int32} {val : Int32 → Value} {j : Int32} (F : Bxs Z a c KK d z val) (j0 : 0 ≤ j.toInt) (j1 : j.toInt < z.toInt) (hd : decode code pc = .ok (.aaload, 1))
    (r : ∀ b : Nat, Exa Z h b KK → Fld Z h b KK "value" d (val j) → WP l Z EL it n0 own h0 ws0 Q K h ws cells slots (mkF K.m (pc + 1) Ls (.ref b :: st))) : WP l Z EL it n0 own h0 ws0 Q K h ws cells slots (mkF K.m pc Ls (.int j :: .ref a :: st)) := by
  intro vm T locs P
  have E := P.2.2.2.2.2.2.2.2.1.2
  obtain ⟨A, hs, hz, f⟩ := F
  have A' := A.ext E
  have k0 : (0 : Int32).toInt = 0 := rfl
  have hin : ¬ (j < 0 ∨ c.slots.size ≤ j.toNatClampNeg) := by
    rintro (q | q)
    · have := Int32.lt_iff_toInt_lt.mp q; omega
    · rw [hs] at q
      simp only [Int32.toNatClampNeg] at q
      omega
  obtain ⟨b, hb1, Eb, Fb⟩ := f j hin
  exact Goes.of (fun t k => P.1.aaload C.exec (by rw [P.2.1]; exact A'.1) (State.isArrayOf_alike P.2.2.2.1.alike A'.2.1) rfl A'.2.2 hin (v := .ref b) hb1 (g := mkF K.m pc Ls (.int j :: .ref a :: st)) rfl rfl (hb C.bytes hd) t k) (r b (Eb.ext E) (Fb.ext E) vm T locs P)
theorem Pos.call {it' : Prop} (hi : it' → it) {vm : Vm} {T U : State} {locs L : List Loc} {ws' : List Addr} {cells' slots' : Nat} (P : Pos l Z EL it n0 own h0 ws0 K h ws cells slots vm T locs) (hsub : ∀ x ∈ ws', x ∈ ws) (X' : Stand K.p l K.e K.R ((K.s.setVm vm).setVm U.vm) K.m K.args K.below K.meth K.c U (locs ++ L) cells' slots')
    (hS' : (K.s.setVm vm).Since U.vm U.heap.size) (hkp : Keep h U.heap ws') (hN : Fr n0 L) (hC : CHx it' Z EL vm h U.vm U.heap) : Pos l Z EL it n0 own h0 ws0 K U.heap ws cells' slots' U.vm U (locs ++ L) := by
  obtain ⟨X, eT, ⟨k, hS, hk⟩, hZ, hown, H, N, Kp, O, Ow⟩ := P
  obtain ⟨y1, y2, y3, y4⟩ := rebS hS hk X' hS' hkp.1 hZ hown
  exact ⟨y1, rfl, ⟨_, y2, Nat.le_refl _⟩, y3, y4, H.trans (hC.mono hi), N.app hN, Kp.trans hkp (fun x hx => (Ow x (hsub x hx)).2.2.2), O.keep hkp (fun x hx => (Ow x (hsub x hx)).1),
    fun x hx => ⟨(Ow x hx).1, Nat.lt_of_lt_of_le (Ow x hx).2.1 hkp.1, hC.safe (Ow x hx).2.1 (Ow x hx).2.2.1, (Ow x hx).2.2.2⟩⟩
theorem Ok.callS (C : Ok l Z a0 EL it n0 own h0 ws0 Q code maxL ret nm rm K) {it' : Prop} {y : MethodName} {index : Nat} {bytes' : ByteArray} {maxL' : Nat} {ret' : Option FieldType} {fr lo cl sl : Nat} {ws' : List Addr} {Q' : Option Value → Heap → Prop} {ps : List FieldType} {rt : Option FieldType} (as : List Value) (st : List Value) (W : Nat)
    (w1 : (Jvm.Cond.methodLink own index y).before a0 Z = true) (w2 : (Jvm.Cond.static y).before a0 Z = true) (w3 : (Jvm.Cond.initialized y.cls).before a0 Z = true) (w4 : (Jvm.Cond.code y bytes' maxL' ret').before a0 Z = true) (hy : y.cls ≠ "java/lang/invoke/MethodHandle" ∧ y.cls ≠ "java/lang/invoke/VarHandle")
    (pd : parseMethodDescriptor y.desc = some ⟨ps, rt⟩) (hlen : as.length = ps.length) (hi : it' → it) (M : Con l Z a0 EL it' n0 y fr lo cl sl as.toArray h ws' Q') (hd : decode code pc = .ok (.invokestatic index, 3)) (hLs : Ls.size = maxL) (hst : stk = as.reverse ++ st) (hW : (st.map fun v => v.category).sum = W)
    (hfr : fr ≤ rm.frames) (hlo : W + lo ≤ rm.locals) (hc : cells + cl ≤ rm.cells) (hs : slots + sl ≤ rm.slots) (hsub : ∀ x ∈ ws', x ∈ ws)
    (r : ∀ (v : Option Value) (h' : Heap), h.size ≤ h'.size → Keep h h' ws' → Q' v h' → WP l Z EL it n0 own h0 ws0 Q K h' ws (cells + cl) (slots + sl) (mkF K.m (pc + 3) Ls (v.toList ++ st))) : WP l Z EL it n0 own h0 ws0 Q K h ws cells slots (mkF K.m pc Ls stk) := by
  intro vm T locs P
  have P0 := P
  obtain ⟨X, eT, ⟨k, hS, hk⟩, hZ, hown, H, N, Kp, O, Ow⟩ := P
  have B := M K.R K.p K.e K.below K.s K.args 3 W vm hZ C.ew H.1 O (C.known hS) (fun x hx => ⟨(Ow x (hsub x hx)).1, (Ow x (hsub x hx)).2.1, (Ow x (hsub x hx)).2.2.1⟩) (by rw [C.room]; exact hfr) (by rw [C.room]; exact hlo)
  obtain ⟨v, vm₁, ⟨U, locs', cells', slots'⟩, -, X', hS', hgr, ⟨L, ⟨hq, hkp, hN⟩, e1, e2, e3, hC⟩, hgo⟩ := callSS X C.exec hown (mv hZ w1) (mv hZ w2) (mv hZ w3) (mv hZ w4) hy B (g := mkF K.m pc Ls stk) rfl (hLs.trans C.maxl.symm) (rest := st) (lenOf pd hlen) hst (by rw [hW]; exact Nat.le_of_eq (Nat.zero_add _)) (hb C.bytes hd) (fun vm₁ _ => ⟨rfl, eT, by rw [C.room]; exact hc, by rw [C.room]; exact hs⟩)
  dsimp only [Pt.U, Pt.locs, Pt.cells, Pt.slots] at X' hS' hgr hq hkp e1 e2 e3 hC hgo
  subst e1 e2 e3
  exact Goes.of (fun t k => hgo.trans k) (r v U.heap hkp.1 hkp hq U.vm U _ (P0.call hi hsub X' hS' hkp hN hC))
/-- a call of a static method that interns nothing; what it has made may be written from here on -/
theorem Ok.callSo (C : Ok l Z a0 EL it n0 own h0 ws0 Q code maxL ret nm rm K) {y : MethodName} {index : Nat} {bytes' : ByteArray} {maxL' : Nat} {ret' : Option FieldType} {fr lo cl sl : Nat} {ws' : List Addr} {Q' : Option Value → Heap → Prop} {ps : List FieldType} {rt : Option FieldType} (as : List Value) (st : List Value) (W : Nat)
    (w1 : (Jvm.Cond.methodLink own index y).before a0 Z = true) (w2 : (Jvm.Cond.static y).before a0 Z = true) (w3 : (Jvm.Cond.initialized y.cls).before a0 Z = true) (w4 : (Jvm.Cond.code y bytes' maxL' ret').before a0 Z = true) (hy : y.cls ≠ "java/lang/invoke/MethodHandle" ∧ y.cls ≠ "java/lang/invoke/VarHandle")
    (pd : parseMethodDescriptor y.desc = some ⟨ps, rt⟩) (hlen : as.length = ps.length) (M : Con l Z a0 EL False n0 y fr lo cl sl as.toArray h ws' Q') (hd : decode code pc = .ok (.invokestatic index, 3)) (hLs : Ls.size = maxL) (hst : stk = as.reverse ++ st) (hW : (st.map fun v => v.category).sum = W)
    (hfr : fr ≤ rm.frames) (hlo : W + lo ≤ rm.locals) (hc : cells + cl ≤ rm.cells) (hs : slots + sl ≤ rm.slots) (hsub : ∀ x ∈ ws', x ∈ ws)
    (r : ∀ (v : Option Value) (h' : Heap), h.size ≤ h'.size → Keep h h' ws' → Q' v h' → ∃ os : List Addr, (∀ x ∈ os, h.size ≤ x ∧ x < h'.size) ∧ WP l Z EL it n0 own h0 ws0 Q K h' (os ++ ws) (cells + cl) (slots + sl) (mkF K.m (pc + 3) Ls (v.toList ++ st))) : WP l Z EL it n0 own h0 ws0 Q K h ws cells slots (mkF K.m pc Ls stk) := by
  intro vm T locs P
  have P0 := P
  obtain ⟨X, eT, ⟨k, hS, hk⟩, hZ, hown, H, N, Kp, O, Ow⟩ := P
  have B := M K.R K.p K.e K.below K.s K.args 3 W vm hZ C.ew H.1 O (C.known hS) (fun x hx => ⟨(Ow x (hsub x hx)).1, (Ow x (hsub x hx)).2.1, (Ow x (hsub x hx)).2.2.1⟩) (by rw [C.room]; exact hfr) (by rw [C.room]; exact hlo)
  obtain ⟨v, vm₁, ⟨U, locs', cells', slots'⟩, -, X', hS', hgr, ⟨L, ⟨hq, hkp, hN⟩, e1, e2, e3, hC⟩, hgo⟩ := callSS X C.exec hown (mv hZ w1) (mv hZ w2) (mv hZ w3) (mv hZ w4) hy B (g := mkF K.m pc Ls stk) rfl (hLs.trans C.maxl.symm) (rest := st) (lenOf pd hlen) hst (by rw [hW]; exact Nat.le_of_eq (Nat.zero_add _)) (hb C.bytes hd) (fun vm₁ _ => ⟨rfl, eT, by rw [C.room]; exact hc, by rw [C.room]; exact hs⟩)
  dsimp only [Pt.U, Pt.locs, Pt.cells, Pt.slots] at X' hS' hgr hq hkp e1 e2 e3 hC hgo
  subst e1 e2 e3
  obtain ⟨os, hos, r⟩ := r v U.heap hkp.1 hkp hq
  have P1 := P0.call (it' := False) False.elim hsub X' hS' hkp hN hC
  refine Goes.of (fun t k => hgo.trans k) (r U.vm U _ ⟨P1.1, P1.2.1, P1.2.2.1, P1.2.2.2.1, P1.2.2.2.2.1, P1.2.2.2.2.2.1, P1.2.2.2.2.2.2.1, P1.2.2.2.2.2.2.2.1, P1.2.2.2.2.2.2.2.2.1, fun x hx => ?_⟩)
  rcases List.mem_append.mp hx with hx | hx
  · obtain ⟨g1, g2⟩ := hos x hx
    refine ⟨Nat.le_trans (O.1 ▸ O.2.1) g1, g2, fun q => ?_, Or.inr (Nat.le_trans Kp.1 g1)⟩
    rcases hC.2.2.1 x q with q | q
    · obtain ⟨c, hc⟩ := q.there
      exact absurd (Array.getElem?_eq_some_iff.mp hc).1 (Nat.not_lt.mpr g1)
    · exact q.1
  · exact P1.2.2.2.2.2.2.2.2.2 x hx
theorem Ok.callN (C : Ok l Z a0 EL it n0 own h0 ws0 Q code maxL ret nm rm K) {it' : Prop} {y : MethodName} {index : Nat} {bytes' : ByteArray} {maxL' : Nat} {fr lo cl sl : Nat} {ws' : List Addr} {Q' : Option Value → Heap → Prop} {ps : List FieldType} {rt : Option FieldType} (a : Nat) (as : List Value) (st : List Value) (W : Nat)
    (w1 : (Jvm.Cond.methodLink own index y).before a0 Z = true) (w2 : (Jvm.Cond.instanceMethod y).before a0 Z = true) (w4 : (Jvm.Cond.code y bytes' maxL' none).before a0 Z = true) (hy1 : y.name = "<init>") (hy : y.cls ≠ "java/lang/invoke/MethodHandle" ∧ y.cls ≠ "java/lang/invoke/VarHandle")
    (pd : parseMethodDescriptor y.desc = some ⟨ps, rt⟩) (hlen : as.length = ps.length) (hi : it' → it) (M : Con l Z a0 EL it' n0 y fr lo cl sl (Value.ref a :: as).toArray h ws' Q') (hd : decode code pc = .ok (.invokespecial index, 3)) (hLs : Ls.size = maxL) (hst : stk = as.reverse ++ .ref a :: st) (hW : (st.map fun v => v.category).sum = W)
    (hfr : fr ≤ rm.frames) (hlo : W + lo ≤ rm.locals) (hc : cells + cl ≤ rm.cells) (hs : slots + sl ≤ rm.slots) (hsub : ∀ x ∈ ws', x ∈ ws)
    (r : ∀ (v : Option Value) (h' : Heap), h.size ≤ h'.size → Keep h h' ws' → Q' v h' → WP l Z EL it n0 own h0 ws0 Q K h' ws (cells + cl) (slots + sl) (mkF K.m (pc + 3) Ls (v.toList ++ st))) : WP l Z EL it n0 own h0 ws0 Q K h ws cells slots (mkF K.m pc Ls stk) := by
  intro vm T locs P
  have P0 := P
  obtain ⟨X, eT, ⟨k, hS, hk⟩, hZ, hown, H, N, Kp, O, Ow⟩ := P
  have B := M K.R K.p K.e K.below K.s K.args 3 W vm hZ C.ew H.1 O (C.known hS) (fun x hx => ⟨(Ow x (hsub x hx)).1, (Ow x (hsub x hx)).2.1, (Ow x (hsub x hx)).2.2.1⟩) (by rw [C.room]; exact hfr) (by rw [C.room]; exact hlo)
  obtain ⟨v, vm₁, ⟨U, locs', cells', slots'⟩, -, X', hS', hgr, ⟨L, ⟨hq, hkp, hN⟩, e1, e2, e3, hC⟩, hgo⟩ := X.specialBackS C.exec hy1 hown (mv hZ w1) (mv hZ w2) (mv hZ w4) hy B (g := mkF K.m pc Ls stk) rfl (hLs.trans C.maxl.symm) (Steps.refl _) (a := a) (rest := st) (lenOf pd hlen) hst (by rw [hW]; exact Nat.le_of_eq (Nat.zero_add _)) (hb C.bytes hd) (fun vm₁ _ => ⟨rfl, eT, by rw [C.room]; exact hc, by rw [C.room]; exact hs⟩)
  dsimp only [Pt.U, Pt.locs, Pt.cells, Pt.slots] at X' hS' hgr hq hkp e1 e2 e3 hC hgo
  subst e1 e2 e3
  exact Goes.of (fun t k => hgo.trans k) (r v U.heap hkp.1 hkp hq U.vm U _ (P0.call hi hsub X' hS' hkp hN hC))
theorem Ok.callV (C : Ok l Z a0 EL it n0 own h0 ws0 Q code maxL ret nm rm K) {it' : Prop} {y : MethodName} {J : String} {index : Nat} {fr lo cl sl : Nat} {ws' : List Addr} {Q' : Option Value → Heap → Prop} {ps : List FieldType} {rt : Option FieldType} (b : Nat) (as : List Value) (st : List Value) (W : Nat)
    (w1 : (Jvm.Cond.methodLink own index y).before a0 Z = true) (w2 : (Jvm.Cond.declares y).before a0 Z = true) (w3 : (Jvm.Cond.selects J y y).before a0 Z = true) (w4 : (Jvm.Cond.instanceMethod y).before a0 Z = true) (hy : y.cls ≠ "java/lang/invoke/MethodHandle" ∧ y.cls ≠ "java/lang/invoke/VarHandle") (hyJ : y.cls = J)
    (E : Exa Z h b J) (pd : parseMethodDescriptor y.desc = some ⟨ps, rt⟩) (hlen : as.length = ps.length) (hi : it' → it) (M : Con l Z a0 EL it' n0 y fr lo cl sl (Value.ref b :: as).toArray h ws' Q') (hd : decode code pc = .ok (.invokevirtual index, 3)) (hLs : Ls.size = maxL) (hst : stk = as.reverse ++ .ref b :: st) (hW : (st.map fun v => v.category).sum = W)
    (hfr : fr ≤ rm.frames) (hlo : W + lo ≤ rm.locals) (hc : cells + cl ≤ rm.cells) (hs : slots + sl ≤ rm.slots) (hsub : ∀ x ∈ ws', x ∈ ws)
    (r : ∀ (v : Option Value) (h' : Heap), h.size ≤ h'.size → Keep h h' ws' → Q' v h' → WP l Z EL it n0 own h0 ws0 Q K h' ws (cells + cl) (slots + sl) (mkF K.m (pc + 3) Ls (v.toList ++ st))) : WP l Z EL it n0 own h0 ws0 Q K h ws cells slots (mkF K.m pc Ls stk) := by
  intro vm T locs P
  have P0 := P
  obtain ⟨X, eT, ⟨k, hS, hk⟩, hZ, hown, H, N, Kp, O, Ow⟩ := P
  have B := M K.R K.p K.e K.below K.s K.args 3 W vm hZ C.ew H.1 O (C.known hS) (fun x hx => ⟨(Ow x (hsub x hx)).1, (Ow x (hsub x hx)).2.1, (Ow x (hsub x hx)).2.2.1⟩) (by rw [C.room]; exact hfr) (by rw [C.room]; exact hlo)
  obtain ⟨cB, kB, q1, -, q3⟩ := isOf (s := K.s.setVm vm) hZ eT E
  subst hyJ
  obtain ⟨v, vm₁, ⟨U, locs', cells', slots'⟩, -, X', hS', hgr, ⟨L, ⟨hq, hkp, hN⟩, e1, e2, e3, hC⟩, hgo⟩ := X.virtualBackS C.exec (y := y) (z := y) hown (mv hZ w1) (mv hZ w2) (notFace_of_selects (args := #[]) (mv hZ w3)) (mv hZ w3) (mv hZ w4) hy B q1 q3 (g := mkF K.m pc Ls stk) rfl (hLs.trans C.maxl.symm) (Steps.refl _) (argsL := as) (rest := st) (lenOf pd hlen) hst (by rw [hW]; exact Nat.le_of_eq (Nat.zero_add _)) (hb C.bytes hd) (fun vm₁ _ => ⟨rfl, eT, by rw [C.room]; exact hc, by rw [C.room]; exact hs⟩)
  dsimp only [Pt.U, Pt.locs, Pt.cells, Pt.slots] at X' hS' hgr hq hkp e1 e2 e3 hC hgo
  subst e1 e2 e3
  exact Goes.of (fun t k => hgo.trans k) (r v U.heap hkp.1 hkp hq U.vm U _ (P0.call hi hsub X' hS' hkp hN hC))
section Up
variable {p : Program} {e : Env} {R : Room} {s : State} {m : MethodId} {args : Array Value} {below : List Frame} {meth : Method} {c : Code} {T : State} {locs : List Loc}
/-- 'invokevirtual' of a method that the named class inherits: Stand.virtualBackS over invokevirtualUp -/
theorem upBackS (X : Stand p l e R s m args below meth c T locs cells slots) (hexec : p.tables.exec = Jvm.exec) {own J owner : String} {index : Nat} {x : MethodName}
    (hown : s.vm.findClass own = some m.cls) (hlink : (Jvm.Cond.methodLink own index x).before args s = true) (hsame : (Jvm.Cond.sameMethod x.cls owner x.name x.desc).before args s = true) (hdecl : (Jvm.Cond.declares ⟨owner, x.name, x.desc⟩).before args s = true)
    (hsel : (Jvm.Cond.selects J x ⟨owner, x.name, x.desc⟩).before args s = true) (hinst : (Jvm.Cond.instanceMethod ⟨owner, x.name, x.desc⟩).before args s = true)
    (ho : owner ≠ "java/lang/invoke/MethodHandle" ∧ owner ≠ "java/lang/invoke/VarHandle")
    {W : Nat} {Pre : Pt → Array Value → Prop} {Post : Pt → Array Value → Option Value → Pt → Prop} (hK : BackS l R p e below s args ⟨owner, x.name, x.desc⟩ 3 W Pre Post)
    {b : Addr} {cB : ClassId} (hcB : s.vm.findClass J = some cB) (hrecv : IsOf cB T b)
    {g : JFrame} (hg : g.method = m) (hsize : g.locals.size = c.maxLocals) {argsL rest : List Value}
    (hlen : ∀ sig, parseMethodDescriptor x.desc = some sig → argsL.length = sig.parameters.length) (hstack : g.stack = argsL.reverse ++ .ref b :: rest) (hW : 2 * g.monitorRoom + (rest.map fun v => v.category).sum ≤ W)
    (hdg : decode c.code g.pc = .ok (.invokevirtual index, 3)) (hpre : ∀ vm₁, s.WarmedH vm₁ → Pre ⟨T.setVm vm₁, locs, cells, slots⟩ (.ref b :: argsL).toArray) :
    ∃ (v : Option Value) (vm₁ : Vm) (B : Pt), s.WarmedH vm₁ ∧ Stand p l e R (s.setVm B.U.vm) m args below meth c B.U B.locs B.cells B.slots ∧ s.Since B.U.vm B.U.heap.size ∧ T.heap.size ≤ B.U.heap.size ∧ Post ⟨T.setVm vm₁, locs, cells, slots⟩ (.ref b :: argsL).toArray v B ∧
      Steps p.tables e below (T.setTop g) (B.U.setTop { g with pc := g.pc + 3, stack := v.toList ++ rest }) := by
  obtain ⟨cellB, hcellT, hclsB, hstatB⟩ := hrecv
  obtain ⟨r0, r, hn, hrm, hstR, hsigR⟩ := Cond.declares_spec hdecl
  obtain ⟨mk, methM, hnamed, hmethM, -, habM⟩ := Cond.instanceMethod_spec hinst
  obtain ⟨c2, r2, m2, q1, q2, q3, q4, kP, hkP, hkPi⟩ := Cond.selects_spec hsel
  obtain ⟨cn, ck, r1, hcn, hck, hni, hf, hn1⟩ := Cond.sameMethod_found hsame
  cases hcB.symm.trans q1
  cases hn.symm.trans hn1
  cases hf.symm.trans q2
  cases hnamed.symm.trans q3
  have hselP : selectMethod e.platform s.vm cellB.cls r0 = .method mk := by rw [Launch.admits_selectMethod X.admits, hclsB]; exact q4
  obtain ⟨vm₁, X₁, hstep₁⟩ := X.invokevirtualUp hexec hown hlink hsame ho hn hrm hstR (a := b) (cell := cellB) hcellT
    (fun z h => by rw [h] at hstatB; cases hstatB) hselP hmethM habM hkP hkPi (g := g) hg (argsL := argsL) (rest := rest) (hlen _ hsigR) hstack hdg
  obtain ⟨v, B, X', hS, hgr, hpost, hsteps⟩ := hK m meth c ⟨T.setVm vm₁, locs, cells, slots⟩ { g with stack := rest } (.invokevirtual index) mk (.ref b :: argsL).toArray X₁ hg hsize hdg hW (X₁.named hnamed) (hpre vm₁ X₁.warmed)
  exact ⟨v, vm₁, B, X₁.warmed, X', hS, hgr, hpost, (hstep₁ _ fun acts => by rw [doInvoke_state]; exact Steps.refl _).trans hsteps⟩
end Up
theorem Ok.callVU (C : Ok l Z a0 EL it n0 own h0 ws0 Q code maxL ret nm rm K) {it' : Prop} {x : MethodName} {J owner : String} {index : Nat} {fr lo cl sl : Nat} {ws' : List Addr} {Q' : Option Value → Heap → Prop} {ps : List FieldType} {rt : Option FieldType} (b : Nat) (as : List Value) (st : List Value) (W : Nat)
    (w1 : (Jvm.Cond.methodLink own index x).before a0 Z = true) (hk' : ((Jvm.Cond.sameMethod x.cls owner x.name x.desc).onTables && (Jvm.Cond.sameMethod x.cls owner x.name x.desc).keepsFace) = true) (w5 : (Jvm.Cond.sameMethod x.cls owner x.name x.desc).before a0 Z = true) (w2 : (Jvm.Cond.declares ⟨owner, x.name, x.desc⟩).before a0 Z = true) (w3 : (Jvm.Cond.selects J x ⟨owner, x.name, x.desc⟩).before a0 Z = true) (w4 : (Jvm.Cond.instanceMethod ⟨owner, x.name, x.desc⟩).before a0 Z = true) (ho : owner ≠ "java/lang/invoke/MethodHandle" ∧ owner ≠ "java/lang/invoke/VarHandle")
    (E : Exa Z h b J) (pd : parseMethodDescriptor x.desc = some ⟨ps, rt⟩) (hlen : as.length = ps.length) (hi : it' → it) (M : Con l Z a0 EL it' n0 ⟨owner, x.name, x.desc⟩ fr lo cl sl (Value.ref b :: as).toArray h ws' Q') (hd : decode code pc = .ok (.invokevirtual index, 3)) (hLs : Ls.size = maxL) (hst : stk = as.reverse ++ .ref b :: st) (hW : (st.map fun v => v.category).sum = W)
    (hfr : fr ≤ rm.frames) (hlo : W + lo ≤ rm.locals) (hc : cells + cl ≤ rm.cells) (hs : slots + sl ≤ rm.slots) (hsub : ∀ x ∈ ws', x ∈ ws)
    (r : ∀ (v : Option Value) (h' : Heap), h.size ≤ h'.size → Keep h h' ws' → Q' v h' → WP l Z EL it n0 own h0 ws0 Q K h' ws (cells + cl) (slots + sl) (mkF K.m (pc + 3) Ls (v.toList ++ st))) : WP l Z EL it n0 own h0 ws0 Q K h ws cells slots (mkF K.m pc Ls stk) := by
  intro vm T locs P
  have P0 := P
  obtain ⟨X, eT, ⟨k, hS, hk⟩, hZ, hown, H, N, Kp, O, Ow⟩ := P
  have B := M K.R K.p K.e K.below K.s K.args 3 W vm hZ C.ew H.1 O (C.known hS) (fun x hx => ⟨(Ow x (hsub x hx)).1, (Ow x (hsub x hx)).2.1, (Ow x (hsub x hx)).2.2.1⟩) (by rw [C.room]; exact hfr) (by rw [C.room]; exact hlo)
  obtain ⟨cB, kB, q1, -, q3⟩ := isOf (s := K.s.setVm vm) hZ eT E
  obtain ⟨v, vm₁, ⟨U, locs', cells', slots'⟩, -, X', hS', hgr, ⟨L, ⟨hq, hkp, hN⟩, e1, e2, e3, hC⟩, hgo⟩ := upBackS X C.exec (x := x) hown (mv hZ w1) (mv hZ w5) (mv hZ w2) (mv hZ w3) (mv hZ w4) ho B q1 q3 (g := mkF K.m pc Ls stk) rfl (hLs.trans C.maxl.symm) (argsL := as) (rest := st) (lenOf pd hlen) hst (by rw [hW]; exact Nat.le_of_eq (Nat.zero_add _)) (hb C.bytes hd) (fun vm₁ _ => ⟨rfl, eT, by rw [C.room]; exact hc, by rw [C.room]; exact hs⟩)
  dsimp only [Pt.U, Pt.locs, Pt.cells, Pt.slots] at X' hS' hgr hq hkp e1 e2 e3 hC hgo
  subst e1 e2 e3
  exact Goes.of (fun t k => hgo.trans k) (r v U.heap hkp.1 hkp hq U.vm U _ (P0.call hi hsub X' hS' hkp hN hC))
theorem Pos.keep {vm : Vm} {T T' : State} {locs locs' : List Loc} {h' : Heap} {b cells' slots' : Nat} (P : Pos l Z EL it n0 own h0 ws0 K h ws cells slots vm T locs) (ha : b ∈ ws) (X' : Stand K.p l K.e K.R (K.s.setVm vm) K.m K.args K.below K.meth K.c T' locs' cells' slots') (e' : T'.heap = h') (F : Fr n0 locs') (kk : Keep h h' [b]) : Pos l Z EL it n0 own h0 ws0 K h' ws cells' slots' vm T' locs' := by
  obtain ⟨X, eT, ⟨k, hS, hk⟩, hZ, hown, H, Nf, Kp, O, Ow⟩ := P
  obtain ⟨o1, o2, o3, o4⟩ := Ow b ha
  have sf : ∀ x ∈ [b], Safe Z EL vm h x := fun x hx => by cases List.mem_singleton.mp hx; exact o3
  have hC : CHx it Z EL vm h vm h' := ⟨H.1.keep kk sf, kk.1, fun y q => Or.inl ((H.1.keepStep kk sf).2 y q), Or.inr (Wm.refl _)⟩
  exact ⟨X', e', ⟨k, hS, Nat.le_trans hk kk.1⟩, hZ, hown, H.trans hC, F, Kp.trans kk (fun x hx => by cases List.mem_singleton.mp hx; exact o4), O.keep kk (fun x hx => by cases List.mem_singleton.mp hx; exact o1),
    fun x hx => ⟨(Ow x hx).1, Nat.lt_of_lt_of_le (Ow x hx).2.1 kk.1, hC.safe (Ow x hx).2.1 (Ow x hx).2.2.1, (Ow x hx).2.2.2⟩⟩
/-- System.arraycopy of bytes into a whole array -/
theorem Ok.acopy (C : Ok l Z a0 EL it n0 own h0 ws0 Q code maxL ret nm rm K) {index : Nat} {a b i n : Nat} {vs vd : List Value} {sp nn : Int32} (W : Nat) (w1 : (Jvm.Cond.methodLink own index Jvm.Stand.acN).before a0 Z = true) (w2 : (Jvm.Cond.native Jvm.Stand.acN).before a0 Z = true) (w3 : (Jvm.Cond.static Jvm.Stand.acN).before a0 Z = true) (w4 : (Jvm.Cond.initialized "java/lang/System").before a0 Z = true)
    (A : Ary Z h a .byte vs) (B : Ary Z h b .byte vd) (hsp : sp.toInt = i) (hnn : nn.toInt = n) (hin : i + n ≤ vs.length) (hvd : vd.length = n) (hd : decode code pc = .ok (.invokestatic index, 3)) (hLs : Ls.size = maxL) (hW : (st.map fun v => v.category).sum = W) (hf : 1 ≤ rm.frames) (hlo : W + (nativeFrameWords "java/lang/System" "arraycopy" 5 + 11) ≤ rm.locals) (ha : b ∈ ws)
    (r : ∀ h' : Heap, h.size ≤ h'.size → Keep h h' [b] → Ary Z h' b .byte ((vs.drop i).take n) → WP l Z EL it n0 own h0 ws0 Q K h' ws cells slots (mkF K.m (pc + 3) Ls st)) : WP l Z EL it n0 own h0 ws0 Q K h ws cells slots (mkF K.m pc Ls (.int nn :: .int 0 :: .ref b :: .int sp :: .ref a :: st)) := by
  intro vm T locs P
  have P0 := P
  obtain ⟨X, eT, ⟨k, hS, hk⟩, hZ, hown, H, Nf, Kp, O, Ow⟩ := P
  have la := A.len
  have lb := B.len
  have za : (Int32.ofNat vs.length).toInt = vs.length := Int32.toInt_ofNat_small la
  have zb : (Int32.ofNat vd.length).toInt = vd.length := Int32.toInt_ofNat_small lb
  obtain ⟨ka, A1⟩ := A.arv (d := .int 0) za
  obtain ⟨kb, B1⟩ := B.arv (d := .int 0) zb
  have k0 : (0 : Int32).toInt = 0 := rfl
  have c0 : (0 : Int32).toNatClampNeg = 0 := rfl
  have ci : sp.toNatClampNeg = i := by simp only [Int32.toNatClampNeg]; omega
  have cn : nn.toNatClampNeg = n := by simp only [Int32.toNatClampNeg]; omega
  have ca : (Int32.ofNat vs.length).toNatClampNeg = vs.length := by simp only [Int32.toNatClampNeg]; omega
  have cb : (Int32.ofNat vd.length).toNatClampNeg = vd.length := by simp only [Int32.toNatClampNeg]; omega
  have ng : ∀ {x : Int32} {j : Nat}, x.toInt = j → ¬ x < 0 := fun {x j} e q => by have := Int32.lt_iff_toInt_lt.mp q; omega
  obtain ⟨T', h', L, X', e', F, kk, B2, go⟩ := RoadKit.cpA X C.exec hZ hown w1 w2 w3 w4 eT A1 B1 (us := (List.range nn.toNatClampNeg).map fun j => vs.getD (sp.toNatClampNeg + j) (.int 0)) (Or.inl ⟨rfl, rfl⟩) (ng hsp) (ng (j := 0) k0) (ng hnn) (by rw [ci, cn, ca]; exact hin) (by rw [c0, cn, cb]; omega) rfl (by rw [c0, cn]; omega) Nf (Ow b ha).1
    (g := mkF K.m pc Ls (.int nn :: .int 0 :: .ref b :: .int sp :: .ref a :: st)) rfl (hLs.trans C.maxl.symm) rfl (hb C.bytes hd) (by rw [C.room]; exact hf) (W := W) (by rw [hW]; exact Nat.le_of_eq (Nat.zero_add _)) (by rw [C.room]; exact hlo)
  have el : vd.take (0 : Int32).toNatClampNeg ++ ((List.range nn.toNatClampNeg).map fun j => vs.getD (sp.toNatClampNeg + j) (.int 0)) ++ vd.drop ((0 : Int32).toNatClampNeg + nn.toNatClampNeg) = (vs.drop i).take n := by
    rw [c0, cn, ci, List.take_zero, List.nil_append, List.drop_of_length_le (by omega), List.append_nil]
    apply List.ext_getElem
    · simp; omega
    · intro j h1 h2
      simp at h1 h2 ⊢
      rw [List.getElem?_eq_getElem (by omega)]; rfl
  rw [el] at B2
  exact Goes.of go (r h' kk.1 kk (Ary.of_arv B2 (by rw [cb, List.length_take, List.length_drop]; omega)) vm T' _ (P0.keep ha X' e' F kk))
/-- the constructor chain of a Throwable, with a message -/
theorem Ok.exc1 (C : Ok l Z a0 EL it n0 own h0 ws0 Q code maxL ret nm rm K) (htr : TR) (hst : l.stackTraces = true) {rc : String} {links : List Jvm.Free.Exc.Link} {ic n : Nat} (W : Nat) (hok : Jvm.Free.Exc.linksOk 1 links = true) (w1 : (Jvm.Cond.methodLink own ic (Jvm.Free.Exc.ctor 1 (Jvm.Free.Exc.headName links))).before a0 Z = true) (w2 : (Jvm.Cond.instanceMethod (Jvm.Free.Exc.ctor 1 (Jvm.Free.Exc.headName links))).before a0 Z = true)
    (wT : (Jvm.Free.Exc.chainTab 1 rc links).before a0 Z = true) (wi : (Jvm.Cond.instantiable rc n).before a0 Z = true) (r2 : ∀ d ∈ RoadKit.twoRefs, d.before a0 Z = true) {a : Nat} (E : Exa Z h a rc) (N : RoadKit.Unt h a) (B1 : Fld Z h a "java/lang/Throwable" "backtrace" "Ljava/lang/Object;" .null) (B2 : Fld Z h a "java/lang/Throwable" "detailMessage" "Ljava/lang/String;" .null) {msg : Value} (hmsg : msg.isRef = true)
    (hd : decode code pc = .ok (.invokespecial ic, 3)) (hLs : Ls.size = maxL) (hW : (st.map fun v => v.category).sum = W) (hf : 4 + links.length ≤ rm.frames) (hlo : W + (56 + 14 * links.length) ≤ rm.locals) (hc : cells + 1 ≤ rm.cells) (hsl : slots + 2752 ≤ rm.slots) (ha : a ∈ ws)
    (r : ∀ h' : Heap, h.size ≤ h'.size → Keep h h' [a] → Exa Z h' a rc → RoadKit.Unt h' a → Fld Z h' a "java/lang/Throwable" "detailMessage" "Ljava/lang/String;" msg → WP l Z EL it n0 own h0 ws0 Q K h' ws (cells + 1) (slots + 2752) (mkF K.m (pc + 3) Ls st)) : WP l Z EL it n0 own h0 ws0 Q K h ws cells slots (mkF K.m pc Ls (msg :: .ref a :: st)) := by
  intro vm T locs P
  obtain ⟨X, eT, ⟨k, hS, hk⟩, hZ, hown, H, Nf, Kp, O, Ow⟩ := P
  have hkn := C.known hS htr
  have T0 : RoadKit.ThS Z (K.s.setVm vm).heap := by
    show RoadKit.ThS Z K.s.heap
    rw [C.heap0]
    exact RoadKit.ThS.ext C.old0.2 RoadKit.ThS.start
  obtain ⟨T', h', X', e', kp, E', N', M', -, -, go⟩ := RoadKit.excL1 X C.exec hst hZ hown hok w1 w2 wT wi r2 T0 (RoadKit.ThS.ext O.2 RoadKit.ThS.start) hkn.1 hkn.2 eT E N B1 B2 hmsg (g := mkF K.m pc Ls (msg :: .ref a :: st)) rfl (hLs.trans C.maxl.symm) rfl (hb C.bytes hd) (by rw [C.room]; exact hf) (by rw [C.room, hW]; show 2 * 0 + W + _ ≤ _; omega) (by rw [C.room]; exact hc) (by rw [C.room]; exact hsl)
  have kk := RoadKit.keep_of_kp kp
  obtain ⟨o1, o2, o3, o4⟩ := Ow a ha
  have sf : ∀ x ∈ [a], Safe Z EL vm h x := fun x hx => by cases List.mem_singleton.mp hx; exact o3
  have hC : CHx it Z EL vm h vm h' := ⟨H.1.keep kk sf, kk.1, fun y q => Or.inl ((H.1.keepStep kk sf).2 y q), Or.inr (Wm.refl _)⟩
  exact Goes.of go (r h' kk.1 kk E' N' M' vm T' _ ⟨X', e', ⟨k, hS, Nat.le_trans hk kk.1⟩, hZ, hown, H.trans hC, RoadKit.Fr.six Nf o1, Kp.trans kk (fun x hx => by cases List.mem_singleton.mp hx; exact o4), O.keep kk (fun x hx => by cases List.mem_singleton.mp hx; exact o1),
    fun x hx => ⟨(Ow x hx).1, Nat.lt_of_lt_of_le (Ow x hx).2.1 kk.1, hC.safe (Ow x hx).2.1 (Ow x hx).2.2.1, (Ow x hx).2.2.2⟩⟩)
theorem Ok.callI (C : Ok l Z a0 EL it n0 own h0 ws0 Q code maxL ret nm rm K) {it' : Prop} {x y : MethodName} {J : String} {index count : Nat} {fr lo cl sl : Nat} {ws' : List Addr} {Q' : Option Value → Heap → Prop} {ps : List FieldType} {rt : Option FieldType} (b : Nat) (as : List Value) (st : List Value) (W : Nat)
    (w1 : (Jvm.Cond.methodLink own index x).before a0 Z = true) (w2 : (Jvm.Cond.declares x).before a0 Z = true) (hk' : ((Jvm.Cond.interfaceMethod x.cls x.cls x.name x.desc).onTables && (Jvm.Cond.interfaceMethod x.cls x.cls x.name x.desc).keepsFace) = true) (w2' : (Jvm.Cond.interfaceMethod x.cls x.cls x.name x.desc).before a0 Z = true) (w3 : (Jvm.Cond.selects J x y).before a0 Z = true) (w4 : (Jvm.Cond.instanceMethod y).before a0 Z = true) (w5 : (Jvm.Cond.publicMethod y).before a0 Z = true) (w6 : (Jvm.Cond.unhidden J x.name x.desc).before a0 Z = true) (w7 : (Jvm.Cond.castable J x.cls).before a0 Z = true) (hy : x.cls ≠ "java/lang/invoke/MethodHandle" ∧ x.cls ≠ "java/lang/invoke/VarHandle")
    (E : Exa Z h b J) (pd : parseMethodDescriptor x.desc = some ⟨ps, rt⟩) (hlen : as.length = ps.length) (hi : it' → it) (M : Con l Z a0 EL it' n0 y fr lo cl sl (Value.ref b :: as).toArray h ws' Q') (hd : decode code pc = .ok (.invokeinterface index count, 5)) (hLs : Ls.size = maxL) (hst : stk = as.reverse ++ .ref b :: st) (hW : (st.map fun v => v.category).sum = W)
    (hfr : fr ≤ rm.frames) (hlo : W + lo ≤ rm.locals) (hc : cells + cl ≤ rm.cells) (hs : slots + sl ≤ rm.slots) (hsub : ∀ x ∈ ws', x ∈ ws)
    (r : ∀ (v : Option Value) (h' : Heap), h.size ≤ h'.size → Keep h h' ws' → Q' v h' → WP l Z EL it n0 own h0 ws0 Q K h' ws (cells + cl) (slots + sl) (mkF K.m (pc + 5) Ls (v.toList ++ st))) : WP l Z EL it n0 own h0 ws0 Q K h ws cells slots (mkF K.m pc Ls stk) := by
  intro vm T locs P
  have P0 := P
  obtain ⟨X, eT, ⟨k, hS, hk⟩, hZ, hown, H, N, Kp, O, Ow⟩ := P
  have B := M K.R K.p K.e K.below K.s K.args 5 W vm hZ C.ew H.1 O (C.known hS) (fun x hx => ⟨(Ow x (hsub x hx)).1, (Ow x (hsub x hx)).2.1, (Ow x (hsub x hx)).2.2.1⟩) (by rw [C.room]; exact hfr) (by rw [C.room]; exact hlo)
  obtain ⟨cB, kB, q1, q2, q3⟩ := isOf (s := K.s.setVm vm) hZ eT E
  obtain ⟨v, vm₁, ⟨U, locs', cells', slots'⟩, -, X', hS', hgr, ⟨L, ⟨hq, hkp, hN⟩, e1, e2, e3, hC⟩, hgo⟩ := X.interfaceBackS C.exec (xi := x) (y := y) hown (mv hZ w1) (mv hZ w2) (mv hZ w2' hk') (mv hZ w3) (mv hZ w4) (mv hZ w5) (mv hZ w6) (mv hZ w7) hy B q1 q2 q3 (g := mkF K.m pc Ls stk) rfl (hLs.trans C.maxl.symm) (Steps.refl _) (argsL := as) (rest := st) (lenOf pd hlen) hst (by rw [hW]; exact Nat.le_of_eq (Nat.zero_add _)) (hb C.bytes hd) (fun vm₁ _ => ⟨rfl, eT, by rw [C.room]; exact hc, by rw [C.room]; exact hs⟩)
  dsimp only [Pt.U, Pt.locs, Pt.cells, Pt.slots] at X' hS' hgr hq hkp e1 e2 e3 hC hgo
  subst e1 e2 e3
  exact Goes.of (fun t k => hgo.trans k) (r v U.heap hkp.1 hkp hq U.vm U _ (P0.call hi hsub X' hS' hkp hN hC))
theorem Ok.initO (C : Ok l Z a0 EL it n0 own h0 ws0 Q code maxL ret nm rm K) {index : Nat} {a : Nat} (W : Nat) (w1 : (Jvm.Cond.methodLink own index Lib.objectInit).before a0 Z = true) (w2 : (Jvm.Cond.instanceMethod Lib.objectInit).before a0 Z = true) (w3 : (Jvm.Cond.code Lib.objectInit ⟨#[0xb1]⟩ 1 none).before a0 Z = true) (hd : decode code pc = .ok (.invokespecial index, 3)) (hLs : Ls.size = maxL)
    (hW : (st.map fun v => v.category).sum = W) (hfr : 1 ≤ rm.frames) (hlo : W + 12 ≤ rm.locals) (r : WP l Z EL it n0 own h0 ws0 Q K h ws cells slots (mkF K.m (pc + 3) Ls st)) : WP l Z EL it n0 own h0 ws0 Q K h ws cells slots (mkF K.m pc Ls (.ref a :: st)) := by
  intro vm T locs P
  obtain ⟨T', X', e', s'⟩ := RoadKit.initO P.1 C.exec P.2.2.2.1 P.2.2.2.2.1 w1 w2 w3 P.2.1 (g := mkF K.m pc Ls (.ref a :: st)) rfl (hLs.trans C.maxl.symm) rfl (hb C.bytes hd) (by rw [C.room]; exact hfr) (W := W) (by rw [← hW]; exact Nat.le_of_eq (Nat.zero_add _)) (by rw [C.room]; exact hlo)
  exact Goes.of s' (r vm T' locs ⟨X', e', P.2.2⟩)
/-- ldc of a String constant whose text is read -/
theorem Ok.ldcC (C : Ok l Z a0 EL it n0 own h0 ws0 Q code maxL ret nm rm K) (hit : it) {text : String} {index : Nat} {vs : List Value} {z : Int32} (n : Nat) (w : (Jvm.Cond.stringLink own index text).before a0 Z = true) (wS : ∀ a ∈ Bundle.stringAtoms, a.before a0 Z = true) (hmem : (own, index) ∈ EL)
    (ht : (∀ c ∈ text.toList, c.toNat < 256) ∧ text.toList.map (fun c => Value.int (Jvm.Lit.byteI c.toNat.toUInt16)) = vs) (hz : ¬ z < 0) (hl : z.toNatClampNeg = vs.length) (hn : 4 * text.toList.length ≤ n) (hbig : n ≤ 536870912) (hd : decode code pc = .ok (.ldc index, 2)) (hc : cells + 2 ≤ rm.cells) (hl' : slots + (n + 4) ≤ rm.slots)
    (r : ∀ (h' : Heap) (a b : Nat), h.size ≤ h'.size → Keep h h' [] → a < h'.size → b < h'.size → (∀ x ∈ ws, @Ne Nat x a ∧ @Ne Nat x b) → Exa Z h' a "java/lang/String" → Fld Z h' a "java/lang/String" "coder" "B" (.int 0) → Fld Z h' a "java/lang/String" "value" "[B" (.ref b) → Ary Z h' b .byte vs → WP l Z EL it n0 own h0 ws0 Q K h' ws (cells + 2) (slots + (n + 4)) (mkF K.m (pc + 2) Ls (.ref a :: st))) :
    WP l Z EL it n0 own h0 ws0 Q K h ws cells slots (mkF K.m pc Ls st) := by
  intro vm T locs P
  obtain ⟨X, eT, ⟨k, hS, hk⟩, hZ, hown, H, N, Kp, O, Ow⟩ := P
  obtain ⟨a, T', h', k1, b, kc, X', e', E, hS', hk', hZ', hown', F1, F2, F3, F4, la, lb, hC, -, hne, go⟩ := ldcCH X C.exec hZ hown w wS eT hS hk C.ew hmem H.1 ht hz hl (g := mkF K.m pc Ls st) rfl (hb C.bytes hd) hn hbig (by rw [C.room]; exact hc) (by rw [C.room]; exact hl')
  have Sf : ∀ x ∈ ws, Safe Z EL T'.vm h' x := fun x hx => hC.safe (Ow x hx).2.1 (Ow x hx).2.2.1
  exact Goes.of go (r h' a b E.1 (keep_ext E) la lb (fun x hx => hne x (Sf x hx)) F1 F2 F3 (Ary.of_arv F4 hl) T'.vm T' locs ⟨X', e', ⟨k1, hS', hk'⟩, hZ', hown', H.trans (CHx.of hit hC), N, Kp.ext E, O.ext E, fun x hx => ⟨(Ow x hx).1, Nat.lt_of_lt_of_le (Ow x hx).2.1 E.1, Sf x hx, (Ow x hx).2.2.2⟩⟩)
/-- ldc of a String constant, unread -/
theorem Ok.ldcO (C : Ok l Z a0 EL it n0 own h0 ws0 Q code maxL ret nm rm K) (hit : it) {text : String} {index : Nat} (n : Nat) (w : (Jvm.Cond.stringLink own index text).before a0 Z = true) (wS : ∀ a ∈ Bundle.stringAtoms, a.before a0 Z = true) (hn : 4 * text.toList.length ≤ n) (hbig : n ≤ 536870912) (hd : decode code pc = .ok (.ldc index, 2)) (hc : cells + 2 ≤ rm.cells) (hl' : slots + (n + 4) ≤ rm.slots)
    (r : ∀ (h' : Heap) (a : Nat), h.size ≤ h'.size → Keep h h' [] → WP l Z EL it n0 own h0 ws0 Q K h' ws (cells + 2) (slots + (n + 4)) (mkF K.m (pc + 2) Ls (.ref a :: st))) : WP l Z EL it n0 own h0 ws0 Q K h ws cells slots (mkF K.m pc Ls st) := by
  intro vm T locs P
  obtain ⟨X, eT, ⟨k, hS, hk⟩, hZ, hown, H, N, Kp, O, Ow⟩ := P
  obtain ⟨a, T', h', k1, X', e', E, hS', hk', hZ', hown', hC, -, go⟩ := ldcOH X C.exec hZ hown w wS eT hS hk C.ew H.1 (g := mkF K.m pc Ls st) rfl (hb C.bytes hd) hn hbig (by rw [C.room]; exact hc) (by rw [C.room]; exact hl')
  exact Goes.of go (r h' a E.1 (keep_ext E) T'.vm T' locs ⟨X', e', ⟨k1, hS', hk'⟩, hZ', hown', H.trans (CHx.of hit hC), N, Kp.ext E, O.ext E, fun x hx => ⟨(Ow x hx).1, Nat.lt_of_lt_of_le (Ow x hx).2.1 E.1, hC.safe (Ow x hx).2.1 (Ow x hx).2.2.1, (Ow x hx).2.2.2⟩⟩)
end Calls
section Laws
variable {l : Launch} {Z : State} {a0 : Array Value} {EL : List (String × Nat)} {it : Prop} {n0 : Nat} {Q : Option Value → Heap → Prop} {h : Heap} {ws : List Addr}
/-- from the body to the law -/
theorem Met.of {y : MethodName} {bytes : ByteArray} {maxL : Nat} {ret : Option FieldType} {rm : Room} {cs : List Jvm.Cond} {as : Array Value} {own nm : String} (Ls : Array Slot) (hEL : EW Z a0 EL) (ho : y.cls = own) (hn : y.name = nm) (pn : plainFor y = true) (ef : ∀ m, entryFrame m as maxL = mkF m 0 Ls [])
    (body : ∀ K : Ctx, Ok l Z a0 EL it n0 own h ws Q bytes maxL ret nm rm K → WP l Z EL it n0 own h ws Q K h ws 0 0 (mkF K.m 0 Ls [])) : Met l Z EL it n0 y bytes maxL ret rm cs as h ws Q := by
  subst ho hn
  refine MetFree.of_bodySF pn hisR ?_
  intro p e s m args below meth c s₁ Bd hml hP hK
  obtain ⟨rfl, hZ, hh, H, O, hs⟩ := hP
  subst hh
  have X : Stand p l e rm s m args below meth c s₁ [] 0 0 := Stand.of_body Bd
  have hown : s.vm.findClass y.cls = some m.cls := findClass_of_methodNamed Bd.named
  have eh : s₁.heap = s.heap := by rw [Bd.state]; rfl
  obtain ⟨s₂, o, h1, h2, h3, h4⟩ := body (p, e, rm, s, m, args, below, meth, c) ⟨Bd.exec, hEL, Bd.bytes, hml, Bd.returns, (name_of_methodNamed Bd.named Bd.method).1, Bd.notSynchronized, rfl, hK, rfl, O⟩ s.vm s₁ []
    ⟨X, eh, ⟨s.heap.size, (State.WarmedH.refl s).since _, Nat.le_refl _⟩, hZ, hown, CHx.refl H, Fr.nil _, Keep.refl _ _, O, fun x hx => ⟨(hs x hx).1, (hs x hx).2.1, (hs x hx).2.2, Or.inl hx⟩⟩
  exact ⟨s₂, o, castTop (ef m) h1, h2, h3, h4⟩
/-- from the body's law to a caller's -/
theorem Met.con {y : MethodName} {bytes : ByteArray} {maxL : Nat} {ret : Option FieldType} {rm : Room} {as : Array Value} (M : Met l Z EL it n0 y bytes maxL ret rm [] as h ws Q) (wc : (Jvm.Cond.code y bytes maxL ret).before a0 Z = true) (wz : (Jvm.Cond.initialized y.cls).before a0 Z = true) {fr lo cl sl : Nat} (e1 : rm.frames + 1 = fr) (e2 : maxL + 11 + rm.locals = lo) (e3 : rm.cells = cl) (e4 : rm.slots = sl) :
    Con l Z a0 EL it n0 y fr lo cl sl as h ws Q := by
  subst e1 e2 e3 e4
  intro R p e below s args len W vm0 hZ hEL H O hkn hs hf hl
  exact BackS.of_freeWG (bytes := bytes) (maxL := maxL) (ret := ret) (E := fun _ first o t L k n => k = rm.cells ∧ n = rm.slots ∧ (∃ v, o = .returned v ∧ Q v t.heap ∧ Keep h t.heap ws ∧ Fr n0 L) ∧ CHx it Z EL first.vm h t.vm t.heap) M hf (by show W + (maxL + 11) + rm.locals ≤ _; omega)
    (fun m meth c A a Y hp => by
      have hU : Z.Warmed39 A.U.vm := wtrans (s := s.setVm vm0) hZ Y.warmed
      exact ⟨by show (Jvm.Cond.and _ .tt).before a A.U = true; rw [Cond.before_and, mv hU wc]; rfl, mv hU wc, mv hU wz, hp.2.2.1, hp.2.2.2⟩)
    (fun m meth c A a g mk Y hp => by
      have q : CHx it Z EL vm0 h A.U.vm h := CHx.still (CHv.at Y hZ hEL H) (Wm.of (s0 := s.setVm vm0) Y.warmed)
      exact ⟨hp.1, wtrans (s := s.setVm vm0) hZ Y.warmed, hp.2.1, q.1, O, fun x hx => ⟨(hs x hx).1, (hs x hx).2.1, q.safe (hs x hx).2.1 (hs x hx).2.2⟩⟩)
    (fun m meth c A a g mk Y _ hg t => known_frames Y hg (hkn t).1 (hkn t).2)
    (fun _ _ _ _ ⟨v, L, h1, h2, h3, h4⟩ => ⟨L, _, _, h4, rfl, rfl, ⟨v, h1, h2⟩, h3⟩)
    (fun m meth c A a g mk v t L k n Y hp _ _ ⟨e1, e2, ⟨v', e3, e4⟩, e5⟩ => by
      cases e3; subst e1 e2
      exact ⟨L, e4, rfl, rfl, rfl, (CHx.still (CHv.at Y hZ hEL H) (Wm.of (s0 := s.setVm vm0) Y.warmed)).trans e5⟩)
theorem Con.wk {y : MethodName} {fr lo cl sl : Nat} {as : Array Value} {Q' : Option Value → Heap → Prop} (M : Con l Z a0 EL it n0 y fr lo cl sl as h ws Q) (hq : ∀ v h', Keep h h' ws → Q v h' → Q' v h') : Con l Z a0 EL it n0 y fr lo cl sl as h ws Q' := by
  intro R p e below s args len W vm0 hZ hEL H O hkn hs hf hl m meth c A g ig mk a X hg hsize hdg hW hn hp
  obtain ⟨v, B, X', hS, hgr, ⟨L, ⟨q1, q2⟩, q3⟩, hst⟩ := M R p e below s args len W vm0 hZ hEL H O hkn hs hf hl m meth c A g ig mk a X hg hsize hdg hW hn hp
  exact ⟨v, B, X', hS, hgr, ⟨L, ⟨hq _ _ q2.1 q1, q2⟩, q3⟩, hst⟩
end Laws
end Own
end Jvm.Pilot.@@N@@
namespace Jvm.Pilot.@@N@@
namespace Own
open Jvm Jvm.ClassFile Sem Op Lib Jvm.Free Jvm.Stand Jvm.LawKit Jvm.RoadKit Bundle
/-! Strings -/
theorem neA {a b : Nat} (q : @LT.lt Nat _ a b ∨ @LT.lt Nat _ b a) : a ≠ b := fun e => by subst e; exact q.elim (Nat.lt_irrefl _) (Nat.lt_irrefl _)
abbrev ST : String := "java/lang/String"
def lo8 (x : Int32) : Int32 := x.toInt8.toInt32
def hi8 (x : Int32) : Int32 := lo8 (x >>> ((8 : Int32) &&& 31))
def wide : List Int32 → List Value
  | [] => []
  | c :: cs => .int (lo8 c) :: .int (hi8 c) :: wide cs
def Codes (cs : List Int32) (cd : Int32) (vs : List Value) : Prop :=
  (cd = 0 ∧ vs = cs.map (fun c => Value.int (lo8 c)) ∧ ∀ c ∈ cs, 0 ≤ c.toInt ∧ c.toInt < 256) ∨ (cd = 1 ∧ vs = wide cs ∧ (∀ c ∈ cs, 0 ≤ c.toInt ∧ c.toInt < 65536) ∧ ∃ c ∈ cs, 255 < c.toInt)
/-- at x stands a String that spells cs; it and its bytes lie below N -/
def Str (Z : State) (h : Heap) (N : Nat) (x : Nat) (cs : List Int32) : Prop :=
  Exa Z h x ST ∧ x < N ∧ N ≤ h.size ∧ ∃ (t : Nat) (cd : Int32) (vs : List Value), t < N ∧ Fld Z h x ST "value" "[B" (.ref t) ∧ Fld Z h x ST "coder" "B" (.int cd) ∧ Ary Z h t .byte vs ∧ Codes cs cd vs
theorem exaLt {Z : State} {h : Heap} {x : Nat} {C : String} (E : Exa Z h x C) : x < h.size := E.lt
theorem fldLt {Z : State} {h : Heap} {x : Nat} {C n d : String} {v : Value} (E : Fld Z h x C n d v) : x < h.size := E.lt
theorem Str.keep {Z : State} {h h' : Heap} {N : Nat} {x : Nat} {cs : List Int32} {us : List Addr} (S : Str Z h N x cs) (Kp : Keep h h' us) (q : ∀ w ∈ us, N ≤ w) : Str Z h' N x cs := by
  obtain ⟨E, hx, hN, t, cd, vs, ht, F1, F2, A, c⟩ := S
  have nx : ∀ z, z < N → z ∉ us := fun z hz hm => by have := q z hm; omega
  exact ⟨E.keep Kp, hx, Nat.le_trans hN Kp.1, t, cd, vs, ht, F1.keep Kp (nx x hx), F2.keep Kp (nx x hx), A.keep Kp (nx t ht), c⟩
/-- null, or a box of class K that holds v -/
def Bx (Z : State) (h : Heap) (K d : String) (v : Value) (w : Value) : Prop := w = .null ∨ ∃ a : Nat, w = .ref a ∧ Exa Z h a K ∧ Fld Z h a K "value" d v
theorem Bx.keep {Z : State} {h h' : Heap} {K d : String} {v w : Value} {us : List Addr} (F : Bx Z h K d v w) (Kp : Keep h h' us) (q : ∀ x ∈ us, False) : Bx Z h' K d v w :=
  F.imp id fun ⟨a, e, E, G⟩ => ⟨a, e, E.keep Kp, G.keep Kp fun m => q _ m⟩
theorem Bx.ref {Z : State} {h : Heap} {K d : String} {v w : Value} (F : Bx Z h K d v w) : w.isRef = true := by
  rcases F with rfl | ⟨a, rfl, -⟩ <;> rfl
/-- null, or an object of class K -/
def Ob (Z : State) (h : Heap) (K : String) (w : Value) : Prop := w = .null ∨ ∃ a : Nat, w = .ref a ∧ Exa Z h a K
theorem Ob.keep {Z : State} {h h' : Heap} {K : String} {w : Value} {us : List Addr} (F : Ob Z h K w) (Kp : Keep h h' us) : Ob Z h' K w := F.imp id fun ⟨a, e, E⟩ => ⟨a, e, E.keep Kp⟩
theorem Ob.ref {Z : State} {h : Heap} {K : String} {w : Value} (F : Ob Z h K w) : w.isRef = true := by
  rcases F with rfl | ⟨a, rfl, -⟩ <;> rfl
theorem cat_ref {w : Value} (r : w.isRef = true) : w.category = 1 := by
  rcases ref_cases r with rfl | ⟨a, rfl⟩ <;> rfl
theorem cat_r (a : Addr) : (Value.ref a).category = 1 := rfl
theorem cat_i (x : Int32) : (Value.int x).category = 1 := rfl
theorem cat_l (x : Int64) : (Value.long x).category = 2 := rfl
theorem cat_n : Value.null.category = 1 := rfl
theorem nar_ref {w : Value} {K : String} (r : w.isRef = true) : narrow (.object K) w = w := by
  rcases ref_cases r with rfl | ⟨a, rfl⟩ <;> rfl
theorem fit_ref {w : Value} {K : String} (r : w.isRef = true) : fits (.object K) w = true := by
  rcases ref_cases r with rfl | ⟨a, rfl⟩ <;> rfl
theorem sub_f {args : Array Value} {first s : State} {o : Option Outcome} {idx : List Nat} {a b : Term} {x y : Int32} (ha : a.eval args first o idx s = some (.int x)) (hb : b.eval args first o idx s = some (.int y)) : (Term.sub a b).eval args first o idx s = some (.int (x - y)) := by simp [Term.eval, ha, hb]
/-- a table of boxes that stood at the start -/
theorem bx_start {s : State} {args : Array Value} {t F : Term} {K d : String} {val : Int32 → Value} (et : ∀ idx, t.eval args s none idx s = t.eval args s none [] s) (ha : (Jvm.Cond.arrayOf t (.object K)).before args s = true) (hl : (Jvm.Cond.eq (.length t) (.int 256)).before args s = true)
    (hall : (Jvm.Cond.all t (.and (.exactly (.elem t (.index 0)) K) (.eq (.field (.elem t (.index 0)) K "value" d) F))).before args s = true)
    (hv : ∀ (X : Term) (j : Int32), ¬ j < 0 → (Jvm.Cond.eq X F).value args s none s [j.toNatClampNeg] = some true → X.eval args s none [j.toNatClampNeg] s = some (val j)) : ∃ (a : Nat) (c : Cell), t.eval args s none [] s = some (.ref a) ∧ Bxs s a c K d 256 val := by
  obtain ⟨a, ea⟩ := arr_v (Cond.before_iff.mp ha)
  obtain ⟨c, A⟩ := RoadKit.Arr.start ea (Cond.before_iff.mp ha)
  have el := eqv_i (Term.int_eval (256)) (Cond.before_iff.mp hl)
  have ha' := A.fin (Vm.Alike.refl _)
  by_cases hq : c.slots.size < 2 ^ 31
  · rw [len_f ea ha' hq] at el
    exact ⟨a, c, ea, Bxs.start (fun idx => (et idx).trans ea) A hq (by injection el with el; injection el) (by decide) (Cond.before_iff.mp hall) hv⟩
  · simp [Term.eval, ea, ha', hq] at el
theorem Str.keepO {Z : State} {a0 : Array Value} {h h' : Heap} {N : Nat} {x a k : Nat} {C : String} {cs : List Int32} (S : Str Z h N x cs) (E : Exa Z h a C) (wi : (Jvm.Cond.instantiable C k).before a0 Z = true) (hx : x ≠ a) (Kp : Keep h h' [a]) : Str Z h' N x cs := by
  obtain ⟨Ex, hxN, hN, t, cd, vs, ht, F1, F2, A, c⟩ := S
  have nx : x ∉ [a] := fun q => hx (List.mem_singleton.mp q)
  have nt : t ∉ [a] := fun q => by
    obtain ⟨cc, A1, -⟩ := A
    exact RoadKit.ne_arr E wi A1 (List.mem_singleton.mp q).symm
  exact ⟨Ex.keep Kp, hxN, Nat.le_trans hN Kp.1, t, cd, vs, ht, F1.keep Kp nx, F2.keep Kp nx, A.keep Kp nt, c⟩
theorem Str.exa {Z : State} {h : Heap} {N : Nat} {x : Nat} {cs : List Int32} (S : Str Z h N x cs) : Exa Z h x ST := S.1
theorem Str.lt {Z : State} {h : Heap} {N : Nat} {x : Nat} {cs : List Int32} (S : Str Z h N x cs) : x < N ∧ N ≤ h.size := ⟨S.2.1, S.2.2.1⟩
theorem ord_of {s : State} {args : Array Value} {t : Term} {x : Nat} {C n d : String} {k : Int32} (ev : t.eval args s none [] s = some (.ref x)) (h : (Jvm.Cond.eq (.field t C n d) (.int k)).value args s none s [] = some true) : s.fieldOf? x C n d = some (.int k) := by
  have q := eqv_i (Term.int_eval k) h
  rwa [fld_at ev] at q
/-! numbers -/
theorem and_chr (x : Int32) : 0 ≤ ((x &&& 255).toUInt32.toUInt16.toUInt32.toInt32).toInt ∧ ((x &&& 255).toUInt32.toUInt16.toUInt32.toInt32).toInt < 256 := by
  have q := c_and x 255 (by decide)
  have e : (255 : Int32).toInt = 255 := by decide
  rw [i2c_id (by omega) (by omega)]
  omega
theorem and_pos (x : Int32) : 0 ≤ (x &&& 2147483647).toInt := (c_and x 2147483647 (by decide)).1
theorem rem_pos {x y : Int32} (k : Int) (hx : 0 ≤ x.toInt) (hy : y.toInt = k) (hk : 0 < k) : 0 ≤ (x % y).toInt ∧ (x % y).toInt < k ∧ (x % y).toInt = x.toInt % k := by
  have q := (c_irem x y k hy).1 hx
  have := Int.emod_nonneg x.toInt (show k ≠ 0 by omega)
  have := Int.emod_lt_of_pos x.toInt hk
  omega
theorem Ary.int {Z : State} {h : Heap} {a : Nat} {vs : List Value} {k : Nat} (A : Ary Z h a .byte vs) (hk : k < vs.length) : ∃ x : Int32, vs[k]? = some (.int x) := by
  obtain ⟨c, -, -, -, f⟩ := A
  have q := f vs[k] (List.getElem_mem hk)
  obtain ⟨x, hx⟩ := fit_I q (by simp)
  exact ⟨x, by rw [List.getElem?_eq_getElem hk, hx]⟩
theorem take_eq_succ {α : Type} {vs us : List α} {k : Nat} {x : α} (q : vs.take k = us.take k) (h1 : vs[k]? = some x) (h2 : us[k]? = some x) : vs.take (k + 1) = us.take (k + 1) := by
  rw [List.take_add_one, List.take_add_one, q, h1, h2]
theorem lo8_inj {x y : Int32} (hx : 0 ≤ x.toInt ∧ x.toInt < 256) (hy : 0 ≤ y.toInt ∧ y.toInt < 256) (e : lo8 x = lo8 y) : x = y := by
  have q1 := c_i2b x
  have q2 := c_i2b y
  have e' : x.toInt8.toInt32.toInt = y.toInt8.toInt32.toInt := by rw [show x.toInt8.toInt32 = y.toInt8.toInt32 from e]
  apply Int32.toInt_inj.mp
  omega
theorem map_lo8_inj : ∀ {cs ds : List Int32}, (∀ c ∈ cs, 0 ≤ c.toInt ∧ c.toInt < 256) → (∀ c ∈ ds, 0 ≤ c.toInt ∧ c.toInt < 256) → cs.map (fun c => Value.int (lo8 c)) = ds.map (fun c => Value.int (lo8 c)) → cs = ds
  | [], [], _, _, _ => rfl
  | [], _ :: _, _, _, h => by simp at h
  | _ :: _, [], _, _, h => by simp at h
  | c :: cs, d :: ds, hc, hd, h => by
    simp only [List.map_cons, List.cons.injEq, Value.int.injEq] at h
    rw [lo8_inj (hc c (by simp)) (hd d (by simp)) h.1, map_lo8_inj (fun z hz => hc z (by simp [hz])) (fun z hz => hd z (by simp [hz])) h.2]
/-- all its chars below 256 -/
def Lat (cs : List Int32) : Prop := ∀ c ∈ cs, c.toInt < 256
theorem Codes.lat {cs : List Int32} {cd : Int32} {vs : List Value} (c : Codes cs cd vs) (hl : Lat cs) : cd = 0 ∧ vs = cs.map (fun c => Value.int (lo8 c)) ∧ ∀ c ∈ cs, 0 ≤ c.toInt ∧ c.toInt < 256 := by
  rcases c with c | ⟨-, -, -, c, hc, q⟩
  · exact c
  · have := hl c hc; omega
theorem wide_len (cs : List Int32) : (wide cs).length = 2 * cs.length := by
  induction cs with
  | nil => rfl
  | cons c cs ih => simp [wide, ih]; omega
theorem Codes.cd {cs : List Int32} {cd : Int32} {vs : List Value} (c : Codes cs cd vs) : cd = 0 ∨ cd = 1 := c.imp (·.1) (·.1)
theorem Codes.len {cs : List Int32} {cd : Int32} {vs : List Value} (c : Codes cs cd vs) (hl : vs.length < 2147483648) : (Int32.ofNat vs.length) >>> (cd &&& 31) = Int32.ofNat cs.length := by
  apply Int32.toInt_inj.mp
  have e : (Int32.ofNat vs.length).toInt = vs.length := Int32.toInt_ofNat_small hl
  rcases c with ⟨rfl, rfl, -⟩ | ⟨rfl, rfl, -⟩
  · rw [c_ishr _ 0 0 (by decide), e]
    simp only [List.length_map] at hl ⊢
    rw [Int32.toInt_ofNat_small hl]; simp
  · rw [c_ishr _ 1 1 (by decide), e]
    rw [wide_len] at hl ⊢
    rw [Int32.toInt_ofNat_small (by omega)]; simp
theorem Codes.nil {cs : List Int32} {cd : Int32} {vs : List Value} (c : Codes cs cd vs) : cs = [] ↔ vs.length = 0 := by
  rcases c with ⟨-, rfl, -⟩ | ⟨-, rfl, -⟩
  · simp
  · rw [wide_len, ← List.length_eq_zero_iff]; omega
theorem lcmp_self (x : Int64) : (lcmpW x x).toInt = 0 := (c_lcmp x x).2.1 rfl
theorem shl1 {x : Int32} (h0 : 0 ≤ x.toInt) (h1 : 2 * x.toInt < 2147483648) : (x <<< ((1 : Int32) &&& 31)).toInt = 2 * x.toInt := by
  have q := c_ishl x 1 1 (by decide)
  have r := rng32 (x <<< ((1 : Int32) &&& 31))
  omega
theorem shr0 (x : Int32) : x >>> ((0 : Int32) &&& 31) = x := by
  apply Int32.toInt_inj.mp
  rw [c_ishr x 0 0 (by decide)]; simp
theorem lo8_and (x : Int32) : (lo8 x &&& 255).toInt = x.toInt % 256 := by
  have q := c_i2b x
  have e := c_mask (lo8 x) 255 8 (by decide) (by decide)
  have e2 : (lo8 x).toInt = x.toInt8.toInt32.toInt := rfl
  omega
theorem pair_chr {c : Int32} (h0 : 0 ≤ c.toInt) (h1 : c.toInt < 65536) : (((lo8 c &&& 255) <<< ((0 : Int32) &&& 31)) ||| ((hi8 c &&& 255) <<< ((8 : Int32) &&& 31))).toUInt32.toUInt16.toUInt32.toInt32 = c := by
  have e1 := lo8_and c
  have e2 := lo8_and (c >>> ((8 : Int32) &&& 31))
  have e3 := c_ishr c 8 8 (by decide)
  have e4 := c_ishl (lo8 c &&& 255) 0 0 (by decide)
  have e5 := c_ishl (hi8 c &&& 255) 8 8 (by decide)
  have r4 := rng32 ((lo8 c &&& 255) <<< ((0 : Int32) &&& 31))
  have r5 := rng32 ((hi8 c &&& 255) <<< ((8 : Int32) &&& 31))
  have e6 : (hi8 c &&& 255).toInt = (lo8 (c >>> ((8 : Int32) &&& 31)) &&& 255).toInt := rfl
  have eq : (((lo8 c &&& 255) <<< ((0 : Int32) &&& 31)) ||| ((hi8 c &&& 255) <<< ((8 : Int32) &&& 31))) = c := by
    rw [Int32.or_comm]
    apply Int32.toInt_inj.mp
    have q := c_or ((hi8 c &&& 255) <<< ((8 : Int32) &&& 31)) ((lo8 c &&& 255) <<< ((0 : Int32) &&& 31)) 8 (by decide) 256 (by decide) (by omega) (by omega) (by omega)
    have r := rng32 (((hi8 c &&& 255) <<< ((8 : Int32) &&& 31)) ||| ((lo8 c &&& 255) <<< ((0 : Int32) &&& 31)))
    omega
  rw [eq, i2c_id h0 h1]
theorem wide_get : ∀ {cs : List Int32} {k : Nat} {c : Int32}, cs[k]? = some c → (wide cs)[2 * k]? = some (.int (lo8 c)) ∧ (wide cs)[2 * k + 1]? = some (.int (hi8 c))
  | [], k, c, h => by simp at h
  | d :: cs, 0, c, h => by
    simp at h; subst h; exact ⟨rfl, rfl⟩
  | d :: cs, k + 1, c, h => by
    have q := wide_get (cs := cs) (k := k) (c := c) (by simpa using h)
    have e : 2 * (k + 1) = 2 * k + 1 + 1 := by omega
    rw [e]
    simpa [wide] using q
theorem wide_app (cs ds : List Int32) : wide (cs ++ ds) = wide cs ++ wide ds := by
  induction cs with
  | nil => rfl
  | cons c cs ih => simp [wide, ih]
theorem wide_step {cs : List Int32} {k j : Nat} {c : Int32} (hc : cs[k]? = some c) : ((wide (cs.take k) ++ List.replicate (2 * (j + 1)) (Value.int 0)).set (2 * k) (.int (lo8 c))).set (2 * k + 1) (.int (hi8 c)) = wide (cs.take (k + 1)) ++ List.replicate (2 * j) (.int 0) := by
  have hk : k < cs.length := (List.getElem?_eq_some_iff.mp hc).1
  have e : cs.take (k + 1) = cs.take k ++ [c] := by rw [List.take_add_one, hc]; rfl
  have hl : (wide (cs.take k)).length = 2 * k := by rw [wide_len, List.length_take, Nat.min_eq_left (Nat.le_of_lt hk)]
  rw [e, wide_app, show 2 * (j + 1) = (2 * j + 1) + 1 by omega]
  rw [List.set_append_right _ _ (by omega), hl, List.set_append_right _ _ (by omega), hl]
  simp [List.replicate_succ, wide, show 2 * k + 1 - 2 * k = 1 by omega]
theorem take_all {cs : List Int32} {k : Nat} {c : Int32} {b : Int} (h : ∀ z ∈ cs.take k, z.toInt < b) (hc : cs[k]? = some c) (hb : c.toInt < b) : ∀ z ∈ cs.take (k + 1), z.toInt < b := by
  intro z hz
  rw [List.take_add_one, hc] at hz
  rcases List.mem_append.mp hz with hz | hz
  · exact h z hz
  · cases List.mem_singleton.mp (show z ∈ [c] from hz); exact hb
theorem cfal_eq {cs : List Int32} {cd n : Int32} {vs : List Value} (c : Codes cs cd vs) (hn : n.toInt = cs.length) (h0 : 0 < n.toInt) (hl : vs.length < 2147483648) : (((n - Int32.ofNat vs.length).toUInt32 >>> ((31 : Int32) &&& 31).toUInt32).toInt32).toInt8.toInt32 = cd := by
  have em : (Int32.ofNat vs.length).toInt = vs.length := Int32.toInt_ofNat_small hl
  have e1 := c_isub n (Int32.ofNat vs.length)
  have e2 := c_iushr (n - Int32.ofNat vs.length) 31 31 (by decide) (by decide)
  have r1 := rng32 (n - Int32.ofNat vs.length)
  have e3 := c_i2b ((n - Int32.ofNat vs.length).toUInt32 >>> ((31 : Int32) &&& 31).toUInt32).toInt32
  apply Int32.toInt_inj.mp
  rcases c with ⟨rfl, rfl, -⟩ | ⟨rfl, rfl, -⟩
  · rw [List.length_map] at *
    have k0 : (0 : Int32).toInt = 0 := rfl
    omega
  · rw [wide_len] at *
    have k1 : (1 : Int32).toInt = 1 := rfl
    omega
theorem Codes.wid {cs : List Int32} {cd : Int32} {vs : List Value} (c : Codes cs cd vs) (h : cd = 1) : vs = wide cs ∧ ∀ c ∈ cs, 0 ≤ c.toInt ∧ c.toInt < 65536 := by
  rcases c with c | c
  · rw [c.1] at h; exact absurd h (by decide)
  · exact ⟨c.2.1, c.2.2.1⟩
theorem Codes.lo {cs : List Int32} {cd : Int32} {vs : List Value} (c : Codes cs cd vs) (h : cd = 0) : vs = cs.map (fun c => Value.int (lo8 c)) ∧ ∀ c ∈ cs, 0 ≤ c.toInt ∧ c.toInt < 256 := by
  rcases c with c | c
  · exact ⟨c.2.1, c.2.2⟩
  · rw [c.1] at h; exact absurd h (by decide)
theorem Codes.bnd {cs : List Int32} {cd : Int32} {vs : List Value} (c : Codes cs cd vs) : ∀ c ∈ cs, 0 ≤ c.toInt ∧ c.toInt < 65536 := by
  rcases c with c | c
  · intro z hz
    have := c.2.2 z hz
    omega
  · exact c.2.2.1
theorem sub_int {x y : Int32} (h1 : -2147483648 ≤ x.toInt - y.toInt) (h2 : x.toInt - y.toInt < 2147483648) : (x - y).toInt = x.toInt - y.toInt := by
  have q := c_isub x y
  have r := rng32 (x - y)
  omega
theorem add_int {x y : Int32} (h1 : -2147483648 ≤ x.toInt + y.toInt) (h2 : x.toInt + y.toInt < 2147483648) : (x + y).toInt = x.toInt + y.toInt := by
  have q := c_iadd x y
  have r := rng32 (x + y)
  omega
theorem nchar {x : Int32} (h0 : 0 ≤ x.toInt) (h1 : x.toInt < 65536) : narrow .char (.int x) = .int x := by
  show Value.int (nar .char x) = _
  rw [nar_char h0 h1]
theorem ofNat_int {k : Nat} (h : k < 2147483648) : (Int32.ofNat k).toInt = k := Int32.toInt_ofNat_small h
theorem ofNat_succ (k : Nat) : Int32.ofNat k + (1 : Int32) = Int32.ofNat (k + 1) := by
  rw [show (1 : Int32) = Int32.ofNat 1 from rfl, ← Int32.ofNat_add]
theorem lo8_lo8 (x : Int32) : x.toInt8.toInt32.toInt8.toInt32 = lo8 x := by
  show (x.toInt8.toInt32.toInt8).toInt32 = x.toInt8.toInt32
  rw [Int8.toInt8_toInt32]
theorem fill_step {α β : Type} (f : α → β) (z : β) {cs : List α} {k j : Nat} {c : α} (hc : cs[k]? = some c) : ((cs.take k).map f ++ List.replicate (j + 1) z).set k (f c) = (cs.take (k + 1)).map f ++ List.replicate j z := by
  have hk : k < cs.length := (List.getElem?_eq_some_iff.mp hc).1
  have e : cs.take (k + 1) = cs.take k ++ [c] := by rw [List.take_add_one, hc]; rfl
  rw [e, List.map_append, List.set_append_right _ _ (by simp; omega)]
  simp [List.replicate_succ, Nat.min_eq_left (Nat.le_of_lt hk)]
/-! surrogates -/
abbrev Hi (c : Int32) : Prop := 55296 ≤ c.toInt ∧ c.toInt ≤ 56319
abbrev Lo (c : Int32) : Prop := 56320 ≤ c.toInt ∧ c.toInt ≤ 57343
/-- how many neighbours are a surrogate pair -/
def prs : List Int32 → Nat
  | [] => 0
  | [_] => 0
  | a :: b :: r => (if Hi a ∧ Lo b then 1 else 0) + prs (b :: r)
theorem prs_le : ∀ cs : List Int32, prs cs ≤ cs.length
  | [] => Nat.le_refl _
  | [_] => Nat.zero_le _
  | a :: b :: r => by
    have := prs_le (b :: r)
    simp only [prs, List.length_cons] at *
    split <;> omega
theorem prs_skip {b : Int32} (r : List Int32) (hb : ¬ Hi b) : prs (b :: r) = prs r := by
  cases r with
  | nil => rfl
  | cons c r => simp only [prs]; rw [if_neg (fun q => hb q.1)]; omega
theorem prs_drop_last {cs : List Int32} {k : Nat} (h : cs.length ≤ k + 1) : prs (cs.drop k) = 0 := by
  have hl : (cs.drop k).length ≤ 1 := by simp; omega
  match hd : cs.drop k, hl with
  | [], _ => rfl
  | [_], _ => rfl
theorem drop_two {cs : List Int32} {k : Nat} {c d : Int32} (hc : cs[k]? = some c) (hd : cs[k + 1]? = some d) : cs.drop k = c :: d :: cs.drop (k + 2) := by
  obtain ⟨h1, rfl⟩ := List.getElem?_eq_some_iff.mp hc
  obtain ⟨h2, rfl⟩ := List.getElem?_eq_some_iff.mp hd
  rw [List.drop_eq_getElem_cons h1, List.drop_eq_getElem_cons h2]
theorem prs_no {cs : List Int32} {k : Nat} {c d : Int32} (hc : cs[k]? = some c) (hd : cs[k + 1]? = some d) (hn : ¬ (Hi c ∧ Lo d)) : prs (cs.drop k) = prs (cs.drop (k + 1)) := by
  have e2 : cs.drop (k + 1) = d :: cs.drop (k + 2) := by
    obtain ⟨h2, rfl⟩ := List.getElem?_eq_some_iff.mp hd
    rw [List.drop_eq_getElem_cons h2]
  rw [drop_two hc hd, e2]
  simp only [prs]
  rw [if_neg hn]; omega
theorem prs_yes {cs : List Int32} {k : Nat} {c d : Int32} (hc : cs[k]? = some c) (hd : cs[k + 1]? = some d) (hn : Hi c ∧ Lo d) : prs (cs.drop k) = 1 + prs (cs.drop (k + 2)) := by
  rw [drop_two hc hd]
  simp only [prs]
  rw [if_pos hn, prs_skip _ (fun q => by have := hn.2; omega)]
theorem prs_lat {cs : List Int32} (h : ∀ c ∈ cs, c.toInt < 256) : prs cs = 0 := by
  induction cs with
  | nil => rfl
  | cons a r ih => rw [prs_skip r (fun q => by have := h a (by simp); omega)]; exact ih fun c hc => h c (by simp [hc])
end Own
end Jvm.Pilot.@@N@@
namespace Jvm.Pilot.@@N@@
namespace Own
open Jvm Jvm.ClassFile Sem Op Lib Bundle Jvm.Stand Jvm.Free Jvm.LawKit Jvm.RoadKit Jvm.Free.SB Jvm.Free.SBG
/-! ldc_w of a String constant, as the library's law of ldc has it -/
section LdcW
variable {p : Program} {l : Launch} {e : Env} {R : Room} {s : State} {m : MethodId} {args : Array Value} {below : List Frame} {meth : Method} {c : Code} {T : State} {locs : List Loc} {cells slots : Nat}
/-- the tables behind a new String under these units -/
abbrev wVm (T : State) (cl : ClassId) (ix : Nat) (us : Array UInt16) : Vm := ({ T.vm with interned := T.vm.interned.push (us, T.heap.size + 1) } : Vm).noted cl ix (.string (T.heap.size + 1))
set_option maxHeartbeats 1000000 in
theorem ldcWN (X : Stand p l e R s m args below meth c T locs cells slots) (hx : p.tables.exec = Jvm.exec) {own text : String} {ix : Nat} (hown : s.vm.findClass own = some m.cls) (w : (Jvm.Cond.stringLink own ix text).before args s = true) (wS : ∀ a ∈ Bundle.stringAtoms, a.before args s = true)
    {g : JFrame} (hg : g.method = m) (hd : decode c.code g.pc = .ok (.ldc_w ix, 3)) {n : Nat} (hn : 4 * text.toList.length ≤ n) (hbig : n ≤ 536870912) (hc : cells + 2 ≤ R.cells) (hl : slots + (n + 4) ≤ R.slots) :
    ∃ (a : Addr) (T₂ : State), Stand p l e R (s.setVm T₂.vm) m args below meth c T₂ locs (cells + 2) (slots + (n + 4)) ∧ s.Since T₂.vm T₂.heap.size ∧ (∃ k₂, T₂.vm.classes[m.cls]? = some k₂ ∧ k₂.resolved[ix]? = some (some (.string a))) ∧ (∀ b, b < T.heap.size → T₂.heap[b]? = T.heap[b]?) ∧
      T.Warmed39 T₂.vm ∧ (T₂.vm.interned = T.vm.interned ∨ ∃ us : Array UInt16, utf16ToString? us = some text ∧ T₂.vm.interned = T.vm.interned.push (us, a) ∧ T.vm.interned.find? (fun p => p.1 == us) = none ∧ (us.all (· < 256) = true → SlIn 0 T.heap.size T₂ a us)) ∧
      ∀ target, Steps p.tables e below (T₂.setTop { g with pc := g.pc + 3, stack := .ref a :: g.stack }) target → Steps p.tables e below (T.setTop g) target := by
  obtain ⟨k, cf, i, us, hk, hcf, hp, hu, hnm, htx, hres⟩ := Cond.stringLink_spec hown w
  obtain ⟨k', hk', ek⟩ := X.warmed.alike.2.2 _ _ hk
  have hcf' : k'.cf = some cf := by rw [ek]; exact hcf
  have hby : (stringBytes us).size ≤ n := Nat.le_trans (text_bytes_le htx) hn
  have state : (k'.resolved[ix]? = some none ∧ k.resolved[ix]? = some none) ∨ ∃ a, k'.resolved[ix]? = some (some (.string a)) := by
    rcases X.warmed.wide.entry hk hk' ix with e0 | ⟨-, r, e1, hr | ⟨a, t, rfl, -⟩⟩
    · exact hres.imp (fun h0 => ⟨e0.trans h0, h0⟩) fun ⟨a, h0⟩ => ⟨a, e0.trans h0⟩
    · exfalso
      cases r <;> simp [State.rightAt, hk, hcf, hnm] at hr
    · exact Or.inr ⟨a, e1⟩
  subst hg
  rcases state with ⟨op', op⟩ | ⟨a, hr⟩
  · have q2 : k.cf.bind (namesOf? ·.constantPool ix) = some (.string text) := by rw [hcf]; exact hnm
    have q3 : k.cf.bind (·.constantPool[ix]?) = some (.string i) := by rw [hcf]; exact hp
    have q4 : k.cf.bind (·.constantPool.utf8? i) = some us := by rw [hcf]; simp [ConstantPool.utf8?, hu]
    have r2 : k'.cf.bind (namesOf? ·.constantPool ix) = some (.string text) := by rw [hcf']; exact hnm
    have r3 : k'.cf.bind (·.constantPool[ix]?) = some (.string i) := by rw [hcf']; exact hp
    have r4 : k'.cf.bind (·.constantPool.utf8? i) = some us := by rw [hcf']; simp [ConstantPool.utf8?, hu]
    cases hf : T.vm.interned.find? (fun p => p.1 == us) with
    | some pr =>
      obtain ⟨us', a⟩ := pr
      obtain rfl : us' = us := by simpa using Array.find?_some hf
      have hW : s.Warmed39 (T.vm.noted g.method.cls ix (.string a)) := X.warmed.wide.notedString hk (Or.inl op) q2 q3 q4 hf
      refine ⟨a, T.setVm (T.vm.noted g.method.cls ix (.string a)), (X.mono (by omega) (by omega)).retabled hW, ⟨hW, State.Booked.step (T₂ := T.setVm (T.vm.noted g.method.cls ix (.string a))) (X.warmed.no_new_pair _) X.same.2.1 ⟨Nat.le_refl _, Or.inl rfl⟩⟩, ⟨_, Vm.classes_note_self ix (.string a) hk', Class.resolved_note_self (.string a) op'⟩, fun _ _ => rfl, (State.Warmed39.refl T).notedString hk' (Or.inl op') r2 r3 r4 hf, Or.inl rfl, fun target go => ?_⟩
      jvm_step X.here [hx, hd, ldc_w.wp_string_found (e := e) (s := T) (f := g) X.here.top hk' hcf' hp hu op' hf]
      exact go
    | none =>
      obtain ⟨Zs, LZ, n4, fv, fc⟩ := StringT.of_atoms (args := args) wS
      obtain ⟨kS, kB, LZ', tyS⟩ := LZ.warmer X.warmed.alike
      have fs : T.fitsSlot = s.fitsSlot := (show T.fitsSlot = (s.setVm T.vm).fitsSlot from rfl).trans (State.fitsSlot_setVm X.warmed.alike)
      have pu : ({ T.vm with interned := T.vm.interned.push (us, T.heap.size + 1) } : Vm).interned.find? (fun p => p.1 == us) = some (us, T.heap.size + 1) := by
        show (T.vm.interned.push (us, T.heap.size + 1)).find? _ = _
        rw [Array.find?_push, hf]; simp
      have hW : s.Warmed39 (wVm T g.method.cls ix us) := (X.warmed.wide.interns us (T.heap.size + 1)).notedString hk (Or.inl op) q2 q3 q4 pu
      have X2 := (X.pushed (bytesOf Zs.cB us)).pushed (stringAt Zs.cS kS Zs.fv Zs.fc us T.heap.size)
      rw [← withString_eq] at X2
      have hp1 : (withString T Zs.cB Zs.cS kS Zs.fv Zs.fc us).heap = (T.heap.push (bytesOf Zs.cB us)).push (stringAt Zs.cS kS Zs.fv Zs.fc us T.heap.size) := by rw [withString_eq]; rfl
      have sz : (withString T Zs.cB Zs.cS kS Zs.fv Zs.fc us).heap.size = T.heap.size + 2 := by rw [hp1]; simp
      have at0 : ((withString T Zs.cB Zs.cS kS Zs.fv Zs.fc us).setVm (wVm T g.method.cls ix us)).heap[T.heap.size]? = some (bytesOf Zs.cB us) := by
        show (withString T Zs.cB Zs.cS kS Zs.fv Zs.fc us).heap[T.heap.size]? = _
        rw [hp1, Array.getElem?_push, if_neg (by rw [Array.size_push]; omega), Array.getElem?_push, if_pos rfl]
      have at1 : ((withString T Zs.cB Zs.cS kS Zs.fv Zs.fc us).setVm (wVm T g.method.cls ix us)).heap[T.heap.size + 1]? = some (stringAt Zs.cS kS Zs.fv Zs.fc us T.heap.size) := by
        show (withString T Zs.cB Zs.cS kS Zs.fv Zs.fc us).heap[T.heap.size + 1]? = _
        rw [hp1, Array.getElem?_push, if_pos (by rw [Array.size_push])]
      have old : ∀ b, b < T.heap.size → ((withString T Zs.cB Zs.cS kS Zs.fv Zs.fc us).setVm (wVm T g.method.cls ix us)).heap[b]? = T.heap[b]? := fun b hb => by
        show (withString T Zs.cB Zs.cS kS Zs.fv Zs.fc us).heap[b]? = _
        rw [hp1, Array.getElem?_push, if_neg (by rw [Array.size_push]; omega), Array.getElem?_push, if_neg (by omega)]
      have one : T.Interned1 ((withString T Zs.cB Zs.cS kS Zs.fv Zs.fc us).setVm (wVm T g.method.cls ix us)) :=
        ⟨by show T.heap.size ≤ (withString T Zs.cB Zs.cS kS Zs.fv Zs.fc us).heap.size; omega, Or.inr ⟨us, T.heap.size + 1, rfl, by omega, by show T.heap.size + 1 < (withString T Zs.cB Zs.cS kS Zs.fv Zs.fc us).heap.size; omega⟩⟩
      have b1 : (bytesOf Zs.cB us).slots.size = (stringBytes us).size := by
        rw [(Cell.writeAll_facts _ _).2.2]; simp [bytes0]
      have b2 : (stringAt Zs.cS kS Zs.fv Zs.fc us T.heap.size).slots.size = 4 := by simp [string0, Cell.setSlot, tyS, n4]
      refine ⟨T.heap.size + 1, (withString T Zs.cB Zs.cS kS Zs.fv Zs.fc us).setVm (wVm T g.method.cls ix us), (X2.mono (by omega) (by rw [b1, b2]; omega)).retabled hW, ⟨hW, State.Booked.step (X.warmed.no_new_pair _) X.same.2.1 one⟩,
        ⟨_, Vm.classes_note_self (vm := { T.vm with interned := T.vm.interned.push (us, T.heap.size + 1) }) ix (.string (T.heap.size + 1)) hk', Class.resolved_note_self (.string (T.heap.size + 1)) op'⟩, old, ((State.Warmed39.refl T).interns us (T.heap.size + 1)).notedString hk' (Or.inl op') r2 r3 r4 pu,
        Or.inr ⟨us, htx, rfl, hf, fun lat => made_sl wS LZ n4 tyS hW.alike at0 at1 lat (by omega) 0⟩, fun target go => ?_⟩
      refine Steps.instr (c := _) (by simpa using X.here) ?_
      simp [jvm, wpRun, exec, X.here.top, hx, hd]
      refine ldc_w.wp_string_new (e := e) (s := T) (f := g) X.here.top hk' hcf' hp hu op' hf LZ'.found LZ'.cls LZ'.initialized LZ'.ordinary LZ'.foundB LZ'.clsB LZ'.kindB LZ'.value LZ'.coder ?_ ?_ (X.cellsAbove hc) ?_
        (stringBytes_fit LZ'.clsB LZ'.kindB us) LZ'.valueSlot LZ'.coderSlot (by rw [fs]; exact fv _) (by rw [fs]; exact fc _) (fun d' acts' => ?_)
      · rw [Launch.admits_arrayLengthLimit X.admits]; omega
      · rw [Launch.admits_maxHeapBytes X.admits]; simp only [componentBytes]; omega
      · have := X.slotsAbove hl
        show T.slotsUsed + (stringBytes us).size + kS.instanceTypes.size ≤ _
        rw [tyS, n4]; omega
      · intro acts''
        have t1 : (withString T Zs.cB Zs.cS kS Zs.fv Zs.fc us).topJava?.isSome := by simpa [withString] using X.here.top
        have t2 : ((withString T Zs.cB Zs.cS kS Zs.fv Zs.fc us).setVm (wVm T g.method.cls ix us)).topJava?.isSome := by simpa using t1
        simp [jvm, afterInstr, t1, t2]
        rw [State.modifyTopJava_setTop]
        exact go
  · refine ⟨a, T, (X.mono (by omega) (by omega)).retabled X.warmed.wide, X.warmed.since _, ⟨k', hk', hr⟩, fun _ _ => rfl, State.Warmed39.refl T, Or.inl rfl, fun target go => ?_⟩
    jvm_step X.here [hx, hd, ldc_w.wp_string (e := e) (s := T) (f := g) X.here.top hk' hcf' hp hr]
    exact go
variable {Z : State} {a0 : Array Value} {EL : List (String × Nat)} {h : Heap} {vm0 : Vm} {own text : String} {ix : Nat}
theorem ldcWO (X : Stand p l e R (s.setVm vm0) m args below meth c T locs cells slots) (hx : p.tables.exec = Jvm.exec) (hZ : Z.Warmed39 vm0) (hown : vm0.findClass own = some m.cls) (w : (Jvm.Cond.stringLink own ix text).before a0 Z = true) (wS : ∀ a ∈ Bundle.stringAtoms, a.before a0 Z = true)
    (eT : T.heap = h) {k0 : Nat} (hS : s.Since vm0 k0) (hk : k0 ≤ h.size) (hEL : EW Z a0 EL) (H : CHv Z EL vm0 h) {g : JFrame} (hg : g.method = m) (hd : decode c.code g.pc = .ok (.ldc_w ix, 3)) {n : Nat} (hn : 4 * text.toList.length ≤ n) (hbig : n ≤ 536870912) (hc : cells + 2 ≤ R.cells) (hl : slots + (n + 4) ≤ R.slots) :
    ∃ (a : Addr) (T' : State) (h' : Heap) (k1 : Nat), Stand p l e R (s.setVm T'.vm) m args below meth c T' locs (cells + 2) (slots + (n + 4)) ∧ T'.heap = h' ∧ Ext h h' ∧ s.Since T'.vm k1 ∧ k1 ≤ h'.size ∧ Z.Warmed39 T'.vm ∧ T'.vm.findClass own = some m.cls ∧ CHr Z EL vm0 h T'.vm h' ∧ (∃ k₂, T'.vm.classes[m.cls]? = some k₂ ∧ k₂.resolved[ix]? = some (some (.string a))) ∧
      ∀ target, Steps p.tables e below (T'.setTop { g with pc := g.pc + 3, stack := .ref a :: g.stack }) target → Steps p.tables e below (T.setTop g) target := by
  obtain ⟨a, T', X', hS', hr, hb, hTW, hint, st⟩ := ldcWN X hx (own := own) hown (mvS hZ w) (fun d hd => by
    have q := wS d hd
    simp only [Bundle.stringAtoms, List.mem_cons, List.not_mem_nil, or_false] at hd
    rcases hd with rfl | rfl | rfl | rfl | rfl | rfl | rfl
    · exact mv (s := s.setVm vm0) hZ q
    · exact mv (s := s.setVm vm0) hZ q
    · exact mvA (s := s.setVm vm0) hZ q
    · exact mv (s := s.setVm vm0) hZ q
    · exact mv (s := s.setVm vm0) hZ q
    · exact mv (s := s.setVm vm0) hZ q
    · exact mv (s := s.setVm vm0) hZ q) hg hd hn hbig hc hl
  subst eT
  have E := ext_of hb
  have A := CHv.at X hZ hEL H
  have B := CHv.later (vm := T.vm) (vm1 := T'.vm) (wtrans (s := s.setVm vm0) hZ X.warmed) (show (Wst Z T.vm T.heap).Warmed39 T'.vm from hTW) hEL E (hint.imp id fun ⟨us, _, e1, e2, e3⟩ => ⟨us, a, e1, e2, fun lat => by
    obtain ⟨q, cS, hq, r1, r2, r3, r4, r5⟩ := e3 lat
    have F : SlB T' q us := ⟨cS, r1, r2, r3, r4⟩
    refine ⟨q, hq, F.carry (V := Wst Z T'.vm T'.heap) (Vm.Alike.refl _) F.ha F.hd, ?_⟩
    rcases r5 with ⟨z, -⟩ | z
    · exact absurd z (Nat.not_lt_zero _)
    · exact z⟩) A.1
  exact ⟨a, T', _, _, X', rfl, E, hS.trans hS' (Nat.le_trans hk E.1), Nat.le_refl _, State.Warmed39.trans (t := s.setVm vm0) hZ hS'.1, by rw [hS'.1.alike.findClass]; exact hown, A.trans ⟨B.1, E.1, B.2⟩, hr, st⟩
/-- what the invariant says of a constant that is resolved -/
theorem heldAt {vm : Vm} {cl : ClassId} {k2 : Class} {a : Addr} {vs : List Value} (hW : Z.Warmed39 vm) (H : CHv Z EL vm h) (hmem : (own, ix) ∈ EL) (w : (Jvm.Cond.stringLink own ix text).before a0 Z = true) (hf : vm.findClass own = some cl) (hk2 : vm.classes[cl]? = some k2) (hres : k2.resolved[ix]? = some (some (.string a)))
    (ht : (∀ c ∈ text.toList, c.toNat < 256) ∧ text.toList.map (fun c => Value.int (Jvm.Lit.byteI c.toNat.toUInt16)) = vs) :
    ∃ b : Nat, Exa Z h a "java/lang/String" ∧ Fld Z h a "java/lang/String" "coder" "B" (.int 0) ∧ Fld Z h a "java/lang/String" "value" "[B" (.ref b) ∧ Ary Z h b .byte vs ∧ a < h.size ∧ b < h.size ∧ ∀ x, Safe Z EL vm h x → x ≠ a ∧ x ≠ b := by
  have hal := hW.alike
  obtain ⟨k0, cf, i, us, hkx, hcf, hp, hu, -, htx, -⟩ := Cond.stringLink_spec (args := a0) (s := Wst Z vm h) hf (mvS (args := a0) (s := { Z with heap := h }) hW w)
  cases (show vm.classes[cl]? = some k0 from hkx).symm.trans hk2
  have hB : Booksv vm own ix us a := ⟨cl, _, cf, i, hf, hkx, hcf, hp, hu, Or.inl hres⟩
  obtain ⟨q, rfl, F⟩ := SlB.of (H _ hmem us a hB)
  have hne : ∀ x, Safe Z EL vm h x → x ≠ q.sa ∧ x ≠ q.sd := fun x S => ⟨fun e1 => S ⟨_, hmem, us, _, hB, q, rfl, F, Or.inl e1⟩, fun e1 => S ⟨_, hmem, us, _, hB, q, rfl, F, Or.inr e1⟩⟩
  obtain ⟨cS, ⟨⟨s1, s2, s3, ⟨cv, kv, iv, s4, s4'⟩, ⟨cc, kc, ic, s5, s5'⟩, s6, s7, s8, s9, s10, s11, s12, s13, s14, s15, s16⟩, hfS, hcS⟩, ⟨kS, k1, -, k3⟩, hBc, hby⟩ := F
  have hfS : vm.findClass "java/lang/String" = some cS := hfS
  have hBc : vm.findClass "[B" = some q.SA.cls := hBc
  have k1 : vm.classes[cS]? = some kS := k1
  obtain ⟨kv', z4⟩ := ff_back (U := Wst Z vm h) hal s4
  obtain ⟨kc', z5⟩ := ff_back (U := Wst Z vm h) hal s5
  have fZ : Z.vm.findClass "java/lang/String" = some q.sC.cls := by rw [← hal.findClass, hcS]; exact hfS
  obtain ⟨kz, hkz, -⟩ := Vm.findClass_spec fZ
  obtain ⟨kz', hkz', ekz⟩ := hal.2.2 _ _ hkz
  have eS : kz' = kS := Option.some.inj (hkz'.symm.trans (hcS ▸ k1))
  have bZ : Z.vm.findClass "[B" = some q.SA.cls := by rw [← hal.findClass]; exact hBc
  obtain ⟨kb, hkb, -⟩ := Vm.findClass_spec bZ
  obtain ⟨kb', hkb', ekb⟩ := hal.2.2 _ _ hkb
  obtain ⟨hst, k9, hk9, comp, kd9⟩ := s11
  have e9 : k9 = kb' := Option.some.inj ((show vm.classes[q.SA.cls]? = some k9 from hk9).symm.trans hkb')
  have aZ : Z.isArrayOf q.SA .byte := ⟨hst, kb, hkb, comp, by rw [e9, ekb] at kd9; exact kd9⟩
  have eu : vs = us.toList.map fun u => Value.int (Jvm.Lit.byteI u) := by rw [← ht.2, Jvm.ClassFile.units_of_text htx ht.1, List.map_map]; rfl
  have hsl : q.SA.slots = us.map fun u => Value.int (Jvm.Lit.byteI u) := by rw [hby, SBG.stringBytes_lat (Jvm.ClassFile.lat_of_text htx ht.1)]; rfl
  have hls : q.SA.slots.toList = vs := by rw [hsl, eu]; simp
  have hlen : vs.length = q.SA.slots.size := by rw [← hls]; simp
  refine ⟨q.sd, ⟨q.sC, kz, s1, fZ, hkz, s3, fun _ => by rw [k3, ← eS, ekz]⟩, ⟨q.sC, cc, kc', ic, q.fSC, s1, z5, s7, s2, s3, by rw [← hal.assignable]; exact s5', s9⟩, ⟨q.sC, cv, kv', iv, q.fSV, s1, z4, s6, s2, s3, by rw [← hal.assignable]; exact s4', s8⟩,
    ⟨q.SA, ⟨s10, aZ, s12⟩, hls, ?_, fun v hv => ?_⟩, (Array.getElem?_eq_some_iff.mp s1).1, (Array.getElem?_eq_some_iff.mp s10).1, hne⟩
  · rw [hlen, s13]; exact s14
  · rw [← hls] at hv
    obtain ⟨j, hj, e1⟩ := List.getElem_of_mem hv
    have hj' : j < q.SA.slots.size := by simpa using hj
    have e2 := s16 j hj'
    rw [Array.getD_eq_getD_getElem?, Array.getElem?_eq_getElem hj'] at e2
    have e3 : q.SA.slots[j] = v := by rw [← e1]; simp
    rw [← e3]; exact e2
end LdcW
section RuleW
variable {l : Launch} {Z : State} {a0 : Array Value} {EL : List (String × Nat)} {it : Prop} {n0 : Nat} {own : String} {h0 : Heap} {ws0 : List Addr} {Q : Option Value → Heap → Prop} {code : ByteArray} {maxL : Nat} {ret : Option FieldType} {nm : String} {rm : Room} {K : Ctx} {h : Heap} {ws : List Addr} {cells slots pc : Nat} {Ls : Array Slot} {st : List Value}
theorem Ok.ldcwC (C : Ok l Z a0 EL it n0 own h0 ws0 Q code maxL ret nm rm K) (hit : it) {text : String} {index : Nat} {vs : List Value} (n : Nat) (w : (Jvm.Cond.stringLink own index text).before a0 Z = true) (wS : ∀ a ∈ Bundle.stringAtoms, a.before a0 Z = true) (hmem : (own, index) ∈ EL)
    (ht : (∀ c ∈ text.toList, c.toNat < 256) ∧ text.toList.map (fun c => Value.int (Jvm.Lit.byteI c.toNat.toUInt16)) = vs) (hn : 4 * text.toList.length ≤ n) (hbig : n ≤ 536870912) (hd : decode code pc = .ok (.ldc_w index, 3)) (hc : cells + 2 ≤ rm.cells) (hl' : slots + (n + 4) ≤ rm.slots)
    (r : ∀ (h' : Heap) (a b : Nat), h.size ≤ h'.size → Keep h h' [] → a < h'.size → b < h'.size → (∀ x ∈ ws, @Ne Nat x a ∧ @Ne Nat x b) → Exa Z h' a "java/lang/String" → Fld Z h' a "java/lang/String" "coder" "B" (.int 0) → Fld Z h' a "java/lang/String" "value" "[B" (.ref b) → Ary Z h' b .byte vs → WP l Z EL it n0 own h0 ws0 Q K h' ws (cells + 2) (slots + (n + 4)) (mkF K.m (pc + 3) Ls (.ref a :: st))) :
    WP l Z EL it n0 own h0 ws0 Q K h ws cells slots (mkF K.m pc Ls st) := by
  intro vm T locs P
  obtain ⟨X, eT, ⟨k, hS, hk⟩, hZ, hown, H, N, Kp, O, Ow⟩ := P
  obtain ⟨a, T', h', k1, X', e', E, hS', hk', hZ', hown', hC, ⟨k2, hk2, hr⟩, go⟩ := ldcWO X C.exec hZ hown w wS eT hS hk C.ew H.1 (g := mkF K.m pc Ls st) rfl (hb C.bytes hd) hn hbig (by rw [C.room]; exact hc) (by rw [C.room]; exact hl')
  obtain ⟨b, F1, F2, F3, F4, la, lb, hne⟩ := heldAt hZ' hC.1 hmem w hown' hk2 hr ht
  have Sf : ∀ x ∈ ws, Safe Z EL T'.vm h' x := fun x hx => hC.safe (Ow x hx).2.1 (Ow x hx).2.2.1
  exact Goes.of go (r h' a b E.1 (keep_ext E) la lb (fun x hx => hne x (Sf x hx)) F1 F2 F3 F4 T'.vm T' locs ⟨X', e', ⟨k1, hS', hk'⟩, hZ', hown', H.trans (CHx.of hit hC), N, Kp.ext E, O.ext E, fun x hx => ⟨(Ow x hx).1, Nat.lt_of_lt_of_le (Ow x hx).2.1 E.1, Sf x hx, (Ow x hx).2.2.2⟩⟩)
end RuleW
end Own
end Jvm.Pilot.@@N@@
namespace Jvm.Pilot.@@N@@
open Jvm Jvm.ClassFile Sem Op Lib Jvm.Free Jvm.Stand Jvm.LawKit Jvm.RoadKit Bundle Jvm.Pilot.@@N@@.Jvm.D Jvm.Pilot.@@N@@.Own
abbrev EL : List (String × Nat) := [("java/lang/StringLatin1", 151), ("java/lang/StringUTF16", 295)]
def Base (Z : State) (a0 : Array Value)  : Prop := (∀ d ∈ tables_1, d.before a0 Z = true) ∧ (∃ zc : Int32, Sta Z Z.heap "java/lang/String" "COMPACT_STRINGS" "Z" (.int zc) ∧ ¬ zc = 0) ∧ (∃ fm : Value, Sta Z Z.heap "jdk/internal/util/Preconditions" "SIOOBE_FORMATTER" "Ljava/util/function/BiFunction;" fm ∧ fm.isRef = true) ∧ Sta Z Z.heap "java/lang/StringUTF16" "$assertionsDisabled" "Z" (.int 1) ∧ Sta Z Z.heap "java/lang/StringUTF16" "HI_BYTE_SHIFT" "I" (.int 0) ∧ Sta Z Z.heap "java/lang/StringUTF16" "LO_BYTE_SHIFT" "I" (.int 8)
variable {l : Launch} {Z : State} {a0 : Array Value} {it : Prop} {n0 : Nat}
theorem ew  (B : Base Z a0) : EW Z a0 EL := EW.cons (text := "") (B.1 _ (List.mem_of_getElem? (i := 218) rfl)) (by decide) (EW.cons (text := "") (B.1 _ (List.mem_of_getElem? (i := 221) rfl)) (by decide) (EW.nil))
theorem sA_mem : ∀ d ∈ Bundle.stringAtoms, d ∈ tables_1 := by decide +kernel
theorem sA  (B : Base Z a0) : ∀ d ∈ Bundle.stringAtoms, d.before a0 Z = true := fun d hd => B.1 d (sA_mem d hd)
theorem d0_0 : decode jdk_30_method_1_code 0 = .ok (.aload_n 0, 1) := by decide +kernel
theorem d0_1 : decode jdk_30_method_1_code 1 = .ok (.invokespecial 1, 3) := by decide +kernel
theorem d0_4 : decode jdk_30_method_1_code 4 = .ok (.return_, 1) := by decide +kernel
theorem pn_java_lang_Record : plainName "java/lang/Record" = true := by first | (simp [plainName, overriddenIn]; done) | decide +kernel
theorem d1_0 : decode jdk_52_method_15_code 0 = .ok (.iload_n 1, 1) := by decide +kernel
theorem d1_1 : decode jdk_52_method_15_code 1 = .ok (.aload_n 0, 1) := by decide +kernel
theorem d1_2 : decode jdk_52_method_15_code 2 = .ok (.arraylength, 1) := by decide +kernel
theorem d1_3 : decode jdk_52_method_15_code 3 = .ok (.isub, 1) := by decide +kernel
theorem d1_4 : decode jdk_52_method_15_code 4 = .ok (.bipush 31, 2) := by decide +kernel
theorem d1_6 : decode jdk_52_method_15_code 6 = .ok (.iushr, 1) := by decide +kernel
theorem d1_7 : decode jdk_52_method_15_code 7 = .ok (.i2b, 1) := by decide +kernel
theorem d1_8 : decode jdk_52_method_15_code 8 = .ok (.ireturn, 1) := by decide +kernel
theorem pn_java_lang_StringUTF16 : plainName "java/lang/StringUTF16" = true := by first | (simp [plainName, overriddenIn]; done) | decide +kernel
theorem d2_0 : decode jdk_52_method_21_code 0 = .ok (.iconst 0, 1) := by decide +kernel
theorem d2_1 : decode jdk_52_method_21_code 1 = .ok (.istore 5, 2) := by decide +kernel
theorem d2_3 : decode jdk_52_method_21_code 3 = .ok (.iload 5, 2) := by decide +kernel
theorem d2_5 : decode jdk_52_method_21_code 5 = .ok (.iload 4, 2) := by decide +kernel
theorem d2_7 : decode jdk_52_method_21_code 7 = .ok (.if_icmp .ge 37, 3) := by decide +kernel
theorem d2_44 : decode jdk_52_method_21_code 44 = .ok (.iload 4, 2) := by decide +kernel
theorem d2_46 : decode jdk_52_method_21_code 46 = .ok (.ireturn, 1) := by decide +kernel
theorem d2_10 : decode jdk_52_method_21_code 10 = .ok (.aload_n 0, 1) := by decide +kernel
theorem d2_11 : decode jdk_52_method_21_code 11 = .ok (.iload_n 1, 1) := by decide +kernel
theorem d2_12 : decode jdk_52_method_21_code 12 = .ok (.caload, 1) := by decide +kernel
theorem d2_13 : decode jdk_52_method_21_code 13 = .ok (.istore 6, 2) := by decide +kernel
theorem d2_15 : decode jdk_52_method_21_code 15 = .ok (.iload 6, 2) := by decide +kernel
theorem d2_17 : decode jdk_52_method_21_code 17 = .ok (.sipush 255, 3) := by decide +kernel
theorem d2_20 : decode jdk_52_method_21_code 20 = .ok (.if_icmp .le 6, 3) := by decide +kernel
theorem d2_26 : decode jdk_52_method_21_code 26 = .ok (.aload_n 2, 1) := by decide +kernel
theorem d2_27 : decode jdk_52_method_21_code 27 = .ok (.iload_n 3, 1) := by decide +kernel
theorem d2_28 : decode jdk_52_method_21_code 28 = .ok (.iload 6, 2) := by decide +kernel
theorem d2_30 : decode jdk_52_method_21_code 30 = .ok (.i2b, 1) := by decide +kernel
theorem d2_31 : decode jdk_52_method_21_code 31 = .ok (.bastore, 1) := by decide +kernel
theorem d2_32 : decode jdk_52_method_21_code 32 = .ok (.iinc 1 1, 3) := by decide +kernel
theorem d2_35 : decode jdk_52_method_21_code 35 = .ok (.iinc 3 1, 3) := by decide +kernel
theorem d2_38 : decode jdk_52_method_21_code 38 = .ok (.iinc 5 1, 3) := by decide +kernel
theorem d2_41 : decode jdk_52_method_21_code 41 = .ok (.goto (-38), 3) := by decide +kernel
theorem d2_23 : decode jdk_52_method_21_code 23 = .ok (.iload 5, 2) := by decide +kernel
theorem d2_25 : decode jdk_52_method_21_code 25 = .ok (.ireturn, 1) := by decide +kernel
theorem d3_0 : decode jdk_52_method_3_code 0 = .ok (.iload_n 0, 1) := by decide +kernel
theorem d3_1 : decode jdk_52_method_3_code 1 = .ok (.ifCond .ge 11, 3) := by decide +kernel
theorem d3_12 : decode jdk_52_method_3_code 12 = .ok (.iload_n 0, 1) := by decide +kernel
theorem d3_13 : decode jdk_52_method_3_code 13 = .ok (.ldc 20, 2) := by decide +kernel
theorem d3_15 : decode jdk_52_method_3_code 15 = .ok (.if_icmp .lt 40, 3) := by decide +kernel
theorem d3_55 : decode jdk_52_method_3_code 55 = .ok (.iload_n 0, 1) := by decide +kernel
theorem d3_56 : decode jdk_52_method_3_code 56 = .ok (.iconst 1, 1) := by decide +kernel
theorem d3_57 : decode jdk_52_method_3_code 57 = .ok (.ishl, 1) := by decide +kernel
theorem d3_58 : decode jdk_52_method_3_code 58 = .ok (.ireturn, 1) := by decide +kernel
theorem d4_0 : decode jdk_52_method_2_code 0 = .ok (.iload_n 0, 1) := by decide +kernel
theorem d4_1 : decode jdk_52_method_2_code 1 = .ok (.invokestatic 11, 3) := by decide +kernel
theorem pd__28_I_29_I : parseMethodDescriptor "(I)I" = some ⟨[.int], some .int⟩ := by decide +kernel
theorem d4_4 : decode jdk_52_method_2_code 4 = .ok (.newarray .byte, 2) := by decide +kernel
theorem d4_6 : decode jdk_52_method_2_code 6 = .ok (.areturn, 1) := by decide +kernel
theorem d5_0 : decode jdk_52_method_4_code 0 = .ok (.getstatic 44, 3) := by decide +kernel
theorem d5_3 : decode jdk_52_method_4_code 3 = .ok (.ifCond .ne 25, 3) := by decide +kernel
theorem d5_28 : decode jdk_52_method_4_code 28 = .ok (.iload_n 1, 1) := by decide +kernel
theorem d5_29 : decode jdk_52_method_4_code 29 = .ok (.iconst 1, 1) := by decide +kernel
theorem d5_30 : decode jdk_52_method_4_code 30 = .ok (.ishl, 1) := by decide +kernel
theorem d5_31 : decode jdk_52_method_4_code 31 = .ok (.istore_n 1, 1) := by decide +kernel
theorem d5_32 : decode jdk_52_method_4_code 32 = .ok (.aload_n 0, 1) := by decide +kernel
theorem d5_33 : decode jdk_52_method_4_code 33 = .ok (.iload_n 1, 1) := by decide +kernel
theorem d5_34 : decode jdk_52_method_4_code 34 = .ok (.iinc 1 1, 3) := by decide +kernel
theorem d5_37 : decode jdk_52_method_4_code 37 = .ok (.iload_n 2, 1) := by decide +kernel
theorem d5_38 : decode jdk_52_method_4_code 38 = .ok (.getstatic 59, 3) := by decide +kernel
theorem d5_41 : decode jdk_52_method_4_code 41 = .ok (.ishr, 1) := by decide +kernel
theorem d5_42 : decode jdk_52_method_4_code 42 = .ok (.i2b, 1) := by decide +kernel
theorem d5_43 : decode jdk_52_method_4_code 43 = .ok (.bastore, 1) := by decide +kernel
theorem d5_44 : decode jdk_52_method_4_code 44 = .ok (.aload_n 0, 1) := by decide +kernel
theorem d5_45 : decode jdk_52_method_4_code 45 = .ok (.iload_n 1, 1) := by decide +kernel
theorem d5_46 : decode jdk_52_method_4_code 46 = .ok (.iload_n 2, 1) := by decide +kernel
theorem d5_47 : decode jdk_52_method_4_code 47 = .ok (.getstatic 63, 3) := by decide +kernel
theorem d5_50 : decode jdk_52_method_4_code 50 = .ok (.ishr, 1) := by decide +kernel
theorem d5_51 : decode jdk_52_method_4_code 51 = .ok (.i2b, 1) := by decide +kernel
theorem d5_52 : decode jdk_52_method_4_code 52 = .ok (.bastore, 1) := by decide +kernel
theorem d5_53 : decode jdk_52_method_4_code 53 = .ok (.return_, 1) := by decide +kernel
theorem d6_0 : decode jdk_52_method_5_code 0 = .ok (.getstatic 44, 3) := by decide +kernel
theorem d6_3 : decode jdk_52_method_5_code 3 = .ok (.ifCond .ne 25, 3) := by decide +kernel
theorem d6_28 : decode jdk_52_method_5_code 28 = .ok (.iload_n 1, 1) := by decide +kernel
theorem d6_29 : decode jdk_52_method_5_code 29 = .ok (.iconst 1, 1) := by decide +kernel
theorem d6_30 : decode jdk_52_method_5_code 30 = .ok (.ishl, 1) := by decide +kernel
theorem d6_31 : decode jdk_52_method_5_code 31 = .ok (.istore_n 1, 1) := by decide +kernel
theorem d6_32 : decode jdk_52_method_5_code 32 = .ok (.aload_n 0, 1) := by decide +kernel
theorem d6_33 : decode jdk_52_method_5_code 33 = .ok (.iload_n 1, 1) := by decide +kernel
theorem d6_34 : decode jdk_52_method_5_code 34 = .ok (.iinc 1 1, 3) := by decide +kernel
theorem d6_37 : decode jdk_52_method_5_code 37 = .ok (.baload, 1) := by decide +kernel
theorem d6_38 : decode jdk_52_method_5_code 38 = .ok (.sipush 255, 3) := by decide +kernel
theorem d6_41 : decode jdk_52_method_5_code 41 = .ok (.iand, 1) := by decide +kernel
theorem d6_42 : decode jdk_52_method_5_code 42 = .ok (.getstatic 59, 3) := by decide +kernel
theorem d6_45 : decode jdk_52_method_5_code 45 = .ok (.ishl, 1) := by decide +kernel
theorem d6_46 : decode jdk_52_method_5_code 46 = .ok (.aload_n 0, 1) := by decide +kernel
theorem d6_47 : decode jdk_52_method_5_code 47 = .ok (.iload_n 1, 1) := by decide +kernel
theorem d6_48 : decode jdk_52_method_5_code 48 = .ok (.baload, 1) := by decide +kernel
theorem d6_49 : decode jdk_52_method_5_code 49 = .ok (.sipush 255, 3) := by decide +kernel
theorem d6_52 : decode jdk_52_method_5_code 52 = .ok (.iand, 1) := by decide +kernel
theorem d6_53 : decode jdk_52_method_5_code 53 = .ok (.getstatic 63, 3) := by decide +kernel
theorem d6_56 : decode jdk_52_method_5_code 56 = .ok (.ishl, 1) := by decide +kernel
theorem d6_57 : decode jdk_52_method_5_code 57 = .ok (.ior, 1) := by decide +kernel
theorem d6_58 : decode jdk_52_method_5_code 58 = .ok (.i2c, 1) := by decide +kernel
theorem d6_59 : decode jdk_52_method_5_code 59 = .ok (.ireturn, 1) := by decide +kernel
theorem d7_0 : decode jdk_52_method_14_code 0 = .ok (.iload_n 2, 1) := by decide +kernel
theorem d7_1 : decode jdk_52_method_14_code 1 = .ok (.invokestatic 107, 3) := by decide +kernel
theorem pd__28_I_29__5b_B : parseMethodDescriptor "(I)[B" = some ⟨[.int], some (.array .byte)⟩ := by decide +kernel
theorem d7_4 : decode jdk_52_method_14_code 4 = .ok (.astore_n 3, 1) := by decide +kernel
theorem d7_5 : decode jdk_52_method_14_code 5 = .ok (.iconst 0, 1) := by decide +kernel
theorem d7_6 : decode jdk_52_method_14_code 6 = .ok (.istore 4, 2) := by decide +kernel
theorem d7_8 : decode jdk_52_method_14_code 8 = .ok (.iload 4, 2) := by decide +kernel
theorem d7_10 : decode jdk_52_method_14_code 10 = .ok (.iload_n 2, 1) := by decide +kernel
theorem d7_11 : decode jdk_52_method_14_code 11 = .ok (.if_icmp .ge 21, 3) := by decide +kernel
theorem d7_32 : decode jdk_52_method_14_code 32 = .ok (.aload_n 3, 1) := by decide +kernel
theorem d7_33 : decode jdk_52_method_14_code 33 = .ok (.areturn, 1) := by decide +kernel
theorem d7_14 : decode jdk_52_method_14_code 14 = .ok (.aload_n 3, 1) := by decide +kernel
theorem d7_15 : decode jdk_52_method_14_code 15 = .ok (.iload 4, 2) := by decide +kernel
theorem d7_17 : decode jdk_52_method_14_code 17 = .ok (.aload_n 0, 1) := by decide +kernel
theorem d7_18 : decode jdk_52_method_14_code 18 = .ok (.iload_n 1, 1) := by decide +kernel
theorem d7_19 : decode jdk_52_method_14_code 19 = .ok (.caload, 1) := by decide +kernel
theorem pd__28__5b_BII_29_V : parseMethodDescriptor "([BII)V" = some ⟨[(.array .byte), .int, .int], none⟩ := by decide +kernel
theorem d7_20 : decode jdk_52_method_14_code 20 = .ok (.invokestatic 111, 3) := by decide +kernel
theorem d7_23 : decode jdk_52_method_14_code 23 = .ok (.iinc 1 1, 3) := by decide +kernel
theorem d7_26 : decode jdk_52_method_14_code 26 = .ok (.iinc 4 1, 3) := by decide +kernel
theorem d7_29 : decode jdk_52_method_14_code 29 = .ok (.goto (-21), 3) := by decide +kernel
theorem d8_0 : decode jdk_52_method_16_code 0 = .ok (.iload_n 2, 1) := by decide +kernel
theorem d8_1 : decode jdk_52_method_16_code 1 = .ok (.newarray .byte, 2) := by decide +kernel
theorem d8_3 : decode jdk_52_method_16_code 3 = .ok (.astore_n 3, 1) := by decide +kernel
theorem d8_4 : decode jdk_52_method_16_code 4 = .ok (.aload_n 0, 1) := by decide +kernel
theorem d8_5 : decode jdk_52_method_16_code 5 = .ok (.iload_n 1, 1) := by decide +kernel
theorem d8_6 : decode jdk_52_method_16_code 6 = .ok (.aload_n 3, 1) := by decide +kernel
theorem d8_7 : decode jdk_52_method_16_code 7 = .ok (.iconst 0, 1) := by decide +kernel
theorem d8_8 : decode jdk_52_method_16_code 8 = .ok (.iload_n 2, 1) := by decide +kernel
theorem d8_9 : decode jdk_52_method_16_code 9 = .ok (.invokestatic 115, 3) := by decide +kernel
theorem pd__28__5b_CI_5b_BII_29_I : parseMethodDescriptor "([CI[BII)I" = some ⟨[(.array .char), .int, (.array .byte), .int, .int], some .int⟩ := by decide +kernel
theorem d8_12 : decode jdk_52_method_16_code 12 = .ok (.istore 4, 2) := by decide +kernel
theorem d8_14 : decode jdk_52_method_16_code 14 = .ok (.iload 4, 2) := by decide +kernel
theorem d8_16 : decode jdk_52_method_16_code 16 = .ok (.iload_n 2, 1) := by decide +kernel
theorem d8_17 : decode jdk_52_method_16_code 17 = .ok (.if_icmp .eq 40, 3) := by decide +kernel
theorem d8_57 : decode jdk_52_method_16_code 57 = .ok (.aload_n 3, 1) := by decide +kernel
theorem d8_58 : decode jdk_52_method_16_code 58 = .ok (.areturn, 1) := by decide +kernel
theorem d8_20 : decode jdk_52_method_16_code 20 = .ok (.aload_n 0, 1) := by decide +kernel
theorem d8_21 : decode jdk_52_method_16_code 21 = .ok (.iload_n 1, 1) := by decide +kernel
theorem d8_22 : decode jdk_52_method_16_code 22 = .ok (.iload_n 2, 1) := by decide +kernel
theorem d8_23 : decode jdk_52_method_16_code 23 = .ok (.invokestatic 119, 3) := by decide +kernel
theorem pd__28__5b_CII_29__5b_B : parseMethodDescriptor "([CII)[B" = some ⟨[(.array .char), .int, .int], some (.array .byte)⟩ := by decide +kernel
theorem d8_26 : decode jdk_52_method_16_code 26 = .ok (.astore 5, 2) := by decide +kernel
theorem d8_28 : decode jdk_52_method_16_code 28 = .ok (.aload 5, 2) := by decide +kernel
theorem d8_30 : decode jdk_52_method_16_code 30 = .ok (.iload 4, 2) := by decide +kernel
theorem d8_32 : decode jdk_52_method_16_code 32 = .ok (.invokestatic 71, 3) := by decide +kernel
theorem pd__28__5b_BI_29_C : parseMethodDescriptor "([BI)C" = some ⟨[(.array .byte), .int], some .char⟩ := by decide +kernel
theorem d8_35 : decode jdk_52_method_16_code 35 = .ok (.sipush 255, 3) := by decide +kernel
theorem d8_38 : decode jdk_52_method_16_code 38 = .ok (.if_icmp .gt 16, 3) := by decide +kernel
theorem d8_54 : decode jdk_52_method_16_code 54 = .ok (.aload 5, 2) := by decide +kernel
theorem d8_56 : decode jdk_52_method_16_code 56 = .ok (.areturn, 1) := by decide +kernel
theorem d9_0 : decode jdk_42_method_149_code 0 = .ok (.aload_n 0, 1) := by decide +kernel
theorem d9_1 : decode jdk_42_method_149_code 1 = .ok (.invokespecial 1, 3) := by decide +kernel
theorem d9_4 : decode jdk_42_method_149_code 4 = .ok (.iload_n 3, 1) := by decide +kernel
theorem d9_5 : decode jdk_42_method_149_code 5 = .ok (.ifCond .ne 22, 3) := by decide +kernel
theorem d9_27 : decode jdk_42_method_149_code 27 = .ok (.getstatic 38, 3) := by decide +kernel
theorem d9_30 : decode jdk_42_method_149_code 30 = .ok (.ifCond .eq 28, 3) := by decide +kernel
theorem d9_33 : decode jdk_42_method_149_code 33 = .ok (.aload_n 1, 1) := by decide +kernel
theorem d9_34 : decode jdk_42_method_149_code 34 = .ok (.iload_n 2, 1) := by decide +kernel
theorem d9_35 : decode jdk_42_method_149_code 35 = .ok (.iload_n 3, 1) := by decide +kernel
theorem d9_36 : decode jdk_42_method_149_code 36 = .ok (.invokestatic 177, 3) := by decide +kernel
theorem d9_39 : decode jdk_42_method_149_code 39 = .ok (.astore 5, 2) := by decide +kernel
theorem d9_41 : decode jdk_42_method_149_code 41 = .ok (.aload_n 0, 1) := by decide +kernel
theorem d9_42 : decode jdk_42_method_149_code 42 = .ok (.aload 5, 2) := by decide +kernel
theorem d9_44 : decode jdk_42_method_149_code 44 = .ok (.iload_n 3, 1) := by decide +kernel
theorem d9_45 : decode jdk_42_method_149_code 45 = .ok (.invokestatic 47, 3) := by decide +kernel
theorem pd__28__5b_BI_29_B : parseMethodDescriptor "([BI)B" = some ⟨[(.array .byte), .int], some .byte⟩ := by decide +kernel
theorem d9_48 : decode jdk_42_method_149_code 48 = .ok (.putfield 15, 3) := by decide +kernel
theorem d9_51 : decode jdk_42_method_149_code 51 = .ok (.aload_n 0, 1) := by decide +kernel
theorem d9_52 : decode jdk_42_method_149_code 52 = .ok (.aload 5, 2) := by decide +kernel
theorem d9_54 : decode jdk_42_method_149_code 54 = .ok (.putfield 9, 3) := by decide +kernel
theorem d9_57 : decode jdk_42_method_149_code 57 = .ok (.return_, 1) := by decide +kernel
theorem pn_java_lang_String : plainName "java/lang/String" = true := by first | (simp [plainName, overriddenIn]; done) | decide +kernel
theorem d10_0 : decode jdk_42_method_3_code 0 = .ok (.aload_n 0, 1) := by decide +kernel
theorem d10_1 : decode jdk_42_method_3_code 1 = .ok (.aload_n 1, 1) := by decide +kernel
theorem d10_2 : decode jdk_42_method_3_code 2 = .ok (.iconst 0, 1) := by decide +kernel
theorem d10_3 : decode jdk_42_method_3_code 3 = .ok (.aload_n 1, 1) := by decide +kernel
theorem d10_4 : decode jdk_42_method_3_code 4 = .ok (.arraylength, 1) := by decide +kernel
theorem d10_5 : decode jdk_42_method_3_code 5 = .ok (.aconst_null, 1) := by decide +kernel
theorem d10_6 : decode jdk_42_method_3_code 6 = .ok (.invokespecial 27, 3) := by decide +kernel
theorem pd__28__5b_CIILjava_2f_lang_2f_Void_3b__29_V : parseMethodDescriptor "([CIILjava/lang/Void;)V" = some ⟨[(.array .char), .int, .int, (.object "java/lang/Void")], none⟩ := by decide +kernel
theorem d10_9 : decode jdk_42_method_3_code 9 = .ok (.return_, 1) := by decide +kernel
theorem d11_0 : decode jdk_42_method_151_code 0 = .ok (.aload_n 0, 1) := by decide +kernel
theorem d11_1 : decode jdk_42_method_151_code 1 = .ok (.invokespecial 1, 3) := by decide +kernel
theorem d11_4 : decode jdk_42_method_151_code 4 = .ok (.aload_n 0, 1) := by decide +kernel
theorem d11_5 : decode jdk_42_method_151_code 5 = .ok (.aload_n 1, 1) := by decide +kernel
theorem d11_6 : decode jdk_42_method_151_code 6 = .ok (.putfield 9, 3) := by decide +kernel
theorem d11_9 : decode jdk_42_method_151_code 9 = .ok (.aload_n 0, 1) := by decide +kernel
theorem d11_10 : decode jdk_42_method_151_code 10 = .ok (.iload_n 2, 1) := by decide +kernel
theorem d11_11 : decode jdk_42_method_151_code 11 = .ok (.putfield 15, 3) := by decide +kernel
theorem d11_14 : decode jdk_42_method_151_code 14 = .ok (.return_, 1) := by decide +kernel
theorem d12_0 : decode jdk_42_method_152_code 0 = .ok (.getstatic 38, 3) := by decide +kernel
theorem d12_3 : decode jdk_42_method_152_code 3 = .ok (.ifCond .eq 10, 3) := by decide +kernel
theorem d12_6 : decode jdk_42_method_152_code 6 = .ok (.aload_n 0, 1) := by decide +kernel
theorem d12_7 : decode jdk_42_method_152_code 7 = .ok (.getfield 15, 3) := by decide +kernel
theorem d12_10 : decode jdk_42_method_152_code 10 = .ok (.goto 4, 3) := by decide +kernel
theorem d12_14 : decode jdk_42_method_152_code 14 = .ok (.ireturn, 1) := by decide +kernel
theorem d13_0 : decode jdk_42_method_54_code 0 = .ok (.aload_n 0, 1) := by decide +kernel
theorem d13_1 : decode jdk_42_method_54_code 1 = .ok (.getfield 9, 3) := by decide +kernel
theorem d13_4 : decode jdk_42_method_54_code 4 = .ok (.arraylength, 1) := by decide +kernel
theorem d13_5 : decode jdk_42_method_54_code 5 = .ok (.aload_n 0, 1) := by decide +kernel
theorem d13_6 : decode jdk_42_method_54_code 6 = .ok (.invokevirtual 335, 3) := by decide +kernel
theorem pd__28__29_B : parseMethodDescriptor "()B" = some ⟨[], some .byte⟩ := by decide +kernel
theorem d13_9 : decode jdk_42_method_54_code 9 = .ok (.ishr, 1) := by decide +kernel
theorem d13_10 : decode jdk_42_method_54_code 10 = .ok (.ireturn, 1) := by decide +kernel
theorem d14_0 : decode jdk_42_method_154_code 0 = .ok (.getstatic 38, 3) := by decide +kernel
theorem d14_3 : decode jdk_42_method_154_code 3 = .ok (.ifCond .eq 14, 3) := by decide +kernel
theorem d14_6 : decode jdk_42_method_154_code 6 = .ok (.aload_n 0, 1) := by decide +kernel
theorem d14_7 : decode jdk_42_method_154_code 7 = .ok (.getfield 15, 3) := by decide +kernel
theorem d14_10 : decode jdk_42_method_154_code 10 = .ok (.ifCond .ne 7, 3) := by decide +kernel
theorem d14_17 : decode jdk_42_method_154_code 17 = .ok (.iconst 0, 1) := by decide +kernel
theorem d14_18 : decode jdk_42_method_154_code 18 = .ok (.ireturn, 1) := by decide +kernel
theorem d14_13 : decode jdk_42_method_154_code 13 = .ok (.iconst 1, 1) := by decide +kernel
theorem d14_14 : decode jdk_42_method_154_code 14 = .ok (.goto 4, 3) := by decide +kernel
theorem d15_0 : decode jdk_41_method_11_code 0 = .ok (.iload_n 0, 1) := by decide +kernel
theorem d15_1 : decode jdk_41_method_11_code 1 = .ok (.ifCond .lt 8, 3) := by decide +kernel
theorem d15_4 : decode jdk_41_method_11_code 4 = .ok (.iload_n 0, 1) := by decide +kernel
theorem d15_5 : decode jdk_41_method_11_code 5 = .ok (.iload_n 1, 1) := by decide +kernel
theorem d15_6 : decode jdk_41_method_11_code 6 = .ok (.if_icmp .lt 10, 3) := by decide +kernel
theorem d15_16 : decode jdk_41_method_11_code 16 = .ok (.iload_n 0, 1) := by decide +kernel
theorem d15_17 : decode jdk_41_method_11_code 17 = .ok (.ireturn, 1) := by decide +kernel
theorem pn_jdk_internal_util_Preconditions : plainName "jdk/internal/util/Preconditions" = true := by first | (simp [plainName, overriddenIn]; done) | decide +kernel
theorem d16_0 : decode jdk_42_method_155_code 0 = .ok (.iload_n 0, 1) := by decide +kernel
theorem d16_1 : decode jdk_42_method_155_code 1 = .ok (.iload_n 1, 1) := by decide +kernel
theorem d16_2 : decode jdk_42_method_155_code 2 = .ok (.getstatic 1053, 3) := by decide +kernel
theorem pd__28_IILjava_2f_util_2f_function_2f_BiFunction_3b__29_I : parseMethodDescriptor "(IILjava/util/function/BiFunction;)I" = some ⟨[.int, .int, (.object "java/util/function/BiFunction")], some .int⟩ := by decide +kernel
theorem d16_5 : decode jdk_42_method_155_code 5 = .ok (.invokestatic 1059, 3) := by decide +kernel
theorem d16_8 : decode jdk_42_method_155_code 8 = .ok (.pop, 1) := by decide +kernel
theorem d16_9 : decode jdk_42_method_155_code 9 = .ok (.return_, 1) := by decide +kernel
theorem d17_0 : decode jdk_43_method_2_code 0 = .ok (.iload_n 1, 1) := by decide +kernel
theorem d17_1 : decode jdk_43_method_2_code 1 = .ok (.aload_n 0, 1) := by decide +kernel
theorem d17_2 : decode jdk_43_method_2_code 2 = .ok (.arraylength, 1) := by decide +kernel
theorem pd__28_II_29_V : parseMethodDescriptor "(II)V" = some ⟨[.int, .int], none⟩ := by decide +kernel
theorem d17_3 : decode jdk_43_method_2_code 3 = .ok (.invokestatic 9, 3) := by decide +kernel
theorem d17_6 : decode jdk_43_method_2_code 6 = .ok (.aload_n 0, 1) := by decide +kernel
theorem d17_7 : decode jdk_43_method_2_code 7 = .ok (.iload_n 1, 1) := by decide +kernel
theorem d17_8 : decode jdk_43_method_2_code 8 = .ok (.baload, 1) := by decide +kernel
theorem d17_9 : decode jdk_43_method_2_code 9 = .ok (.sipush 255, 3) := by decide +kernel
theorem d17_12 : decode jdk_43_method_2_code 12 = .ok (.iand, 1) := by decide +kernel
theorem d17_13 : decode jdk_43_method_2_code 13 = .ok (.i2c, 1) := by decide +kernel
theorem d17_14 : decode jdk_43_method_2_code 14 = .ok (.ireturn, 1) := by decide +kernel
theorem pn_java_lang_StringLatin1 : plainName "java/lang/StringLatin1" = true := by first | (simp [plainName, overriddenIn]; done) | decide +kernel
theorem d18_0 : decode jdk_52_method_6_code 0 = .ok (.aload_n 0, 1) := by decide +kernel
theorem d18_1 : decode jdk_52_method_6_code 1 = .ok (.arraylength, 1) := by decide +kernel
theorem d18_2 : decode jdk_52_method_6_code 2 = .ok (.iconst 1, 1) := by decide +kernel
theorem d18_3 : decode jdk_52_method_6_code 3 = .ok (.ishr, 1) := by decide +kernel
theorem d18_4 : decode jdk_52_method_6_code 4 = .ok (.ireturn, 1) := by decide +kernel
theorem d19_0 : decode jdk_52_method_91_code 0 = .ok (.iload_n 0, 1) := by decide +kernel
theorem d19_1 : decode jdk_52_method_91_code 1 = .ok (.aload_n 1, 1) := by decide +kernel
theorem d19_2 : decode jdk_52_method_91_code 2 = .ok (.invokestatic 48, 3) := by decide +kernel
theorem pd__28__5b_B_29_I : parseMethodDescriptor "([B)I" = some ⟨[(.array .byte)], some .int⟩ := by decide +kernel
theorem d19_5 : decode jdk_52_method_91_code 5 = .ok (.invokestatic 414, 3) := by decide +kernel
theorem d19_8 : decode jdk_52_method_91_code 8 = .ok (.return_, 1) := by decide +kernel
theorem d20_0 : decode jdk_52_method_83_code 0 = .ok (.iload_n 1, 1) := by decide +kernel
theorem d20_1 : decode jdk_52_method_83_code 1 = .ok (.aload_n 0, 1) := by decide +kernel
theorem d20_2 : decode jdk_52_method_83_code 2 = .ok (.invokestatic 67, 3) := by decide +kernel
theorem pd__28_I_5b_B_29_V : parseMethodDescriptor "(I[B)V" = some ⟨[.int, (.array .byte)], none⟩ := by decide +kernel
theorem d20_5 : decode jdk_52_method_83_code 5 = .ok (.aload_n 0, 1) := by decide +kernel
theorem d20_6 : decode jdk_52_method_83_code 6 = .ok (.iload_n 1, 1) := by decide +kernel
theorem d20_7 : decode jdk_52_method_83_code 7 = .ok (.invokestatic 71, 3) := by decide +kernel
theorem d20_10 : decode jdk_52_method_83_code 10 = .ok (.ireturn, 1) := by decide +kernel
theorem d21_0 : decode jdk_42_method_56_code 0 = .ok (.aload_n 0, 1) := by decide +kernel
theorem d21_1 : decode jdk_42_method_56_code 1 = .ok (.invokevirtual 492, 3) := by decide +kernel
theorem pd__28__29_Z : parseMethodDescriptor "()Z" = some ⟨[], some .boolean⟩ := by decide +kernel
theorem d21_4 : decode jdk_42_method_56_code 4 = .ok (.ifCond .eq 12, 3) := by decide +kernel
theorem d21_16 : decode jdk_42_method_56_code 16 = .ok (.aload_n 0, 1) := by decide +kernel
theorem d21_17 : decode jdk_42_method_56_code 17 = .ok (.getfield 9, 3) := by decide +kernel
theorem d21_20 : decode jdk_42_method_56_code 20 = .ok (.iload_n 1, 1) := by decide +kernel
theorem d21_21 : decode jdk_42_method_56_code 21 = .ok (.invokestatic 498, 3) := by decide +kernel
theorem d21_24 : decode jdk_42_method_56_code 24 = .ok (.ireturn, 1) := by decide +kernel
theorem d21_7 : decode jdk_42_method_56_code 7 = .ok (.aload_n 0, 1) := by decide +kernel
theorem d21_8 : decode jdk_42_method_56_code 8 = .ok (.getfield 9, 3) := by decide +kernel
theorem d21_11 : decode jdk_42_method_56_code 11 = .ok (.iload_n 1, 1) := by decide +kernel
theorem d21_12 : decode jdk_42_method_56_code 12 = .ok (.invokestatic 495, 3) := by decide +kernel
theorem d21_15 : decode jdk_42_method_56_code 15 = .ok (.ireturn, 1) := by decide +kernel
theorem d22_0 : decode jdk_41_method_12_code 0 = .ok (.iload_n 0, 1) := by decide +kernel
theorem d22_1 : decode jdk_41_method_12_code 1 = .ok (.ifCond .lt 13, 3) := by decide +kernel
theorem d22_4 : decode jdk_41_method_12_code 4 = .ok (.iload_n 0, 1) := by decide +kernel
theorem d22_5 : decode jdk_41_method_12_code 5 = .ok (.iload_n 1, 1) := by decide +kernel
theorem d22_6 : decode jdk_41_method_12_code 6 = .ok (.if_icmp .gt 8, 3) := by decide +kernel
theorem d22_9 : decode jdk_41_method_12_code 9 = .ok (.iload_n 1, 1) := by decide +kernel
theorem d22_10 : decode jdk_41_method_12_code 10 = .ok (.iload_n 2, 1) := by decide +kernel
theorem d22_11 : decode jdk_41_method_12_code 11 = .ok (.if_icmp .le 11, 3) := by decide +kernel
theorem d22_22 : decode jdk_41_method_12_code 22 = .ok (.iload_n 0, 1) := by decide +kernel
theorem d22_23 : decode jdk_41_method_12_code 23 = .ok (.ireturn, 1) := by decide +kernel
theorem d23_0 : decode jdk_42_method_158_code 0 = .ok (.iload_n 0, 1) := by decide +kernel
theorem d23_1 : decode jdk_42_method_158_code 1 = .ok (.iload_n 1, 1) := by decide +kernel
theorem d23_2 : decode jdk_42_method_158_code 2 = .ok (.iload_n 2, 1) := by decide +kernel
theorem d23_3 : decode jdk_42_method_158_code 3 = .ok (.getstatic 1053, 3) := by decide +kernel
theorem pd__28_IIILjava_2f_util_2f_function_2f_BiFunction_3b__29_I : parseMethodDescriptor "(IIILjava/util/function/BiFunction;)I" = some ⟨[.int, .int, .int, (.object "java/util/function/BiFunction")], some .int⟩ := by decide +kernel
theorem d23_6 : decode jdk_42_method_158_code 6 = .ok (.invokestatic 1062, 3) := by decide +kernel
theorem d23_9 : decode jdk_42_method_158_code 9 = .ok (.pop, 1) := by decide +kernel
theorem d23_10 : decode jdk_42_method_158_code 10 = .ok (.return_, 1) := by decide +kernel
theorem d24_0 : decode jdk_89_method_14_code 0 = .ok (.iload_n 0, 1) := by decide +kernel
theorem d24_1 : decode jdk_89_method_14_code 1 = .ok (.ldc 75, 2) := by decide +kernel
theorem d24_3 : decode jdk_89_method_14_code 3 = .ok (.if_icmp .lt 13, 3) := by decide +kernel
theorem d24_16 : decode jdk_89_method_14_code 16 = .ok (.iconst 0, 1) := by decide +kernel
theorem d24_17 : decode jdk_89_method_14_code 17 = .ok (.ireturn, 1) := by decide +kernel
theorem d24_6 : decode jdk_89_method_14_code 6 = .ok (.iload_n 0, 1) := by decide +kernel
theorem d24_7 : decode jdk_89_method_14_code 7 = .ok (.ldc 76, 2) := by decide +kernel
theorem d24_9 : decode jdk_89_method_14_code 9 = .ok (.if_icmp .ge 7, 3) := by decide +kernel
theorem d24_12 : decode jdk_89_method_14_code 12 = .ok (.iconst 1, 1) := by decide +kernel
theorem d24_13 : decode jdk_89_method_14_code 13 = .ok (.goto 4, 3) := by decide +kernel
theorem pn_java_lang_Character : plainName "java/lang/Character" = true := by first | (simp [plainName, overriddenIn]; done) | decide +kernel
theorem d25_0 : decode jdk_89_method_15_code 0 = .ok (.iload_n 0, 1) := by decide +kernel
theorem d25_1 : decode jdk_89_method_15_code 1 = .ok (.ldc 76, 2) := by decide +kernel
theorem d25_3 : decode jdk_89_method_15_code 3 = .ok (.if_icmp .lt 13, 3) := by decide +kernel
theorem d25_16 : decode jdk_89_method_15_code 16 = .ok (.iconst 0, 1) := by decide +kernel
theorem d25_17 : decode jdk_89_method_15_code 17 = .ok (.ireturn, 1) := by decide +kernel
theorem d25_6 : decode jdk_89_method_15_code 6 = .ok (.iload_n 0, 1) := by decide +kernel
theorem d25_7 : decode jdk_89_method_15_code 7 = .ok (.ldc 77, 2) := by decide +kernel
theorem d25_9 : decode jdk_89_method_15_code 9 = .ok (.if_icmp .ge 7, 3) := by decide +kernel
theorem d25_12 : decode jdk_89_method_15_code 12 = .ok (.iconst 1, 1) := by decide +kernel
theorem d25_13 : decode jdk_89_method_15_code 13 = .ok (.goto 4, 3) := by decide +kernel
theorem d26_0 : decode jdk_41_method_13_code 0 = .ok (.iload_n 2, 1) := by decide +kernel
theorem d26_1 : decode jdk_41_method_13_code 1 = .ok (.iload_n 0, 1) := by decide +kernel
theorem d26_2 : decode jdk_41_method_13_code 2 = .ok (.ior, 1) := by decide +kernel
theorem d26_3 : decode jdk_41_method_13_code 3 = .ok (.iload_n 1, 1) := by decide +kernel
theorem d26_4 : decode jdk_41_method_13_code 4 = .ok (.ior, 1) := by decide +kernel
theorem d26_5 : decode jdk_41_method_13_code 5 = .ok (.ifCond .lt 10, 3) := by decide +kernel
theorem d26_8 : decode jdk_41_method_13_code 8 = .ok (.iload_n 1, 1) := by decide +kernel
theorem d26_9 : decode jdk_41_method_13_code 9 = .ok (.iload_n 2, 1) := by decide +kernel
theorem d26_10 : decode jdk_41_method_13_code 10 = .ok (.iload_n 0, 1) := by decide +kernel
theorem d26_11 : decode jdk_41_method_13_code 11 = .ok (.isub, 1) := by decide +kernel
theorem d26_12 : decode jdk_41_method_13_code 12 = .ok (.if_icmp .le 11, 3) := by decide +kernel
theorem d26_23 : decode jdk_41_method_13_code 23 = .ok (.iload_n 0, 1) := by decide +kernel
theorem d26_24 : decode jdk_41_method_13_code 24 = .ok (.ireturn, 1) := by decide +kernel
theorem d27_0 : decode jdk_42_method_157_code 0 = .ok (.iload_n 0, 1) := by decide +kernel
theorem d27_1 : decode jdk_42_method_157_code 1 = .ok (.iload_n 1, 1) := by decide +kernel
theorem d27_2 : decode jdk_42_method_157_code 2 = .ok (.iload_n 2, 1) := by decide +kernel
theorem d27_3 : decode jdk_42_method_157_code 3 = .ok (.getstatic 1053, 3) := by decide +kernel
theorem d27_6 : decode jdk_42_method_157_code 6 = .ok (.invokestatic 1065, 3) := by decide +kernel
theorem d27_9 : decode jdk_42_method_157_code 9 = .ok (.ireturn, 1) := by decide +kernel
theorem d28_0 : decode jdk_52_method_94_code 0 = .ok (.iload_n 0, 1) := by decide +kernel
theorem d28_1 : decode jdk_52_method_94_code 1 = .ok (.iload_n 1, 1) := by decide +kernel
theorem d28_2 : decode jdk_52_method_94_code 2 = .ok (.aload_n 2, 1) := by decide +kernel
theorem d28_3 : decode jdk_52_method_94_code 3 = .ok (.invokestatic 48, 3) := by decide +kernel
theorem pd__28_III_29_I : parseMethodDescriptor "(III)I" = some ⟨[.int, .int, .int], some .int⟩ := by decide +kernel
theorem d28_6 : decode jdk_52_method_94_code 6 = .ok (.invokestatic 419, 3) := by decide +kernel
theorem d28_9 : decode jdk_52_method_94_code 9 = .ok (.pop, 1) := by decide +kernel
theorem d28_10 : decode jdk_52_method_94_code 10 = .ok (.return_, 1) := by decide +kernel
theorem d29_0 : decode jdk_52_method_22_code 0 = .ok (.iload_n 1, 1) := by decide +kernel
theorem d29_1 : decode jdk_52_method_22_code 1 = .ok (.iload 4, 2) := by decide +kernel
theorem d29_3 : decode jdk_52_method_22_code 3 = .ok (.aload_n 0, 1) := by decide +kernel
theorem d29_4 : decode jdk_52_method_22_code 4 = .ok (.invokestatic 173, 3) := by decide +kernel
theorem pd__28_II_5b_B_29_V : parseMethodDescriptor "(II[B)V" = some ⟨[.int, .int, (.array .byte)], none⟩ := by decide +kernel
theorem d29_7 : decode jdk_52_method_22_code 7 = .ok (.iconst 0, 1) := by decide +kernel
theorem d29_8 : decode jdk_52_method_22_code 8 = .ok (.istore 5, 2) := by decide +kernel
theorem d29_10 : decode jdk_52_method_22_code 10 = .ok (.iload 5, 2) := by decide +kernel
theorem d29_12 : decode jdk_52_method_22_code 12 = .ok (.iload 4, 2) := by decide +kernel
theorem d29_14 : decode jdk_52_method_22_code 14 = .ok (.if_icmp .ge 39, 3) := by decide +kernel
theorem d29_53 : decode jdk_52_method_22_code 53 = .ok (.iload 4, 2) := by decide +kernel
theorem d29_55 : decode jdk_52_method_22_code 55 = .ok (.ireturn, 1) := by decide +kernel
theorem d29_17 : decode jdk_52_method_22_code 17 = .ok (.aload_n 0, 1) := by decide +kernel
theorem d29_18 : decode jdk_52_method_22_code 18 = .ok (.iload_n 1, 1) := by decide +kernel
theorem d29_19 : decode jdk_52_method_22_code 19 = .ok (.invokestatic 71, 3) := by decide +kernel
theorem d29_22 : decode jdk_52_method_22_code 22 = .ok (.istore 6, 2) := by decide +kernel
theorem d29_24 : decode jdk_52_method_22_code 24 = .ok (.iload 6, 2) := by decide +kernel
theorem d29_26 : decode jdk_52_method_22_code 26 = .ok (.sipush 255, 3) := by decide +kernel
theorem d29_29 : decode jdk_52_method_22_code 29 = .ok (.if_icmp .le 6, 3) := by decide +kernel
theorem d29_35 : decode jdk_52_method_22_code 35 = .ok (.aload_n 2, 1) := by decide +kernel
theorem d29_36 : decode jdk_52_method_22_code 36 = .ok (.iload_n 3, 1) := by decide +kernel
theorem d29_37 : decode jdk_52_method_22_code 37 = .ok (.iload 6, 2) := by decide +kernel
theorem d29_39 : decode jdk_52_method_22_code 39 = .ok (.i2b, 1) := by decide +kernel
theorem d29_40 : decode jdk_52_method_22_code 40 = .ok (.bastore, 1) := by decide +kernel
theorem d29_41 : decode jdk_52_method_22_code 41 = .ok (.iinc 1 1, 3) := by decide +kernel
theorem d29_44 : decode jdk_52_method_22_code 44 = .ok (.iinc 3 1, 3) := by decide +kernel
theorem d29_47 : decode jdk_52_method_22_code 47 = .ok (.iinc 5 1, 3) := by decide +kernel
theorem d29_50 : decode jdk_52_method_22_code 50 = .ok (.goto (-40), 3) := by decide +kernel
theorem d29_32 : decode jdk_52_method_22_code 32 = .ok (.iload 5, 2) := by decide +kernel
theorem d29_34 : decode jdk_52_method_22_code 34 = .ok (.ireturn, 1) := by decide +kernel
theorem d30_0 : decode jdk_29_method_69_code 0 = .ok (.iload_n 0, 1) := by decide +kernel
theorem d30_1 : decode jdk_29_method_69_code 1 = .ok (.iload_n 1, 1) := by decide +kernel
theorem d30_2 : decode jdk_29_method_69_code 2 = .ok (.if_icmp .gt 7, 3) := by decide +kernel
theorem d30_9 : decode jdk_29_method_69_code 9 = .ok (.iload_n 1, 1) := by decide +kernel
theorem d30_10 : decode jdk_29_method_69_code 10 = .ok (.ireturn, 1) := by decide +kernel
theorem d30_5 : decode jdk_29_method_69_code 5 = .ok (.iload_n 0, 1) := by decide +kernel
theorem d30_6 : decode jdk_29_method_69_code 6 = .ok (.goto 4, 3) := by decide +kernel
theorem d31_0 : decode jdk_65_method_131_code 0 = .ok (.iload_n 1, 1) := by decide +kernel
theorem d31_1 : decode jdk_65_method_131_code 1 = .ok (.iload_n 0, 1) := by decide +kernel
theorem d31_2 : decode jdk_65_method_131_code 2 = .ok (.if_icmp .ge 35, 3) := by decide +kernel
theorem d31_37 : decode jdk_65_method_131_code 37 = .ok (.return_, 1) := by decide +kernel
theorem pn_java_util_Arrays : plainName "java/util/Arrays" = true := by first | (simp [plainName, overriddenIn]; done) | decide +kernel
theorem d32_0 : decode jdk_65_method_133_code 0 = .ok (.iload_n 1, 1) := by decide +kernel
theorem d32_1 : decode jdk_65_method_133_code 1 = .ok (.iload_n 2, 1) := by decide +kernel
theorem d32_2 : decode jdk_65_method_133_code 2 = .ok (.invokestatic 343, 3) := by decide +kernel
theorem d32_5 : decode jdk_65_method_133_code 5 = .ok (.iload_n 2, 1) := by decide +kernel
theorem d32_6 : decode jdk_65_method_133_code 6 = .ok (.iload_n 1, 1) := by decide +kernel
theorem d32_7 : decode jdk_65_method_133_code 7 = .ok (.isub, 1) := by decide +kernel
theorem d32_8 : decode jdk_65_method_133_code 8 = .ok (.istore_n 3, 1) := by decide +kernel
theorem d32_9 : decode jdk_65_method_133_code 9 = .ok (.iload_n 3, 1) := by decide +kernel
theorem d32_10 : decode jdk_65_method_133_code 10 = .ok (.newarray .byte, 2) := by decide +kernel
theorem d32_12 : decode jdk_65_method_133_code 12 = .ok (.astore 4, 2) := by decide +kernel
theorem d32_14 : decode jdk_65_method_133_code 14 = .ok (.aload_n 0, 1) := by decide +kernel
theorem d32_15 : decode jdk_65_method_133_code 15 = .ok (.iload_n 1, 1) := by decide +kernel
theorem d32_16 : decode jdk_65_method_133_code 16 = .ok (.aload 4, 2) := by decide +kernel
theorem d32_18 : decode jdk_65_method_133_code 18 = .ok (.iconst 0, 1) := by decide +kernel
theorem d32_19 : decode jdk_65_method_133_code 19 = .ok (.aload_n 0, 1) := by decide +kernel
theorem d32_20 : decode jdk_65_method_133_code 20 = .ok (.arraylength, 1) := by decide +kernel
theorem d32_21 : decode jdk_65_method_133_code 21 = .ok (.iload_n 1, 1) := by decide +kernel
theorem d32_22 : decode jdk_65_method_133_code 22 = .ok (.isub, 1) := by decide +kernel
theorem d32_23 : decode jdk_65_method_133_code 23 = .ok (.iload_n 3, 1) := by decide +kernel
theorem d32_24 : decode jdk_65_method_133_code 24 = .ok (.invokestatic 304, 3) := by decide +kernel
theorem pd__28_II_29_I : parseMethodDescriptor "(II)I" = some ⟨[.int, .int], some .int⟩ := by decide +kernel
theorem d32_27 : decode jdk_65_method_133_code 27 = .ok (.invokestatic 150, 3) := by decide +kernel
theorem d32_30 : decode jdk_65_method_133_code 30 = .ok (.aload 4, 2) := by decide +kernel
theorem d32_32 : decode jdk_65_method_133_code 32 = .ok (.areturn, 1) := by decide +kernel
theorem d33_0 : decode jdk_65_method_132_code 0 = .ok (.iload_n 1, 1) := by decide +kernel
theorem d33_1 : decode jdk_65_method_132_code 1 = .ok (.ifCond .ne 9, 3) := by decide +kernel
theorem d33_10 : decode jdk_65_method_132_code 10 = .ok (.aload_n 0, 1) := by decide +kernel
theorem d33_11 : decode jdk_65_method_132_code 11 = .ok (.iload_n 1, 1) := by decide +kernel
theorem d33_12 : decode jdk_65_method_132_code 12 = .ok (.iload_n 2, 1) := by decide +kernel
theorem d33_13 : decode jdk_65_method_132_code 13 = .ok (.invokestatic 339, 3) := by decide +kernel
theorem pd__28__5b_BII_29__5b_B : parseMethodDescriptor "([BII)[B" = some ⟨[(.array .byte), .int, .int], some (.array .byte)⟩ := by decide +kernel
theorem d33_16 : decode jdk_65_method_132_code 16 = .ok (.areturn, 1) := by decide +kernel
theorem d33_4 : decode jdk_65_method_132_code 4 = .ok (.iload_n 2, 1) := by decide +kernel
theorem d33_5 : decode jdk_65_method_132_code 5 = .ok (.aload_n 0, 1) := by decide +kernel
theorem d33_6 : decode jdk_65_method_132_code 6 = .ok (.arraylength, 1) := by decide +kernel
theorem d33_7 : decode jdk_65_method_132_code 7 = .ok (.if_icmp .eq 10, 3) := by decide +kernel
theorem d34_0 : decode jdk_52_method_17_code 0 = .ok (.iload_n 2, 1) := by decide +kernel
theorem d34_1 : decode jdk_52_method_17_code 1 = .ok (.newarray .byte, 2) := by decide +kernel
theorem d34_3 : decode jdk_52_method_17_code 3 = .ok (.astore_n 3, 1) := by decide +kernel
theorem d34_4 : decode jdk_52_method_17_code 4 = .ok (.aload_n 0, 1) := by decide +kernel
theorem d34_5 : decode jdk_52_method_17_code 5 = .ok (.iload_n 1, 1) := by decide +kernel
theorem d34_6 : decode jdk_52_method_17_code 6 = .ok (.aload_n 3, 1) := by decide +kernel
theorem d34_7 : decode jdk_52_method_17_code 7 = .ok (.iconst 0, 1) := by decide +kernel
theorem d34_8 : decode jdk_52_method_17_code 8 = .ok (.iload_n 2, 1) := by decide +kernel
theorem d34_9 : decode jdk_52_method_17_code 9 = .ok (.invokestatic 123, 3) := by decide +kernel
theorem pd__28__5b_BI_5b_BII_29_I : parseMethodDescriptor "([BI[BII)I" = some ⟨[(.array .byte), .int, (.array .byte), .int, .int], some .int⟩ := by decide +kernel
theorem d34_12 : decode jdk_52_method_17_code 12 = .ok (.istore 4, 2) := by decide +kernel
theorem d34_14 : decode jdk_52_method_17_code 14 = .ok (.iload 4, 2) := by decide +kernel
theorem d34_16 : decode jdk_52_method_17_code 16 = .ok (.iload_n 2, 1) := by decide +kernel
theorem d34_17 : decode jdk_52_method_17_code 17 = .ok (.if_icmp .eq 47, 3) := by decide +kernel
theorem d34_64 : decode jdk_52_method_17_code 64 = .ok (.aload_n 3, 1) := by decide +kernel
theorem d34_65 : decode jdk_52_method_17_code 65 = .ok (.areturn, 1) := by decide +kernel
theorem d34_20 : decode jdk_52_method_17_code 20 = .ok (.aload_n 0, 1) := by decide +kernel
theorem d34_21 : decode jdk_52_method_17_code 21 = .ok (.iload_n 1, 1) := by decide +kernel
theorem d34_22 : decode jdk_52_method_17_code 22 = .ok (.iconst 1, 1) := by decide +kernel
theorem d34_23 : decode jdk_52_method_17_code 23 = .ok (.ishl, 1) := by decide +kernel
theorem d34_24 : decode jdk_52_method_17_code 24 = .ok (.iload_n 1, 1) := by decide +kernel
theorem d34_25 : decode jdk_52_method_17_code 25 = .ok (.iload_n 2, 1) := by decide +kernel
theorem d34_26 : decode jdk_52_method_17_code 26 = .ok (.iadd, 1) := by decide +kernel
theorem d34_27 : decode jdk_52_method_17_code 27 = .ok (.invokestatic 11, 3) := by decide +kernel
theorem d34_30 : decode jdk_52_method_17_code 30 = .ok (.invokestatic 126, 3) := by decide +kernel
theorem d34_33 : decode jdk_52_method_17_code 33 = .ok (.astore 5, 2) := by decide +kernel
theorem d34_35 : decode jdk_52_method_17_code 35 = .ok (.aload 5, 2) := by decide +kernel
theorem d34_37 : decode jdk_52_method_17_code 37 = .ok (.iload 4, 2) := by decide +kernel
theorem d34_39 : decode jdk_52_method_17_code 39 = .ok (.invokestatic 71, 3) := by decide +kernel
theorem d34_42 : decode jdk_52_method_17_code 42 = .ok (.sipush 255, 3) := by decide +kernel
theorem d34_45 : decode jdk_52_method_17_code 45 = .ok (.if_icmp .gt 16, 3) := by decide +kernel
theorem d34_61 : decode jdk_52_method_17_code 61 = .ok (.aload 5, 2) := by decide +kernel
theorem d34_63 : decode jdk_52_method_17_code 63 = .ok (.areturn, 1) := by decide +kernel
theorem d35_0 : decode jdk_52_method_69_code 0 = .ok (.iload_n 2, 1) := by decide +kernel
theorem d35_1 : decode jdk_52_method_69_code 1 = .ok (.ifCond .ne 7, 3) := by decide +kernel
theorem d35_8 : decode jdk_52_method_69_code 8 = .ok (.getstatic 251, 3) := by decide +kernel
theorem d35_11 : decode jdk_52_method_69_code 11 = .ok (.ifCond .eq 28, 3) := by decide +kernel
theorem d35_14 : decode jdk_52_method_69_code 14 = .ok (.aload_n 0, 1) := by decide +kernel
theorem d35_15 : decode jdk_52_method_69_code 15 = .ok (.iload_n 1, 1) := by decide +kernel
theorem d35_16 : decode jdk_52_method_69_code 16 = .ok (.iload_n 2, 1) := by decide +kernel
theorem d35_17 : decode jdk_52_method_69_code 17 = .ok (.invokestatic 257, 3) := by decide +kernel
theorem d35_20 : decode jdk_52_method_69_code 20 = .ok (.astore_n 3, 1) := by decide +kernel
theorem d35_21 : decode jdk_52_method_69_code 21 = .ok (.aload_n 3, 1) := by decide +kernel
theorem d35_22 : decode jdk_52_method_69_code 22 = .ok (.iload_n 2, 1) := by decide +kernel
theorem d35_23 : decode jdk_52_method_69_code 23 = .ok (.invokestatic 259, 3) := by decide +kernel
theorem d35_26 : decode jdk_52_method_69_code 26 = .ok (.istore 4, 2) := by decide +kernel
theorem d35_28 : decode jdk_52_method_69_code 28 = .ok (.new 3, 3) := by decide +kernel
theorem d35_31 : decode jdk_52_method_69_code 31 = .ok (.dup, 1) := by decide +kernel
theorem d35_32 : decode jdk_52_method_69_code 32 = .ok (.aload_n 3, 1) := by decide +kernel
theorem d35_33 : decode jdk_52_method_69_code 33 = .ok (.iload 4, 2) := by decide +kernel
theorem d35_35 : decode jdk_52_method_69_code 35 = .ok (.invokespecial 263, 3) := by decide +kernel
theorem pd__28__5b_BB_29_V : parseMethodDescriptor "([BB)V" = some ⟨[(.array .byte), .byte], none⟩ := by decide +kernel
theorem d35_38 : decode jdk_52_method_69_code 38 = .ok (.areturn, 1) := by decide +kernel
theorem d35_4 : decode jdk_52_method_69_code 4 = .ok (.ldc_w 295, 3) := by decide +kernel
theorem d35_7 : decode jdk_52_method_69_code 7 = .ok (.areturn, 1) := by decide +kernel
theorem d36_0 : decode jdk_43_method_47_code 0 = .ok (.iload_n 2, 1) := by decide +kernel
theorem d36_1 : decode jdk_43_method_47_code 1 = .ok (.ifCond .ne 6, 3) := by decide +kernel
theorem d36_7 : decode jdk_43_method_47_code 7 = .ok (.new 1, 3) := by decide +kernel
theorem d36_10 : decode jdk_43_method_47_code 10 = .ok (.dup, 1) := by decide +kernel
theorem d36_11 : decode jdk_43_method_47_code 11 = .ok (.aload_n 0, 1) := by decide +kernel
theorem d36_12 : decode jdk_43_method_47_code 12 = .ok (.iload_n 1, 1) := by decide +kernel
theorem d36_13 : decode jdk_43_method_47_code 13 = .ok (.iload_n 1, 1) := by decide +kernel
theorem d36_14 : decode jdk_43_method_47_code 14 = .ok (.iload_n 2, 1) := by decide +kernel
theorem d36_15 : decode jdk_43_method_47_code 15 = .ok (.iadd, 1) := by decide +kernel
theorem d36_16 : decode jdk_43_method_47_code 16 = .ok (.invokestatic 232, 3) := by decide +kernel
theorem d36_19 : decode jdk_43_method_47_code 19 = .ok (.iconst 0, 1) := by decide +kernel
theorem d36_20 : decode jdk_43_method_47_code 20 = .ok (.invokespecial 112, 3) := by decide +kernel
theorem d36_23 : decode jdk_43_method_47_code 23 = .ok (.areturn, 1) := by decide +kernel
theorem d36_4 : decode jdk_43_method_47_code 4 = .ok (.ldc 151, 2) := by decide +kernel
theorem d36_6 : decode jdk_43_method_47_code 6 = .ok (.areturn, 1) := by decide +kernel
theorem d37_0 : decode jdk_42_method_92_code 0 = .ok (.aload_n 0, 1) := by decide +kernel
theorem d37_1 : decode jdk_42_method_92_code 1 = .ok (.invokevirtual 505, 3) := by decide +kernel
theorem pd__28__29_I : parseMethodDescriptor "()I" = some ⟨[], some .int⟩ := by decide +kernel
theorem d37_4 : decode jdk_42_method_92_code 4 = .ok (.istore_n 3, 1) := by decide +kernel
theorem d37_5 : decode jdk_42_method_92_code 5 = .ok (.iload_n 1, 1) := by decide +kernel
theorem d37_6 : decode jdk_42_method_92_code 6 = .ok (.iload_n 2, 1) := by decide +kernel
theorem d37_7 : decode jdk_42_method_92_code 7 = .ok (.iload_n 3, 1) := by decide +kernel
theorem d37_8 : decode jdk_42_method_92_code 8 = .ok (.invokestatic 521, 3) := by decide +kernel
theorem pd__28_III_29_V : parseMethodDescriptor "(III)V" = some ⟨[.int, .int, .int], none⟩ := by decide +kernel
theorem d37_11 : decode jdk_42_method_92_code 11 = .ok (.iload_n 1, 1) := by decide +kernel
theorem d37_12 : decode jdk_42_method_92_code 12 = .ok (.ifCond .ne 10, 3) := by decide +kernel
theorem d37_22 : decode jdk_42_method_92_code 22 = .ok (.iload_n 2, 1) := by decide +kernel
theorem d37_23 : decode jdk_42_method_92_code 23 = .ok (.iload_n 1, 1) := by decide +kernel
theorem d37_24 : decode jdk_42_method_92_code 24 = .ok (.isub, 1) := by decide +kernel
theorem d37_25 : decode jdk_42_method_92_code 25 = .ok (.istore 4, 2) := by decide +kernel
theorem d37_27 : decode jdk_42_method_92_code 27 = .ok (.aload_n 0, 1) := by decide +kernel
theorem d37_28 : decode jdk_42_method_92_code 28 = .ok (.invokevirtual 492, 3) := by decide +kernel
theorem d37_31 : decode jdk_42_method_92_code 31 = .ok (.ifCond .eq 16, 3) := by decide +kernel
theorem d37_47 : decode jdk_42_method_92_code 47 = .ok (.aload_n 0, 1) := by decide +kernel
theorem d37_48 : decode jdk_42_method_92_code 48 = .ok (.getfield 9, 3) := by decide +kernel
theorem d37_51 : decode jdk_42_method_92_code 51 = .ok (.iload_n 1, 1) := by decide +kernel
theorem d37_52 : decode jdk_42_method_92_code 52 = .ok (.iload 4, 2) := by decide +kernel
theorem d37_54 : decode jdk_42_method_92_code 54 = .ok (.invokestatic 689, 3) := by decide +kernel
theorem pd__28__5b_BII_29_Ljava_2f_lang_2f_String_3b_ : parseMethodDescriptor "([BII)Ljava/lang/String;" = some ⟨[(.array .byte), .int, .int], some (.object "java/lang/String")⟩ := by decide +kernel
theorem d37_57 : decode jdk_42_method_92_code 57 = .ok (.areturn, 1) := by decide +kernel
theorem d37_34 : decode jdk_42_method_92_code 34 = .ok (.aload_n 0, 1) := by decide +kernel
theorem d37_35 : decode jdk_42_method_92_code 35 = .ok (.getfield 9, 3) := by decide +kernel
theorem d37_38 : decode jdk_42_method_92_code 38 = .ok (.iload_n 1, 1) := by decide +kernel
theorem d37_39 : decode jdk_42_method_92_code 39 = .ok (.iload 4, 2) := by decide +kernel
theorem d37_41 : decode jdk_42_method_92_code 41 = .ok (.invokestatic 685, 3) := by decide +kernel
theorem d37_44 : decode jdk_42_method_92_code 44 = .ok (.goto 13, 3) := by decide +kernel
theorem d37_15 : decode jdk_42_method_92_code 15 = .ok (.iload_n 2, 1) := by decide +kernel
theorem d37_16 : decode jdk_42_method_92_code 16 = .ok (.iload_n 3, 1) := by decide +kernel
theorem d37_17 : decode jdk_42_method_92_code 17 = .ok (.if_icmp .ne 5, 3) := by decide +kernel
theorem d37_20 : decode jdk_42_method_92_code 20 = .ok (.aload_n 0, 1) := by decide +kernel
theorem d37_21 : decode jdk_42_method_92_code 21 = .ok (.areturn, 1) := by decide +kernel
theorem d38_0 : decode jdk_89_method_36_code 0 = .ok (.aload_n 0, 1) := by decide +kernel
theorem d38_1 : decode jdk_89_method_36_code 1 = .ok (.invokeinterface 92 1, 5) := by decide +kernel
theorem d38_6 : decode jdk_89_method_36_code 6 = .ok (.istore_n 3, 1) := by decide +kernel
theorem d38_7 : decode jdk_89_method_36_code 7 = .ok (.iload_n 1, 1) := by decide +kernel
theorem d38_8 : decode jdk_89_method_36_code 8 = .ok (.ifCond .lt 8, 3) := by decide +kernel
theorem d38_11 : decode jdk_89_method_36_code 11 = .ok (.iload_n 1, 1) := by decide +kernel
theorem d38_12 : decode jdk_89_method_36_code 12 = .ok (.iload_n 3, 1) := by decide +kernel
theorem d38_13 : decode jdk_89_method_36_code 13 = .ok (.if_icmp .le 11, 3) := by decide +kernel
theorem d38_24 : decode jdk_89_method_36_code 24 = .ok (.iload_n 1, 1) := by decide +kernel
theorem d38_25 : decode jdk_89_method_36_code 25 = .ok (.istore 4, 2) := by decide +kernel
theorem d38_27 : decode jdk_89_method_36_code 27 = .ok (.iload_n 2, 1) := by decide +kernel
theorem d38_28 : decode jdk_89_method_36_code 28 = .ok (.ifCond .lt 81, 3) := by decide +kernel
theorem d38_31 : decode jdk_89_method_36_code 31 = .ok (.iconst 0, 1) := by decide +kernel
theorem d38_32 : decode jdk_89_method_36_code 32 = .ok (.istore 5, 2) := by decide +kernel
theorem d38_34 : decode jdk_89_method_36_code 34 = .ok (.iload 4, 2) := by decide +kernel
theorem d38_36 : decode jdk_89_method_36_code 36 = .ok (.iload_n 3, 1) := by decide +kernel
theorem d38_37 : decode jdk_89_method_36_code 37 = .ok (.if_icmp .ge 55, 3) := by decide +kernel
theorem d38_92 : decode jdk_89_method_36_code 92 = .ok (.iload 5, 2) := by decide +kernel
theorem d38_94 : decode jdk_89_method_36_code 94 = .ok (.iload_n 2, 1) := by decide +kernel
theorem d38_95 : decode jdk_89_method_36_code 95 = .ok (.if_icmp .ge 11, 3) := by decide +kernel
theorem d38_106 : decode jdk_89_method_36_code 106 = .ok (.goto 76, 3) := by decide +kernel
theorem d38_182 : decode jdk_89_method_36_code 182 = .ok (.iload 4, 2) := by decide +kernel
theorem d38_184 : decode jdk_89_method_36_code 184 = .ok (.ireturn, 1) := by decide +kernel
theorem d38_40 : decode jdk_89_method_36_code 40 = .ok (.iload 5, 2) := by decide +kernel
theorem d38_42 : decode jdk_89_method_36_code 42 = .ok (.iload_n 2, 1) := by decide +kernel
theorem d38_43 : decode jdk_89_method_36_code 43 = .ok (.if_icmp .ge 49, 3) := by decide +kernel
theorem d38_46 : decode jdk_89_method_36_code 46 = .ok (.aload_n 0, 1) := by decide +kernel
theorem d38_47 : decode jdk_89_method_36_code 47 = .ok (.iload 4, 2) := by decide +kernel
theorem d38_49 : decode jdk_89_method_36_code 49 = .ok (.iinc 4 1, 3) := by decide +kernel
theorem pd__28_I_29_C : parseMethodDescriptor "(I)C" = some ⟨[.int], some .char⟩ := by decide +kernel
theorem d38_52 : decode jdk_89_method_36_code 52 = .ok (.invokeinterface 86 2, 5) := by decide +kernel
theorem pd__28_C_29_Z : parseMethodDescriptor "(C)Z" = some ⟨[.char], some .boolean⟩ := by decide +kernel
theorem d38_57 : decode jdk_89_method_36_code 57 = .ok (.invokestatic 78, 3) := by decide +kernel
theorem d38_60 : decode jdk_89_method_36_code 60 = .ok (.ifCond .eq 26, 3) := by decide +kernel
theorem d38_86 : decode jdk_89_method_36_code 86 = .ok (.iinc 5 1, 3) := by decide +kernel
theorem d38_89 : decode jdk_89_method_36_code 89 = .ok (.goto (-55), 3) := by decide +kernel
theorem d38_63 : decode jdk_89_method_36_code 63 = .ok (.iload 4, 2) := by decide +kernel
theorem d38_65 : decode jdk_89_method_36_code 65 = .ok (.iload_n 3, 1) := by decide +kernel
theorem d38_66 : decode jdk_89_method_36_code 66 = .ok (.if_icmp .ge 20, 3) := by decide +kernel
theorem d38_69 : decode jdk_89_method_36_code 69 = .ok (.aload_n 0, 1) := by decide +kernel
theorem d38_70 : decode jdk_89_method_36_code 70 = .ok (.iload 4, 2) := by decide +kernel
theorem d38_72 : decode jdk_89_method_36_code 72 = .ok (.invokeinterface 86 2, 5) := by decide +kernel
theorem d38_77 : decode jdk_89_method_36_code 77 = .ok (.invokestatic 82, 3) := by decide +kernel
theorem d38_80 : decode jdk_89_method_36_code 80 = .ok (.ifCond .eq 6, 3) := by decide +kernel
theorem d38_83 : decode jdk_89_method_36_code 83 = .ok (.iinc 4 1, 3) := by decide +kernel
theorem d39_0 : decode jdk_42_method_60_code 0 = .ok (.aload_n 0, 1) := by decide +kernel
theorem d39_1 : decode jdk_42_method_60_code 1 = .ok (.iload_n 1, 1) := by decide +kernel
theorem d39_2 : decode jdk_42_method_60_code 2 = .ok (.iload_n 2, 1) := by decide +kernel
theorem d39_3 : decode jdk_42_method_60_code 3 = .ok (.invokestatic 517, 3) := by decide +kernel
theorem pd__28_Ljava_2f_lang_2f_CharSequence_3b_II_29_I : parseMethodDescriptor "(Ljava/lang/CharSequence;II)I" = some ⟨[(.object "java/lang/CharSequence"), .int, .int], some .int⟩ := by decide +kernel
theorem d39_6 : decode jdk_42_method_60_code 6 = .ok (.ireturn, 1) := by decide +kernel
theorem d40_0 : decode method_4_code 0 = .ok (.iload_n 0, 1) := by decide +kernel
theorem d40_1 : decode method_4_code 1 = .ok (.ldc 44, 2) := by decide +kernel
theorem d40_3 : decode method_4_code 3 = .ok (.if_icmp .lt 16, 3) := by decide +kernel
theorem d40_19 : decode method_4_code 19 = .ok (.iload_n 0, 1) := by decide +kernel
theorem d40_20 : decode method_4_code 20 = .ok (.i2c, 1) := by decide +kernel
theorem d40_21 : decode method_4_code 21 = .ok (.ireturn, 1) := by decide +kernel
theorem d40_6 : decode method_4_code 6 = .ok (.iload_n 0, 1) := by decide +kernel
theorem d40_7 : decode method_4_code 7 = .ok (.ldc 45, 2) := by decide +kernel
theorem d40_9 : decode method_4_code 9 = .ok (.if_icmp .gt 10, 3) := by decide +kernel
theorem d40_12 : decode method_4_code 12 = .ok (.iload_n 0, 1) := by decide +kernel
theorem d40_13 : decode method_4_code 13 = .ok (.ldc 46, 2) := by decide +kernel
theorem d40_15 : decode method_4_code 15 = .ok (.ixor, 1) := by decide +kernel
theorem d40_16 : decode method_4_code 16 = .ok (.goto 4, 3) := by decide +kernel
theorem pn_com_example_axial_axial_DocumentTextQuotePinLaw : plainName "com/example/axial/axial/DocumentTextQuotePinLaw" = true := by first | (simp [plainName, overriddenIn]; done) | decide +kernel
theorem d41_0 : decode method_3_code 0 = .ok (.iload_n 0, 1) := by decide +kernel
theorem d41_1 : decode method_3_code 1 = .ok (.ifCond .eq 7, 3) := by decide +kernel
theorem d41_8 : decode method_3_code 8 = .ok (.iconst 2, 1) := by decide +kernel
theorem d41_9 : decode method_3_code 9 = .ok (.ireturn, 1) := by decide +kernel
theorem d41_4 : decode method_3_code 4 = .ok (.iconst 1, 1) := by decide +kernel
theorem d41_5 : decode method_3_code 5 = .ok (.goto 4, 3) := by decide +kernel
theorem d42_0 : decode method_5_code 0 = .ok (.iload_n 3, 1) := by decide +kernel
theorem d42_1 : decode method_5_code 1 = .ok (.ifCond .eq 35, 3) := by decide +kernel
theorem d42_36 : decode method_5_code 36 = .ok (.aload_n 0, 1) := by decide +kernel
theorem d42_37 : decode method_5_code 37 = .ok (.iload_n 1, 1) := by decide +kernel
theorem d42_38 : decode method_5_code 38 = .ok (.iload_n 2, 1) := by decide +kernel
theorem d42_39 : decode method_5_code 39 = .ok (.ldc 48, 2) := by decide +kernel
theorem d42_41 : decode method_5_code 41 = .ok (.iand, 1) := by decide +kernel
theorem d42_42 : decode method_5_code 42 = .ok (.invokestatic 49, 3) := by decide +kernel
theorem d42_45 : decode method_5_code 45 = .ok (.castore, 1) := by decide +kernel
theorem d42_46 : decode method_5_code 46 = .ok (.aload_n 0, 1) := by decide +kernel
theorem d42_47 : decode method_5_code 47 = .ok (.iload_n 1, 1) := by decide +kernel
theorem d42_48 : decode method_5_code 48 = .ok (.iconst 1, 1) := by decide +kernel
theorem d42_49 : decode method_5_code 49 = .ok (.iadd, 1) := by decide +kernel
theorem d42_50 : decode method_5_code 50 = .ok (.iload_n 2, 1) := by decide +kernel
theorem d42_51 : decode method_5_code 51 = .ok (.bipush 16, 2) := by decide +kernel
theorem d42_53 : decode method_5_code 53 = .ok (.iushr, 1) := by decide +kernel
theorem d42_54 : decode method_5_code 54 = .ok (.invokestatic 49, 3) := by decide +kernel
theorem d42_57 : decode method_5_code 57 = .ok (.castore, 1) := by decide +kernel
theorem d42_58 : decode method_5_code 58 = .ok (.return_, 1) := by decide +kernel
theorem d42_4 : decode method_5_code 4 = .ok (.aload_n 0, 1) := by decide +kernel
theorem d42_5 : decode method_5_code 5 = .ok (.iload_n 1, 1) := by decide +kernel
theorem d42_6 : decode method_5_code 6 = .ok (.ldc 44, 2) := by decide +kernel
theorem d42_8 : decode method_5_code 8 = .ok (.iload_n 2, 1) := by decide +kernel
theorem d42_9 : decode method_5_code 9 = .ok (.bipush 10, 2) := by decide +kernel
theorem d42_11 : decode method_5_code 11 = .ok (.iushr, 1) := by decide +kernel
theorem d42_12 : decode method_5_code 12 = .ok (.sipush 1023, 3) := by decide +kernel
theorem d42_15 : decode method_5_code 15 = .ok (.iand, 1) := by decide +kernel
theorem d42_16 : decode method_5_code 16 = .ok (.ior, 1) := by decide +kernel
theorem d42_17 : decode method_5_code 17 = .ok (.i2c, 1) := by decide +kernel
theorem d42_18 : decode method_5_code 18 = .ok (.castore, 1) := by decide +kernel
theorem d42_19 : decode method_5_code 19 = .ok (.aload_n 0, 1) := by decide +kernel
theorem d42_20 : decode method_5_code 20 = .ok (.iload_n 1, 1) := by decide +kernel
theorem d42_21 : decode method_5_code 21 = .ok (.iconst 1, 1) := by decide +kernel
theorem d42_22 : decode method_5_code 22 = .ok (.iadd, 1) := by decide +kernel
theorem d42_23 : decode method_5_code 23 = .ok (.ldc 47, 2) := by decide +kernel
theorem d42_25 : decode method_5_code 25 = .ok (.iload_n 2, 1) := by decide +kernel
theorem d42_26 : decode method_5_code 26 = .ok (.sipush 1023, 3) := by decide +kernel
theorem d42_29 : decode method_5_code 29 = .ok (.iand, 1) := by decide +kernel
theorem d42_30 : decode method_5_code 30 = .ok (.ior, 1) := by decide +kernel
theorem d42_31 : decode method_5_code 31 = .ok (.i2c, 1) := by decide +kernel
theorem d42_32 : decode method_5_code 32 = .ok (.castore, 1) := by decide +kernel
theorem d42_33 : decode method_5_code 33 = .ok (.goto 25, 3) := by decide +kernel
theorem d43_0 : decode method_6_code 0 = .ok (.iload_n 1, 1) := by decide +kernel
theorem d43_1 : decode method_6_code 1 = .ok (.invokestatic 13, 3) := by decide +kernel
theorem pd__28_Z_29_I : parseMethodDescriptor "(Z)I" = some ⟨[.boolean], some .int⟩ := by decide +kernel
theorem d43_4 : decode method_6_code 4 = .ok (.istore 4, 2) := by decide +kernel
theorem d43_6 : decode method_6_code 6 = .ok (.iload_n 0, 1) := by decide +kernel
theorem d43_7 : decode method_6_code 7 = .ok (.iload 4, 2) := by decide +kernel
theorem d43_9 : decode method_6_code 9 = .ok (.if_icmp .ge 5, 3) := by decide +kernel
theorem d43_14 : decode method_6_code 14 = .ok (.iload_n 0, 1) := by decide +kernel
theorem d43_15 : decode method_6_code 15 = .ok (.iload 4, 2) := by decide +kernel
theorem d43_17 : decode method_6_code 17 = .ok (.isub, 1) := by decide +kernel
theorem d43_18 : decode method_6_code 18 = .ok (.istore_n 0, 1) := by decide +kernel
theorem d43_19 : decode method_6_code 19 = .ok (.iload_n 2, 1) := by decide +kernel
theorem d43_20 : decode method_6_code 20 = .ok (.invokestatic 13, 3) := by decide +kernel
theorem d43_23 : decode method_6_code 23 = .ok (.istore 5, 2) := by decide +kernel
theorem d43_25 : decode method_6_code 25 = .ok (.iload_n 0, 1) := by decide +kernel
theorem d43_26 : decode method_6_code 26 = .ok (.iload 5, 2) := by decide +kernel
theorem d43_28 : decode method_6_code 28 = .ok (.if_icmp .ge 7, 3) := by decide +kernel
theorem d43_35 : decode method_6_code 35 = .ok (.iload_n 0, 1) := by decide +kernel
theorem d43_36 : decode method_6_code 36 = .ok (.iload 5, 2) := by decide +kernel
theorem d43_38 : decode method_6_code 38 = .ok (.isub, 1) := by decide +kernel
theorem d43_39 : decode method_6_code 39 = .ok (.istore_n 0, 1) := by decide +kernel
theorem d43_40 : decode method_6_code 40 = .ok (.iload_n 3, 1) := by decide +kernel
theorem d43_41 : decode method_6_code 41 = .ok (.invokestatic 13, 3) := by decide +kernel
theorem d43_44 : decode method_6_code 44 = .ok (.istore 6, 2) := by decide +kernel
theorem d43_46 : decode method_6_code 46 = .ok (.iload_n 0, 1) := by decide +kernel
theorem d43_47 : decode method_6_code 47 = .ok (.iload 6, 2) := by decide +kernel
theorem d43_49 : decode method_6_code 49 = .ok (.if_icmp .ge 7, 3) := by decide +kernel
theorem d43_56 : decode method_6_code 56 = .ok (.bipush 6, 2) := by decide +kernel
theorem d43_58 : decode method_6_code 58 = .ok (.ireturn, 1) := by decide +kernel
theorem d43_52 : decode method_6_code 52 = .ok (.iconst 4, 1) := by decide +kernel
theorem d43_53 : decode method_6_code 53 = .ok (.iload_n 0, 1) := by decide +kernel
theorem d43_54 : decode method_6_code 54 = .ok (.iadd, 1) := by decide +kernel
theorem d43_55 : decode method_6_code 55 = .ok (.ireturn, 1) := by decide +kernel
theorem d43_31 : decode method_6_code 31 = .ok (.iconst 2, 1) := by decide +kernel
theorem d43_32 : decode method_6_code 32 = .ok (.iload_n 0, 1) := by decide +kernel
theorem d43_33 : decode method_6_code 33 = .ok (.iadd, 1) := by decide +kernel
theorem d43_34 : decode method_6_code 34 = .ok (.ireturn, 1) := by decide +kernel
theorem d43_12 : decode method_6_code 12 = .ok (.iload_n 0, 1) := by decide +kernel
theorem d43_13 : decode method_6_code 13 = .ok (.ireturn, 1) := by decide +kernel
theorem d44_0 : decode method_7_code 0 = .ok (.iload_n 3, 1) := by decide +kernel
theorem d44_1 : decode method_7_code 1 = .ok (.aload_n 0, 1) := by decide +kernel
theorem d44_2 : decode method_7_code 2 = .ok (.invokevirtual 36, 3) := by decide +kernel
theorem d44_5 : decode method_7_code 5 = .ok (.if_icmp .ge 16, 3) := by decide +kernel
theorem d44_21 : decode method_7_code 21 = .ok (.iconst 1, 1) := by decide +kernel
theorem d44_22 : decode method_7_code 22 = .ok (.goto 4, 3) := by decide +kernel
theorem d44_26 : decode method_7_code 26 = .ok (.ireturn, 1) := by decide +kernel
theorem d44_8 : decode method_7_code 8 = .ok (.aload_n 0, 1) := by decide +kernel
theorem d44_9 : decode method_7_code 9 = .ok (.iload_n 3, 1) := by decide +kernel
theorem d44_10 : decode method_7_code 10 = .ok (.invokevirtual 53, 3) := by decide +kernel
theorem d44_13 : decode method_7_code 13 = .ok (.aload_n 1, 1) := by decide +kernel
theorem d44_14 : decode method_7_code 14 = .ok (.iload_n 2, 1) := by decide +kernel
theorem d44_15 : decode method_7_code 15 = .ok (.iload_n 3, 1) := by decide +kernel
theorem d44_16 : decode method_7_code 16 = .ok (.iadd, 1) := by decide +kernel
theorem d44_17 : decode method_7_code 17 = .ok (.caload, 1) := by decide +kernel
theorem d44_18 : decode method_7_code 18 = .ok (.if_icmp .ne 7, 3) := by decide +kernel
theorem d45_0 : decode prog_2_method_1_code 0 = .ok (.aload_n 0, 1) := by decide +kernel
theorem d45_1 : decode prog_2_method_1_code 1 = .ok (.invokespecial 1, 3) := by decide +kernel
theorem pd__28__29_V : parseMethodDescriptor "()V" = some ⟨[], none⟩ := by decide +kernel
theorem d45_4 : decode prog_2_method_1_code 4 = .ok (.aload_n 0, 1) := by decide +kernel
theorem d45_5 : decode prog_2_method_1_code 5 = .ok (.aload_n 1, 1) := by decide +kernel
theorem d45_6 : decode prog_2_method_1_code 6 = .ok (.putfield 7, 3) := by decide +kernel
theorem d45_9 : decode prog_2_method_1_code 9 = .ok (.return_, 1) := by decide +kernel
theorem pn_com_example_axial_axial_DocumentText : plainName "com/example/axial/axial/DocumentText" = true := by first | (simp [plainName, overriddenIn]; done) | decide +kernel
theorem d46_0 : decode prog_2_method_5_code 0 = .ok (.aload_n 0, 1) := by decide +kernel
theorem d46_1 : decode prog_2_method_5_code 1 = .ok (.getfield 7, 3) := by decide +kernel
theorem d46_4 : decode prog_2_method_5_code 4 = .ok (.iconst 0, 1) := by decide +kernel
theorem d46_5 : decode prog_2_method_5_code 5 = .ok (.iload_n 1, 1) := by decide +kernel
theorem d46_6 : decode prog_2_method_5_code 6 = .ok (.invokevirtual 104, 3) := by decide +kernel
theorem d46_9 : decode prog_2_method_5_code 9 = .ok (.istore_n 3, 1) := by decide +kernel
theorem d46_10 : decode prog_2_method_5_code 10 = .ok (.aload_n 0, 1) := by decide +kernel
theorem d46_11 : decode prog_2_method_5_code 11 = .ok (.getfield 7, 3) := by decide +kernel
theorem d46_14 : decode prog_2_method_5_code 14 = .ok (.iload_n 3, 1) := by decide +kernel
theorem d46_15 : decode prog_2_method_5_code 15 = .ok (.aload_n 0, 1) := by decide +kernel
theorem d46_16 : decode prog_2_method_5_code 16 = .ok (.getfield 7, 3) := by decide +kernel
theorem d46_19 : decode prog_2_method_5_code 19 = .ok (.iload_n 3, 1) := by decide +kernel
theorem d46_20 : decode prog_2_method_5_code 20 = .ok (.iload_n 2, 1) := by decide +kernel
theorem d46_21 : decode prog_2_method_5_code 21 = .ok (.iload_n 1, 1) := by decide +kernel
theorem d46_22 : decode prog_2_method_5_code 22 = .ok (.isub, 1) := by decide +kernel
theorem d46_23 : decode prog_2_method_5_code 23 = .ok (.invokevirtual 104, 3) := by decide +kernel
theorem d46_26 : decode prog_2_method_5_code 26 = .ok (.invokevirtual 107, 3) := by decide +kernel
theorem pd__28_II_29_Ljava_2f_lang_2f_String_3b_ : parseMethodDescriptor "(II)Ljava/lang/String;" = some ⟨[.int, .int], some (.object "java/lang/String")⟩ := by decide +kernel
theorem d46_29 : decode prog_2_method_5_code 29 = .ok (.areturn, 1) := by decide +kernel
theorem pd__28__5b_CIIZ_29_V : parseMethodDescriptor "([CIIZ)V" = some ⟨[(.array .char), .int, .int, .boolean], none⟩ := by decide +kernel
theorem pd__28__5b_C_29_V : parseMethodDescriptor "([C)V" = some ⟨[(.array .char)], none⟩ := by decide +kernel
theorem pd__28_Ljava_2f_lang_2f_String_3b__29_V : parseMethodDescriptor "(Ljava/lang/String;)V" = some ⟨[(.object "java/lang/String")], none⟩ := by decide +kernel
theorem pd__28_IZZZ_29_I : parseMethodDescriptor "(IZZZ)I" = some ⟨[.int, .boolean, .boolean, .boolean], some .int⟩ := by decide +kernel
theorem pd__28_Ljava_2f_lang_2f_String_3b__5b_CII_29_Z : parseMethodDescriptor "(Ljava/lang/String;[CII)Z" = some ⟨[(.object "java/lang/String"), (.array .char), .int, .int], some .boolean⟩ := by decide +kernel
set_option maxRecDepth 65536 in
set_option maxHeartbeats 40000000 in
theorem c_recinit  (B : Base Z a0) {h : Heap} {a : Nat} : Con l Z a0 EL it n0 (⟨"java/lang/Record", "<init>", "()V"⟩ : MethodName) 2 24 0 0 #[.ref a] h [] (fun v h' => v = none ∧ h = h') := by
  refine Met.con (bytes := jdk_30_method_1_code) (maxL := 1) (ret := none) (rm := ({ frames := 1, cells := 0, slots := 0, locals := 12 } : Room)) (Met.of (own := "java/lang/Record") (nm := "<init>") #[.val (.ref a)] (ew B) rfl rfl (plainFor_of_name pn_java_lang_Record) (fun m => by first | (simp [entryFrame, mkF, argsToLocals, Value.category]; done) | rfl) fun K C => ?_) (B.1 _ (List.mem_of_getElem? (i := 73) rfl)) (B.1 _ (List.mem_of_getElem? (i := 72) rfl)) rfl rfl rfl rfl
  refine C.aloadN d0_0 rfl rfl ?_
  refine C.initO 0 (B.1 _ (List.mem_of_getElem? (i := 74) rfl)) (B.1 _ (List.mem_of_getElem? (i := 29) rfl)) (B.1 _ (List.mem_of_getElem? (i := 30) rfl)) d0_1 rfl rfl (by decide) (by decide) ?_
  show C.W h [] 0 0 (mkF K.m 4 #[.val (.ref a)] [])
  exact C.return_ rfl d0_4 (by decide) (by decide) ⟨rfl, rfl⟩
set_option maxRecDepth 65536 in
set_option maxHeartbeats 40000000 in
theorem c_cfal  (B : Base Z a0) {h : Heap} {d : Nat} {n cd : Int32} {cs : List Int32} {vs : List Value} (Ad : Ary Z h d .byte vs) (cod : Codes cs cd vs) (hn : n.toInt = cs.length) (h0 : 0 < n.toInt) : Con l Z a0 EL it n0 (⟨"java/lang/StringUTF16", "coderFromArrayLen", "([BI)B"⟩ : MethodName) 1 13 0 0 #[.ref d, .int n] h [] (fun v h' => v = some (.int cd) ∧ h = h') := by
  refine Met.con (bytes := jdk_52_method_15_code) (maxL := 2) (ret := (some .byte)) (rm := ({ frames := 0, cells := 0, slots := 0, locals := 0 } : Room)) (Met.of (own := "java/lang/StringUTF16") (nm := "coderFromArrayLen") #[.val (.ref d), .val (.int n)] (ew B) rfl rfl (plainFor_of_name pn_java_lang_StringUTF16) (fun m => by first | (simp [entryFrame, mkF, argsToLocals, Value.category]; done) | rfl) fun K C => ?_) (B.1 _ (List.mem_of_getElem? (i := 61) rfl)) (B.1 _ (List.mem_of_getElem? (i := 34) rfl)) rfl rfl rfl rfl
  have lA := Ad.len
  have em : (Int32.ofNat vs.length).toInt = vs.length := ofNat_int lA
  refine C.iloadN d1_0 rfl ?_
  refine C.aloadN d1_1 rfl rfl ?_
  refine C.alen (n := (Int32.ofNat vs.length)) Ad em d1_2 ?_
  refine C.isub d1_3 ?_
  refine C.bipush (v := (31 : Int32)) d1_4 (by first | rfl | decide) ?_
  refine C.iushr d1_6 ?_
  refine C.i2b d1_7 ?_
  refine C.topI (show ((n - (Int32.ofNat vs.length)).toUInt32 >>> ((31 : Int32) &&& 31).toUInt32).toInt32.toInt8.toInt32 = cd by exact cfal_eq cod hn h0 lA) ?_
  exact C.ireturn (t := .byte) rfl (by simp) (by rcases cod.cd with rfl | rfl <;> rfl) d1_8 (by decide) (by decide) ⟨rfl, rfl⟩
set_option maxRecDepth 65536 in
set_option maxHeartbeats 40000000 in
theorem c_cmp5  (B : Base Z a0) {h : Heap} {b d : Nat} {n : Int32} {cs : List Int32} (Ab : Ary Z h b .char (cs.map Value.int)) (Ad : Ary Z h d .byte (List.replicate cs.length (.int 0))) (nbd : b ≠ d) (hn : n.toInt = cs.length) (hp : (∀ c ∈ cs, 0 ≤ c.toInt ∧ c.toInt < 65536)) : Con l Z a0 EL it n0 (⟨"java/lang/StringUTF16", "compress", "([CI[BII)I"⟩ : MethodName) 1 18 0 0 #[.ref b, .int (0 : Int32), .ref d, .int (0 : Int32), .int n] h [d] (fun v h' => (v = some (.int n) ∧ (∀ c ∈ cs, c.toInt < 256) ∧ Ary Z h' d .byte (cs.map fun c => Value.int (lo8 c))) ∨ ∃ (k : Nat) (c : Int32), v = some (.int (Int32.ofNat k)) ∧ cs[k]? = some c ∧ 255 < c.toInt) := by
  refine Met.con (bytes := jdk_52_method_21_code) (maxL := 7) (ret := (some .int)) (rm := ({ frames := 0, cells := 0, slots := 0, locals := 0 } : Room)) (Met.of (own := "java/lang/StringUTF16") (nm := "compress") #[.val (.ref b), .val (.int (0 : Int32)), .val (.ref d), .val (.int (0 : Int32)), .val (.int n), .unset, .unset] (ew B) rfl rfl (plainFor_of_name pn_java_lang_StringUTF16) (fun m => by first | (simp [entryFrame, mkF, argsToLocals, Value.category]; done) | rfl) fun K C => ?_) (B.1 _ (List.mem_of_getElem? (i := 39) rfl)) (B.1 _ (List.mem_of_getElem? (i := 34) rfl)) rfl rfl rfl rfl
  have hlen := Ab.len
  rw [List.length_map] at hlen
  have k255 : (255 : Int32).toInt = 255 := by decide
  refine C.iconst (v := (0 : Int32)) d2_0 (by first | rfl | decide) ?_
  refine C.istore #[.val (.ref b), .val (.int (0 : Int32)), .val (.ref d), .val (.int (0 : Int32)), .val (.int n), .val (.int (0 : Int32)), .unset] d2_1 rfl ?_
  suffices LOOP : ∀ (j k : Nat) (h1 : Heap) (s6 : Slot), j + k = cs.length → One s6 → (∀ c ∈ cs.take k, c.toInt < 256) → Ary Z h1 b .char (cs.map Value.int) → Ary Z h1 d .byte ((cs.take k).map (fun c => Value.int (lo8 c)) ++ List.replicate j (.int 0)) → C.W h1 [d] 0 0 (mkF K.m 3 #[.val (.ref b), .val (.int (Int32.ofNat k)), .val (.ref d), .val (.int (Int32.ofNat k)), .val (.int n), .val (.int (Int32.ofNat k)), s6] []) from LOOP cs.length 0 h .unset (by omega) One.u (by simp) Ab Ad
  intro j
  induction j with
  | zero =>
    intro k h1 s6 hjk h6 hlt Ab Ad
    have ek : (Int32.ofNat k).toInt = k := ofNat_int (by omega)
    refine C.iload d2_3 rfl ?_
    refine C.iload d2_5 rfl ?_
    refine C.icmp_ge 44 d2_7 (by decide) (by decide) (fun q1 => ?_) (fun q1 => ?_)
    · refine C.iload d2_44 rfl ?_
      have ek2 : cs.take k = cs := List.take_of_length_le (by omega)
      rw [ek2] at Ad hlt
      exact C.ireturn (t := .int) rfl (by simp) rfl d2_46 (by decide) (by decide) (Or.inl ⟨rfl, hlt, by simpa using Ad⟩)
    · exfalso; omega
  | succ j ih =>
    intro k h1 s6 hjk h6 hlt Ab Ad
    have ek : (Int32.ofNat k).toInt = k := ofNat_int (by omega)
    refine C.iload d2_3 rfl ?_
    refine C.iload d2_5 rfl ?_
    refine C.icmp_ge 44 d2_7 (by decide) (by decide) (fun q2 => ?_) (fun q2 => ?_)
    · exfalso; omega
    · obtain ⟨c, hc⟩ : ∃ c, cs[k]? = some c := ⟨_, List.getElem?_eq_getElem (by omega)⟩
      have hcb := hp c (List.mem_of_getElem? hc)
      refine C.aloadN d2_10 rfl rfl ?_
      refine C.iloadN d2_11 rfl ?_
      refine C.caload (x := c) k Ab ek (by simp [hc]) d2_12 ?_
      refine C.istore #[.val (.ref b), .val (.int (Int32.ofNat k)), .val (.ref d), .val (.int (Int32.ofNat k)), .val (.int n), .val (.int (Int32.ofNat k)), .val (.int c)] d2_13 (XS.store1 rfl h6 rfl) ?_
      refine C.iload d2_15 rfl ?_
      refine C.sipush (v := (255 : Int32)) d2_17 (by first | rfl | decide) ?_
      refine C.icmp_le 26 d2_20 (by decide) (by decide) (fun q3 => ?_) (fun q3 => ?_)
      · refine C.aloadN d2_26 rfl rfl ?_
        refine C.iloadN d2_27 rfl ?_
        refine C.iload d2_28 rfl ?_
        refine C.i2b d2_30 ?_
        refine C.bastore k Ad ek (by simp; omega) d2_31 (List.mem_of_getElem? (i := 0) rfl) fun h4 z4 K4 Aw4 => ?_
        show C.W h4 [d] 0 0 (mkF K.m 32 #[.val (.ref b), .val (.int (Int32.ofNat k)), .val (.ref d), .val (.int (Int32.ofNat k)), .val (.int n), .val (.int (Int32.ofNat k)), .val (.int c)] [])
        have A4' : Ary Z h4 d .byte ((cs.take (k + 1)).map (fun c => Value.int (lo8 c)) ++ List.replicate j (.int 0)) := by
          rw [lo8_lo8] at Aw4
          rwa [← fill_step (fun c => Value.int (lo8 c)) (.int 0) hc]
        refine C.iinc (z := (1 : Int32)) #[.val (.ref b), .val (.int ((Int32.ofNat k) + (1 : Int32))), .val (.ref d), .val (.int (Int32.ofNat k)), .val (.int n), .val (.int (Int32.ofNat k)), .val (.int c)] d2_32 rfl (by first | rfl | decide) rfl ?_
        refine C.iinc (z := (1 : Int32)) #[.val (.ref b), .val (.int ((Int32.ofNat k) + (1 : Int32))), .val (.ref d), .val (.int ((Int32.ofNat k) + (1 : Int32))), .val (.int n), .val (.int (Int32.ofNat k)), .val (.int c)] d2_35 rfl (by first | rfl | decide) rfl ?_
        refine C.iinc (z := (1 : Int32)) #[.val (.ref b), .val (.int ((Int32.ofNat k) + (1 : Int32))), .val (.ref d), .val (.int ((Int32.ofNat k) + (1 : Int32))), .val (.int n), .val (.int ((Int32.ofNat k) + (1 : Int32))), .val (.int c)] d2_38 rfl (by first | rfl | decide) rfl ?_
        refine C.goto 3 d2_41 (by decide) (by decide) ?_
        rw [ofNat_succ]
        exact ih (k + 1) h4 _ (by omega) (One.val rfl) (take_all hlt hc (by omega)) (Ab.keep K4 (ninS nbd nin0)) A4'
      · refine C.iload d2_23 rfl ?_
        exact C.ireturn (t := .int) rfl (by simp) rfl d2_25 (by decide) (by decide) (Or.inr ⟨k, c, rfl, hc, by omega⟩)
set_option maxRecDepth 65536 in
set_option maxHeartbeats 40000000 in
theorem c_nbl  (B : Base Z a0) {h : Heap} {n : Int32} (hn : 0 ≤ n.toInt ∧ n.toInt ≤ 4000) : Con l Z a0 EL it n0 (⟨"java/lang/StringUTF16", "newBytesLength", "(I)I"⟩ : MethodName) 1 12 0 0 #[.int n] h [] (fun v h' => ∃ m : Int32, v = some (.int m) ∧ m.toInt = 2 * n.toInt ∧ h = h') := by
  refine Met.con (bytes := jdk_52_method_3_code) (maxL := 1) (ret := (some .int)) (rm := ({ frames := 0, cells := 0, slots := 0, locals := 0 } : Room)) (Met.of (own := "java/lang/StringUTF16") (nm := "newBytesLength") #[.val (.int n)] (ew B) rfl rfl (plainFor_of_name pn_java_lang_StringUTF16) (fun m => by first | (simp [entryFrame, mkF, argsToLocals, Value.category]; done) | rfl) fun K C => ?_) (B.1 _ (List.mem_of_getElem? (i := 48) rfl)) (B.1 _ (List.mem_of_getElem? (i := 34) rfl)) rfl rfl rfl rfl
  have kM : (1073741823 : Int32).toInt = 1073741823 := by decide
  refine C.iloadN d3_0 rfl ?_
  refine C.ifc_ge 12 d3_1 (by decide) (by decide) (fun q1 => ?_) (fun q1 => ?_)
  · refine C.iloadN d3_12 rfl ?_
    refine C.ldcInt (v := (1073741823 : Int32)) (B.1 _ (List.mem_of_getElem? (i := 49) rfl)) d3_13 ?_
    refine C.icmp_lt 55 d3_15 (by decide) (by decide) (fun q2 => ?_) (fun q2 => ?_)
    · refine C.iloadN d3_55 rfl ?_
      refine C.iconst (v := (1 : Int32)) d3_56 (by first | rfl | decide) ?_
      refine C.ishl d3_57 ?_
      exact C.ireturn (t := .int) rfl (by simp) rfl d3_58 (by decide) (by decide) ⟨_, rfl, shl1 (by omega) (by omega), rfl⟩
    · exfalso; omega
  · exfalso; omega
set_option maxRecDepth 65536 in
set_option maxHeartbeats 40000000 in
theorem c_nbf  (B : Base Z a0) {h : Heap} {n : Int32} {k : Nat} (hn : n.toInt = k) (hk : k ≤ 6) : Con l Z a0 EL it n0 (⟨"java/lang/StringUTF16", "newBytesFor", "(I)[B"⟩ : MethodName) 2 24 1 12 #[.int n] h [] (fun v h' => ∃ d : Nat, v = some (.ref d) ∧ h.size ≤ d ∧ d < h'.size ∧ n0 ≤ d ∧ Ary Z h' d .byte (List.replicate (2 * k) (.int 0))) := by
  refine Met.con (bytes := jdk_52_method_2_code) (maxL := 1) (ret := (some (.array .byte))) (rm := ({ frames := 1, cells := 1, slots := 12, locals := 12 } : Room)) (Met.of (own := "java/lang/StringUTF16") (nm := "newBytesFor") #[.val (.int n)] (ew B) rfl rfl (plainFor_of_name pn_java_lang_StringUTF16) (fun m => by first | (simp [entryFrame, mkF, argsToLocals, Value.category]; done) | rfl) fun K C => ?_) (B.1 _ (List.mem_of_getElem? (i := 45) rfl)) (B.1 _ (List.mem_of_getElem? (i := 34) rfl)) rfl rfl rfl rfl
  refine C.iloadN d4_0 rfl ?_
  refine C.callS [.int n] [] 0 (B.1 _ (List.mem_of_getElem? (i := 46) rfl)) (B.1 _ (List.mem_of_getElem? (i := 47) rfl)) (B.1 _ (List.mem_of_getElem? (i := 34) rfl)) (B.1 _ (List.mem_of_getElem? (i := 48) rfl)) (by decide) pd__28_I_29_I rfl id (c_nbl B (n := n) (by omega)) d4_1 rfl rfl rfl (by decide) (by decide) (by decide) (by decide) all0 fun v1 h1 z1 K1 q1 => ?_
  obtain ⟨m, rfl, hm, rfl⟩ := q1
  show C.W h [] 0 0 (mkF K.m 4 #[.val (.int n)] [.int m])
  refine C.newarr (2 * k) 12 (B.1 _ (List.mem_of_getElem? (i := 36) rfl)) d4_4 (by omega) (by omega) (by decide) (by decide) (by decide) fun h2 a3 g2 z2 o2 K2 An2 => ?_
  show C.W h2 [a3] 1 12 (mkF K.m 6 #[.val (.int n)] [.ref a3])
  exact C.areturn rfl rfl rfl d4_6 (by decide) (by decide) ⟨a3, rfl, by omega, by omega, o2, An2⟩
set_option maxRecDepth 65536 in
set_option maxHeartbeats 40000000 in
theorem c_putChar  (B : Base Z a0) {h : Heap} {d k : Nat} {i c : Int32} {vs : List Value} (Ad : Ary Z h d .byte vs) (hi : i.toInt = k) (hk : 2 * k + 1 < vs.length) : Con l Z a0 EL it n0 (⟨"java/lang/StringUTF16", "putChar", "([BII)V"⟩ : MethodName) 1 14 0 0 #[.ref d, .int i, .int c] h [d] (fun v h' => v = none ∧ Ary Z h' d .byte ((vs.set (2 * k) (.int (lo8 c))).set (2 * k + 1) (.int (hi8 c)))) := by
  refine Met.con (bytes := jdk_52_method_4_code) (maxL := 3) (ret := none) (rm := ({ frames := 0, cells := 0, slots := 0, locals := 0 } : Room)) (Met.of (own := "java/lang/StringUTF16") (nm := "putChar") #[.val (.ref d), .val (.int i), .val (.int c)] (ew B) rfl rfl (plainFor_of_name pn_java_lang_StringUTF16) (fun m => by first | (simp [entryFrame, mkF, argsToLocals, Value.category]; done) | rfl) fun K C => ?_) (B.1 _ (List.mem_of_getElem? (i := 52) rfl)) (B.1 _ (List.mem_of_getElem? (i := 34) rfl)) rfl rfl rfl rfl
  have lA := Ad.len
  have k1 : (1 : Int32).toInt = 1 := rfl
  have e2 := shl1 (x := i) (by omega) (by omega)
  have e3 : ((i <<< ((1 : Int32) &&& 31)) + (1 : Int32)).toInt = 2 * k + 1 := by rw [add_int (by omega) (by omega)]; omega
  refine C.getS (B.1 _ (List.mem_of_getElem? (i := 53) rfl)) Via.refl B.2.2.2.1 d5_0 ?_
  refine C.ifc_ne 28 d5_3 (by decide) (by decide) (fun q1 => ?_) (fun q1 => ?_)
  · refine C.iloadN d5_28 rfl ?_
    refine C.iconst (v := (1 : Int32)) d5_29 (by first | rfl | decide) ?_
    refine C.ishl d5_30 ?_
    refine C.istoreN #[.val (.ref d), .val (.int (i <<< ((1 : Int32) &&& 31))), .val (.int c)] d5_31 rfl ?_
    refine C.aloadN d5_32 rfl rfl ?_
    refine C.iloadN d5_33 rfl ?_
    refine C.iinc (z := (1 : Int32)) #[.val (.ref d), .val (.int ((i <<< ((1 : Int32) &&& 31)) + (1 : Int32))), .val (.int c)] d5_34 rfl (by first | rfl | decide) rfl ?_
    refine C.iloadN d5_37 rfl ?_
    refine C.getS (B.1 _ (List.mem_of_getElem? (i := 54) rfl)) Via.refl B.2.2.2.2.1 d5_38 ?_
    refine C.ishr d5_41 ?_
    refine C.topI (show (c >>> ((0 : Int32) &&& 31)) = c by exact shr0 c) ?_
    refine C.i2b d5_42 ?_
    refine C.bastore (2 * k) Ad (by omega) (by omega) d5_43 (List.mem_of_getElem? (i := 0) rfl) fun h2 z2 K2 Aw2 => ?_
    show C.W h2 [d] 0 0 (mkF K.m 44 #[.val (.ref d), .val (.int ((i <<< ((1 : Int32) &&& 31)) + (1 : Int32))), .val (.int c)] [])
    rw [lo8_lo8] at Aw2
    refine C.aloadN d5_44 rfl rfl ?_
    refine C.iloadN d5_45 rfl ?_
    refine C.iloadN d5_46 rfl ?_
    refine C.getS (B.1 _ (List.mem_of_getElem? (i := 55) rfl)) Via.refl B.2.2.2.2.2 d5_47 ?_
    refine C.ishr d5_50 ?_
    refine C.i2b d5_51 ?_
    refine C.bastore (2 * k + 1) Aw2 (by omega) (by simp; omega) d5_52 (List.mem_of_getElem? (i := 0) rfl) fun h3 z3 K3 Aw3 => ?_
    show C.W h3 [d] 0 0 (mkF K.m 53 #[.val (.ref d), .val (.int ((i <<< ((1 : Int32) &&& 31)) + (1 : Int32))), .val (.int c)] [])
    rw [lo8_lo8] at Aw3
    exact C.return_ rfl d5_53 (by decide) (by decide) ⟨rfl, Aw3⟩
  · exfalso; revert q1; decide
set_option maxRecDepth 65536 in
set_option maxHeartbeats 40000000 in
theorem c_getChar  (B : Base Z a0) {h : Heap} {d k : Nat} {i c : Int32} {cs : List Int32} (Ad : Ary Z h d .byte (wide cs)) (hi : i.toInt = k) (hc : cs[k]? = some c) (hb : 0 ≤ c.toInt ∧ c.toInt < 65536) : Con l Z a0 EL it n0 (⟨"java/lang/StringUTF16", "getChar", "([BI)C"⟩ : MethodName) 1 13 0 0 #[.ref d, .int i] h [] (fun v h' => v = some (.int c) ∧ h = h') := by
  refine Met.con (bytes := jdk_52_method_5_code) (maxL := 2) (ret := (some .char)) (rm := ({ frames := 0, cells := 0, slots := 0, locals := 0 } : Room)) (Met.of (own := "java/lang/StringUTF16") (nm := "getChar") #[.val (.ref d), .val (.int i)] (ew B) rfl rfl (plainFor_of_name pn_java_lang_StringUTF16) (fun m => by first | (simp [entryFrame, mkF, argsToLocals, Value.category]; done) | rfl) fun K C => ?_) (B.1 _ (List.mem_of_getElem? (i := 58) rfl)) (B.1 _ (List.mem_of_getElem? (i := 34) rfl)) rfl rfl rfl rfl
  have lA := Ad.len
  rw [wide_len] at lA
  have hk : k < cs.length := (List.getElem?_eq_some_iff.mp hc).1
  obtain ⟨g1, g2⟩ := wide_get hc
  have k1 : (1 : Int32).toInt = 1 := rfl
  have e2 := shl1 (x := i) (by omega) (by omega)
  have e3 : ((i <<< ((1 : Int32) &&& 31)) + (1 : Int32)).toInt = 2 * k + 1 := by rw [add_int (by omega) (by omega)]; omega
  refine C.getS (B.1 _ (List.mem_of_getElem? (i := 53) rfl)) Via.refl B.2.2.2.1 d6_0 ?_
  refine C.ifc_ne 28 d6_3 (by decide) (by decide) (fun q1 => ?_) (fun q1 => ?_)
  · refine C.iloadN d6_28 rfl ?_
    refine C.iconst (v := (1 : Int32)) d6_29 (by first | rfl | decide) ?_
    refine C.ishl d6_30 ?_
    refine C.istoreN #[.val (.ref d), .val (.int (i <<< ((1 : Int32) &&& 31)))] d6_31 rfl ?_
    refine C.aloadN d6_32 rfl rfl ?_
    refine C.iloadN d6_33 rfl ?_
    refine C.iinc (z := (1 : Int32)) #[.val (.ref d), .val (.int ((i <<< ((1 : Int32) &&& 31)) + (1 : Int32)))] d6_34 rfl (by first | rfl | decide) rfl ?_
    refine C.baload (x := (lo8 c)) (2 * k) Ad (by omega) g1 d6_37 ?_
    refine C.sipush (v := (255 : Int32)) d6_38 (by first | rfl | decide) ?_
    refine C.iand d6_41 ?_
    refine C.getS (B.1 _ (List.mem_of_getElem? (i := 54) rfl)) Via.refl B.2.2.2.2.1 d6_42 ?_
    refine C.ishl d6_45 ?_
    refine C.aloadN d6_46 rfl rfl ?_
    refine C.iloadN d6_47 rfl ?_
    refine C.baload (x := (hi8 c)) (2 * k + 1) Ad (by omega) g2 d6_48 ?_
    refine C.sipush (v := (255 : Int32)) d6_49 (by first | rfl | decide) ?_
    refine C.iand d6_52 ?_
    refine C.getS (B.1 _ (List.mem_of_getElem? (i := 55) rfl)) Via.refl B.2.2.2.2.2 d6_53 ?_
    refine C.ishl d6_56 ?_
    refine C.ior d6_57 ?_
    refine C.i2c d6_58 ?_
    refine C.topI (show ((((lo8 c) &&& (255 : Int32)) <<< ((0 : Int32) &&& 31)) ||| (((hi8 c) &&& (255 : Int32)) <<< ((8 : Int32) &&& 31))).toUInt32.toUInt16.toUInt32.toInt32 = c by exact pair_chr hb.1 hb.2) ?_
    exact C.ireturn (t := .char) rfl (by simp) (nchar hb.1 hb.2) d6_59 (by decide) (by decide) ⟨rfl, rfl⟩
  · exfalso; revert q1; decide
set_option maxRecDepth 65536 in
set_option maxHeartbeats 40000000 in
theorem c_toBytes  (B : Base Z a0) {h : Heap} {b : Nat} {n : Int32} {cs : List Int32} (Ab : Ary Z h b .char (cs.map Value.int)) (hn : n.toInt = cs.length) (hc : cs.length ≤ 6) : Con l Z a0 EL it n0 (⟨"java/lang/StringUTF16", "toBytes", "([CII)[B"⟩ : MethodName) 3 40 1 12 #[.ref b, .int (0 : Int32), .int n] h [] (fun v h' => ∃ d : Nat, v = some (.ref d) ∧ h.size ≤ d ∧ d < h'.size ∧ Ary Z h' d .byte (wide cs)) := by
  refine Met.con (bytes := jdk_52_method_14_code) (maxL := 5) (ret := (some (.array .byte))) (rm := ({ frames := 2, cells := 1, slots := 12, locals := 24 } : Room)) (Met.of (own := "java/lang/StringUTF16") (nm := "toBytes") #[.val (.ref b), .val (.int (0 : Int32)), .val (.int n), .unset, .unset] (ew B) rfl rfl (plainFor_of_name pn_java_lang_StringUTF16) (fun m => by first | (simp [entryFrame, mkF, argsToLocals, Value.category]; done) | rfl) fun K C => ?_) (B.1 _ (List.mem_of_getElem? (i := 42) rfl)) (B.1 _ (List.mem_of_getElem? (i := 34) rfl)) rfl rfl rfl rfl
  have lb := Ab.lt
  refine C.iloadN d7_0 rfl ?_
  refine C.callSo [.int n] [] 0 (B.1 _ (List.mem_of_getElem? (i := 43) rfl)) (B.1 _ (List.mem_of_getElem? (i := 44) rfl)) (B.1 _ (List.mem_of_getElem? (i := 34) rfl)) (B.1 _ (List.mem_of_getElem? (i := 45) rfl)) (by decide) pd__28_I_29__5b_B rfl (c_nbf (it := False) B hn hc) d7_1 rfl rfl rfl (by decide) (by decide) (by decide) (by decide) all0 fun v1 h1 z1 K1 q1 => ?_
  obtain ⟨d, rfl, ld, lt, nd, Ad⟩ := q1
  refine ⟨[d], fun x hx => by cases List.mem_singleton.mp hx; exact ⟨ld, lt⟩, ?_⟩
  show C.W h1 [d] 1 12 (mkF K.m 4 #[.val (.ref b), .val (.int (0 : Int32)), .val (.int n), .unset, .unset] [.ref d])
  refine C.astoreN #[.val (.ref b), .val (.int (0 : Int32)), .val (.int n), .val (.ref d), .unset] d7_4 rfl rfl ?_
  refine C.iconst (v := (0 : Int32)) d7_5 (by first | rfl | decide) ?_
  refine C.istore #[.val (.ref b), .val (.int (0 : Int32)), .val (.int n), .val (.ref d), .val (.int (0 : Int32))] d7_6 rfl ?_
  have Ab_2 := (Ab.keep K1 nin0)
  suffices LOOP : ∀ (j k : Nat) (hL : Heap), j + k = cs.length → h1.size ≤ hL.size → Ary Z hL b .char (cs.map Value.int) → Ary Z hL d .byte (wide (cs.take k) ++ List.replicate (2 * j) (.int 0)) → C.W hL [d] 1 12 (mkF K.m 8 #[.val (.ref b), .val (.int (Int32.ofNat k)), .val (.int n), .val (.ref d), .val (.int (Int32.ofNat k))] []) from LOOP cs.length 0 h1 (by omega) (Nat.le_refl _) Ab_2 Ad
  intro j
  induction j with
  | zero =>
    intro k hL hjk hsz Ab Ad
    have ek : (Int32.ofNat k).toInt = k := ofNat_int (by omega)
    refine C.iload d7_8 rfl ?_
    refine C.iloadN d7_10 rfl ?_
    refine C.icmp_ge 32 d7_11 (by decide) (by decide) (fun q3 => ?_) (fun q3 => ?_)
    · refine C.aloadN d7_32 rfl rfl ?_
      rw [List.take_of_length_le (by omega)] at Ad
      exact C.areturn rfl rfl rfl d7_33 (by decide) (by decide) ⟨d, rfl, ld, by omega, by simpa using Ad⟩
    · exfalso; omega
  | succ j ih =>
    intro k hL hjk hsz Ab Ad
    have ek : (Int32.ofNat k).toInt = k := ofNat_int (by omega)
    refine C.iload d7_8 rfl ?_
    refine C.iloadN d7_10 rfl ?_
    refine C.icmp_ge 32 d7_11 (by decide) (by decide) (fun q4 => ?_) (fun q4 => ?_)
    · exfalso; omega
    · obtain ⟨c, hc⟩ : ∃ c, cs[k]? = some c := ⟨_, List.getElem?_eq_getElem (by omega)⟩
      refine C.aloadN d7_14 rfl rfl ?_
      refine C.iload d7_15 rfl ?_
      refine C.aloadN d7_17 rfl rfl ?_
      refine C.iloadN d7_18 rfl ?_
      refine C.caload (x := c) k Ab ek (by simp [hc]) d7_19 ?_
      refine C.callS [.ref d, .int (Int32.ofNat k), .int c] [] 0 (B.1 _ (List.mem_of_getElem? (i := 50) rfl)) (B.1 _ (List.mem_of_getElem? (i := 51) rfl)) (B.1 _ (List.mem_of_getElem? (i := 34) rfl)) (B.1 _ (List.mem_of_getElem? (i := 52) rfl)) (by decide) pd__28__5b_BII_29_V rfl id (c_putChar B (c := c) Ad ek (by simp [wide_len]; omega)) d7_20 rfl rfl rfl (by decide) (by decide) (by decide) (by decide) (allS (List.mem_of_getElem? (i := 0) rfl) all0) fun v5 h5 z5 K5 q5 => ?_
      obtain ⟨rfl, Ad5⟩ := q5
      show C.W h5 [d] 1 12 (mkF K.m 23 #[.val (.ref b), .val (.int (Int32.ofNat k)), .val (.int n), .val (.ref d), .val (.int (Int32.ofNat k))] [])
      refine C.iinc (z := (1 : Int32)) #[.val (.ref b), .val (.int ((Int32.ofNat k) + (1 : Int32))), .val (.int n), .val (.ref d), .val (.int (Int32.ofNat k))] d7_23 rfl (by first | rfl | decide) rfl ?_
      refine C.iinc (z := (1 : Int32)) #[.val (.ref b), .val (.int ((Int32.ofNat k) + (1 : Int32))), .val (.int n), .val (.ref d), .val (.int ((Int32.ofNat k) + (1 : Int32)))] d7_26 rfl (by first | rfl | decide) rfl ?_
      refine C.goto 8 d7_29 (by decide) (by decide) ?_
      rw [ofNat_succ]
      rw [wide_step hc] at Ad5
      exact ih (k + 1) h5 (by omega) (by omega) (Ab.keep K5 (ninS (neA (by omega)) nin0)) Ad5
set_option maxRecDepth 65536 in
set_option maxHeartbeats 40000000 in
theorem c_cmp3  (B : Base Z a0) {h : Heap} {b : Nat} {n : Int32} {cs : List Int32} (Ab : Ary Z h b .char (cs.map Value.int)) (hn : n.toInt = cs.length) (hc : cs.length ≤ 6) (hp : (∀ c ∈ cs, 0 ≤ c.toInt ∧ c.toInt < 65536)) : Con l Z a0 EL it n0 (⟨"java/lang/StringUTF16", "compress", "([CII)[B"⟩ : MethodName) 4 57 2 18 #[.ref b, .int (0 : Int32), .int n] h [] (fun v h' => ∃ (d : Nat) (cd : Int32) (vs : List Value), v = some (.ref d) ∧ h.size ≤ d ∧ d < h'.size ∧ Ary Z h' d .byte vs ∧ Codes cs cd vs) := by
  refine Met.con (bytes := jdk_52_method_16_code) (maxL := 6) (ret := (some (.array .byte))) (rm := ({ frames := 3, cells := 2, slots := 18, locals := 40 } : Room)) (Met.of (own := "java/lang/StringUTF16") (nm := "compress") #[.val (.ref b), .val (.int (0 : Int32)), .val (.int n), .unset, .unset, .unset] (ew B) rfl rfl (plainFor_of_name pn_java_lang_StringUTF16) (fun m => by first | (simp [entryFrame, mkF, argsToLocals, Value.category]; done) | rfl) fun K C => ?_) (B.1 _ (List.mem_of_getElem? (i := 35) rfl)) (B.1 _ (List.mem_of_getElem? (i := 34) rfl)) rfl rfl rfl rfl
  have lb := Ab.lt
  have k255 : (255 : Int32).toInt = 255 := by decide
  refine C.iloadN d8_0 rfl ?_
  refine C.newarr cs.length 6 (B.1 _ (List.mem_of_getElem? (i := 36) rfl)) d8_1 hn hc (by decide) (by decide) (by decide) fun h1 a2 g1 z1 o1 K1 An1 => ?_
  show C.W h1 [a2] 1 6 (mkF K.m 3 #[.val (.ref b), .val (.int (0 : Int32)), .val (.int n), .unset, .unset, .unset] [.ref a2])
  refine C.astoreN #[.val (.ref b), .val (.int (0 : Int32)), .val (.int n), .val (.ref a2), .unset, .unset] d8_3 rfl rfl ?_
  refine C.aloadN d8_4 rfl rfl ?_
  refine C.iloadN d8_5 rfl ?_
  refine C.aloadN d8_6 rfl rfl ?_
  refine C.iconst (v := (0 : Int32)) d8_7 (by first | rfl | decide) ?_
  refine C.iloadN d8_8 rfl ?_
  have Ab_3 := (Ab.keep K1 nin0)
  refine C.callS [.ref b, .int (0 : Int32), .ref a2, .int (0 : Int32), .int n] [] 0 (B.1 _ (List.mem_of_getElem? (i := 37) rfl)) (B.1 _ (List.mem_of_getElem? (i := 38) rfl)) (B.1 _ (List.mem_of_getElem? (i := 34) rfl)) (B.1 _ (List.mem_of_getElem? (i := 39) rfl)) (by decide) pd__28__5b_CI_5b_BII_29_I rfl id (c_cmp5 B Ab_3 An1 (neA (by omega)) hn hp) d8_9 rfl rfl rfl (by decide) (by decide) (by decide) (by decide) (allS (List.mem_of_getElem? (i := 0) rfl) all0) fun v4 h4 z4 K4 q4 => ?_
  have hq := q4
  rcases hq with ⟨rfl, hlt, A4⟩ | ⟨k, c, rfl, hk, hgt⟩
  · skip
    show C.W h4 [a2] 1 6 (mkF K.m 12 #[.val (.ref b), .val (.int (0 : Int32)), .val (.int n), .val (.ref a2), .unset, .unset] [.int n])
    refine C.istore #[.val (.ref b), .val (.int (0 : Int32)), .val (.int n), .val (.ref a2), .val (.int n), .unset] d8_12 rfl ?_
    refine C.iload d8_14 rfl ?_
    refine C.iloadN d8_16 rfl ?_
    refine C.icmp_eq 57 d8_17 (by decide) (by decide) (fun q5 => ?_) (fun q5 => ?_)
    · refine C.aloadN d8_57 rfl rfl ?_
      exact C.areturn rfl rfl rfl d8_58 (by decide) (by decide) ⟨a2, 0, _, rfl, by omega, by omega, A4, Or.inl ⟨rfl, rfl, fun c hcm => ⟨(hp c hcm).1, hlt c hcm⟩⟩⟩
    · exfalso; exact absurd rfl q5
  · skip
    show C.W h4 [a2] 1 6 (mkF K.m 12 #[.val (.ref b), .val (.int (0 : Int32)), .val (.int n), .val (.ref a2), .unset, .unset] [.int (Int32.ofNat k)])
    have hkl : k < cs.length := (List.getElem?_eq_some_iff.mp hk).1
    have ek : (Int32.ofNat k).toInt = k := ofNat_int (by omega)
    refine C.istore #[.val (.ref b), .val (.int (0 : Int32)), .val (.int n), .val (.ref a2), .val (.int (Int32.ofNat k)), .unset] d8_12 rfl ?_
    refine C.iload d8_14 rfl ?_
    refine C.iloadN d8_16 rfl ?_
    refine C.icmp_eq 57 d8_17 (by decide) (by decide) (fun q6 => ?_) (fun q6 => ?_)
    · exfalso; omega
    · refine C.aloadN d8_20 rfl rfl ?_
      refine C.iloadN d8_21 rfl ?_
      refine C.iloadN d8_22 rfl ?_
      have Ab_7 := (Ab_3.keep K4 (ninS (neA (by omega)) nin0))
      refine C.callS [.ref b, .int (0 : Int32), .int n] [] 0 (B.1 _ (List.mem_of_getElem? (i := 40) rfl)) (B.1 _ (List.mem_of_getElem? (i := 41) rfl)) (B.1 _ (List.mem_of_getElem? (i := 34) rfl)) (B.1 _ (List.mem_of_getElem? (i := 42) rfl)) (by decide) pd__28__5b_CII_29__5b_B rfl id (c_toBytes B Ab_7 hn hc) d8_23 rfl rfl rfl (by decide) (by decide) (by decide) (by decide) all0 fun v8 h8 z8 K8 q8 => ?_
      obtain ⟨d, rfl, ld, lt, Ad⟩ := q8
      show C.W h8 [a2] 2 18 (mkF K.m 26 #[.val (.ref b), .val (.int (0 : Int32)), .val (.int n), .val (.ref a2), .val (.int (Int32.ofNat k)), .unset] [.ref d])
      refine C.astore #[.val (.ref b), .val (.int (0 : Int32)), .val (.int n), .val (.ref a2), .val (.int (Int32.ofNat k)), .val (.ref d)] d8_26 rfl rfl ?_
      refine C.aload d8_28 rfl rfl ?_
      refine C.iload d8_30 rfl ?_
      refine C.callS [.ref d, .int (Int32.ofNat k)] [] 0 (B.1 _ (List.mem_of_getElem? (i := 56) rfl)) (B.1 _ (List.mem_of_getElem? (i := 57) rfl)) (B.1 _ (List.mem_of_getElem? (i := 34) rfl)) (B.1 _ (List.mem_of_getElem? (i := 58) rfl)) (by decide) pd__28__5b_BI_29_C rfl id (c_getChar B Ad ek hk (hp c (List.mem_of_getElem? hk))) d8_32 rfl rfl rfl (by decide) (by decide) (by decide) (by decide) all0 fun v9 h9 z9 K9 q9 => ?_
      obtain ⟨rfl, rfl⟩ := q9
      show C.W h8 [a2] 2 18 (mkF K.m 35 #[.val (.ref b), .val (.int (0 : Int32)), .val (.int n), .val (.ref a2), .val (.int (Int32.ofNat k)), .val (.ref d)] [.int c])
      refine C.sipush (v := (255 : Int32)) d8_35 (by first | rfl | decide) ?_
      refine C.icmp_gt 54 d8_38 (by decide) (by decide) (fun q10 => ?_) (fun q10 => ?_)
      · refine C.aload d8_54 rfl rfl ?_
        exact C.areturn rfl rfl rfl d8_56 (by decide) (by decide) ⟨d, 1, _, rfl, by omega, by omega, Ad, Or.inr ⟨rfl, rfl, hp, c, List.mem_of_getElem? hk, hgt⟩⟩
      · exfalso; omega
set_option maxRecDepth 65536 in
set_option maxHeartbeats 40000000 in
theorem c_init4  (B : Base Z a0) {h : Heap} {x b : Nat} {n : Int32} {cs : List Int32} {v0 c0 : Value} (Ex : Exa Z h x "java/lang/String") (Fv : Fld Z h x "java/lang/String" "value" "[B" v0) (Fc : Fld Z h x "java/lang/String" "coder" "B" c0) (Ab : Ary Z h b .char (cs.map Value.int)) (hn : n.toInt = cs.length) (hc : cs.length ≤ 6) (hp : (∀ c ∈ cs, 0 ≤ c.toInt ∧ c.toInt < 65536)) (hne : cs ≠ []) : Con l Z a0 EL it n0 (⟨"java/lang/String", "<init>", "([CIILjava/lang/Void;)V"⟩ : MethodName) 5 74 2 18 #[.ref x, .ref b, .int (0 : Int32), .int n, .null] h [x] (fun v h' => v = none ∧ Str Z h' h'.size x cs) := by
  refine Met.con (bytes := jdk_42_method_149_code) (maxL := 6) (ret := none) (rm := ({ frames := 4, cells := 2, slots := 18, locals := 57 } : Room)) (Met.of (own := "java/lang/String") (nm := "<init>") #[.val (.ref x), .val (.ref b), .val (.int (0 : Int32)), .val (.int n), .val .null, .unset] (ew B) rfl rfl (plainFor_of_name pn_java_lang_String) (fun m => by first | (simp [entryFrame, mkF, argsToLocals, Value.category]; done) | rfl) fun K C => ?_) (B.1 _ (List.mem_of_getElem? (i := 27) rfl)) (B.1 _ (List.mem_of_getElem? (i := 20) rfl)) rfl rfl rfl rfl
  obtain ⟨zc, Sc, hzc⟩ := B.2.1
  have lx := exaLt Ex
  have lb := Ab.lt
  refine C.aloadN d9_0 rfl rfl ?_
  refine C.initO 0 (B.1 _ (List.mem_of_getElem? (i := 28) rfl)) (B.1 _ (List.mem_of_getElem? (i := 29) rfl)) (B.1 _ (List.mem_of_getElem? (i := 30) rfl)) d9_1 rfl rfl (by decide) (by decide) ?_
  show C.W h [x] 0 0 (mkF K.m 4 #[.val (.ref x), .val (.ref b), .val (.int (0 : Int32)), .val (.int n), .val .null, .unset] [])
  refine C.iloadN d9_4 rfl ?_
  refine C.ifc_ne 27 d9_5 (by decide) (by decide) (fun q1 => ?_) (fun q1 => ?_)
  · refine C.getS (B.1 _ (List.mem_of_getElem? (i := 31) rfl)) Via.refl Sc d9_27 ?_
    refine C.ifc_eq 58 d9_30 (by decide) (by decide) (fun q2 => ?_) (fun q2 => ?_)
    · exfalso; exact hzc (Int32.toInt_inj.mp q2)
    · refine C.aloadN d9_33 rfl rfl ?_
      refine C.iloadN d9_34 rfl ?_
      refine C.iloadN d9_35 rfl ?_
      refine C.callS [.ref b, .int (0 : Int32), .int n] [] 0 (B.1 _ (List.mem_of_getElem? (i := 32) rfl)) (B.1 _ (List.mem_of_getElem? (i := 33) rfl)) (B.1 _ (List.mem_of_getElem? (i := 34) rfl)) (B.1 _ (List.mem_of_getElem? (i := 35) rfl)) (by decide) pd__28__5b_CII_29__5b_B rfl id (c_cmp3 B Ab hn hc hp) d9_36 rfl rfl rfl (by decide) (by decide) (by decide) (by decide) all0 fun v3 h3 z3 K3 q3 => ?_
      obtain ⟨d3, cd3, vs3, rfl, ld3, lt3, A3, cod3⟩ := q3
      show C.W h3 [x] 2 18 (mkF K.m 39 #[.val (.ref x), .val (.ref b), .val (.int (0 : Int32)), .val (.int n), .val .null, .unset] [.ref d3])
      refine C.astore #[.val (.ref x), .val (.ref b), .val (.int (0 : Int32)), .val (.int n), .val .null, .val (.ref d3)] d9_39 rfl rfl ?_
      refine C.aloadN d9_41 rfl rfl ?_
      refine C.aload d9_42 rfl rfl ?_
      refine C.iloadN d9_44 rfl ?_
      refine C.callS [.ref d3, .int n] [.ref x] 1 (B.1 _ (List.mem_of_getElem? (i := 59) rfl)) (B.1 _ (List.mem_of_getElem? (i := 60) rfl)) (B.1 _ (List.mem_of_getElem? (i := 34) rfl)) (B.1 _ (List.mem_of_getElem? (i := 61) rfl)) (by decide) pd__28__5b_BI_29_B rfl id (c_cfal B A3 cod3 hn (by omega)) d9_45 rfl rfl rfl (by decide) (by decide) (by decide) (by decide) all0 fun v4 h4 z4 K4 q4 => ?_
      obtain ⟨rfl, rfl⟩ := q4
      show C.W h3 [x] 2 18 (mkF K.m 48 #[.val (.ref x), .val (.ref b), .val (.int (0 : Int32)), .val (.int n), .val .null, .val (.ref d3)] [.int cd3, .ref x])
      have Fc_5 := (Fc.keep K3 nin0)
      have Ex_6 := (Ex.keep K3)
      have Fv_7 := (Fv.keep K3 nin0)
      refine C.putF (host := "") (Or.inl (B.1 _ (List.mem_of_getElem? (i := 62) rfl))) Via.refl Fc_5 Ex_6 (Or.inr ⟨(B.1 _ (List.mem_of_getElem? (i := 63) rfl)), rfl, rfl⟩) (B.1 _ (List.mem_of_getElem? (i := 19) rfl)) (ty := .byte) (by decide) (by rcases cod3.cd with e | e <;> rw [e] <;> rfl) (by rcases cod3.cd with e | e <;> rw [e] <;> rfl) d9_48 (List.mem_of_getElem? (i := 0) rfl) fun h8 z8 K8 Ew8 Fw8 Gw8 => ?_
      have Fv_9 := Gw8 (slot_ne (Or.inr (B.1 _ (List.mem_of_getElem? (i := 65) rfl))) (Or.inr (B.1 _ (List.mem_of_getElem? (i := 63) rfl))) (by decide) (t := (.array .byte)) (t' := .byte) (by decide) (by decide)) Fv_7
      show C.W h8 [x] 2 18 (mkF K.m 51 #[.val (.ref x), .val (.ref b), .val (.int (0 : Int32)), .val (.int n), .val .null, .val (.ref d3)] [])
      refine C.aloadN d9_51 rfl rfl ?_
      refine C.aload d9_52 rfl rfl ?_
      refine C.putF (host := "") (Or.inl (B.1 _ (List.mem_of_getElem? (i := 64) rfl))) Via.refl Fv_9 Ew8 (Or.inr ⟨(B.1 _ (List.mem_of_getElem? (i := 65) rfl)), rfl, rfl⟩) (B.1 _ (List.mem_of_getElem? (i := 19) rfl)) (ty := (.array .byte)) (by decide) rfl rfl d9_54 (List.mem_of_getElem? (i := 0) rfl) fun h10 z10 K10 Ew10 Fw10 Gw10 => ?_
      have Fc_11 := Gw10 (slot_ne (Or.inr (B.1 _ (List.mem_of_getElem? (i := 63) rfl))) (Or.inr (B.1 _ (List.mem_of_getElem? (i := 65) rfl))) (by decide) (t := .byte) (t' := (.array .byte)) (by decide) (by decide)) Fw8
      show C.W h10 [x] 2 18 (mkF K.m 57 #[.val (.ref x), .val (.ref b), .val (.int (0 : Int32)), .val (.int n), .val .null, .val (.ref d3)] [])
      have A3_12 := ((A3.keep K8 (ninS (neA (by omega)) nin0)).keep K10 (ninS (neA (by omega)) nin0))
      exact C.return_ rfl d9_57 (by decide) (by decide) ⟨rfl, Ew10, by omega, Nat.le_refl _, d3, _, _, by omega, Fw10, Fc_11, A3_12, cod3⟩
  · have ecs : cs = [] := List.length_eq_zero_iff.mp (by omega)
    exfalso; exact hne ecs
set_option maxRecDepth 65536 in
set_option maxHeartbeats 40000000 in
theorem c_init1  (B : Base Z a0) {h : Heap} {x b : Nat} {cs : List Int32} {v0 c0 : Value} (Ex : Exa Z h x "java/lang/String") (Fv : Fld Z h x "java/lang/String" "value" "[B" v0) (Fc : Fld Z h x "java/lang/String" "coder" "B" c0) (Ab : Ary Z h b .char (cs.map Value.int)) (hc : cs.length ≤ 6) (hp : (∀ c ∈ cs, 0 ≤ c.toInt ∧ c.toInt < 65536)) (hne : cs ≠ []) : Con l Z a0 EL it n0 (⟨"java/lang/String", "<init>", "([C)V"⟩ : MethodName) 6 87 2 18 #[.ref x, .ref b] h [x] (fun v h' => v = none ∧ Str Z h' h'.size x cs) := by
  refine Met.con (bytes := jdk_42_method_3_code) (maxL := 2) (ret := none) (rm := ({ frames := 5, cells := 2, slots := 18, locals := 74 } : Room)) (Met.of (own := "java/lang/String") (nm := "<init>") #[.val (.ref x), .val (.ref b)] (ew B) rfl rfl (plainFor_of_name pn_java_lang_String) (fun m => by first | (simp [entryFrame, mkF, argsToLocals, Value.category]; done) | rfl) fun K C => ?_) (B.1 _ (List.mem_of_getElem? (i := 23) rfl)) (B.1 _ (List.mem_of_getElem? (i := 20) rfl)) rfl rfl rfl rfl
  have hn : (Int32.ofNat cs.length).toInt = cs.length := ofNat_int (by omega)
  refine C.aloadN d10_0 rfl rfl ?_
  refine C.aloadN d10_1 rfl rfl ?_
  refine C.iconst (v := (0 : Int32)) d10_2 (by first | rfl | decide) ?_
  refine C.aloadN d10_3 rfl rfl ?_
  refine C.alen (n := (Int32.ofNat cs.length)) Ab (by simpa using hn) d10_4 ?_
  refine C.aconstNull d10_5 ?_
  refine C.callN x [.ref b, .int (0 : Int32), .int (Int32.ofNat cs.length), .null] [] 0 (B.1 _ (List.mem_of_getElem? (i := 24) rfl)) (B.1 _ (List.mem_of_getElem? (i := 25) rfl)) (B.1 _ (List.mem_of_getElem? (i := 27) rfl)) rfl (by decide) pd__28__5b_CIILjava_2f_lang_2f_Void_3b__29_V rfl id (c_init4 B Ex Fv Fc Ab hn hc hp hne) d10_6 rfl rfl rfl (by decide) (by decide) (by decide) (by decide) (allS (List.mem_of_getElem? (i := 0) rfl) all0) fun v1 h1 z1 K1 q1 => ?_
  obtain ⟨rfl, S1⟩ := q1
  show C.W h1 [x] 2 18 (mkF K.m 9 #[.val (.ref x), .val (.ref b)] [])
  exact C.return_ rfl d10_9 (by decide) (by decide) ⟨rfl, S1⟩
set_option maxRecDepth 65536 in
set_option maxHeartbeats 40000000 in
theorem c_initBB  (B : Base Z a0) {h : Heap} {x d : Nat} {cd : Int32} {v0 c0 : Value} (Ex : Exa Z h x "java/lang/String") (Fv : Fld Z h x "java/lang/String" "value" "[B" v0) (Fc : Fld Z h x "java/lang/String" "coder" "B" c0) (hcd : cd = 0 ∨ cd = 1) : Con l Z a0 EL it n0 (⟨"java/lang/String", "<init>", "([BB)V"⟩ : MethodName) 2 26 0 0 #[.ref x, .ref d, .int cd] h [x] (fun v h' => v = none ∧ Exa Z h' x "java/lang/String" ∧ Fld Z h' x "java/lang/String" "value" "[B" (.ref d) ∧ Fld Z h' x "java/lang/String" "coder" "B" (.int cd)) := by
  refine Met.con (bytes := jdk_42_method_151_code) (maxL := 3) (ret := none) (rm := ({ frames := 1, cells := 0, slots := 0, locals := 12 } : Room)) (Met.of (own := "java/lang/String") (nm := "<init>") #[.val (.ref x), .val (.ref d), .val (.int cd)] (ew B) rfl rfl (plainFor_of_name pn_java_lang_String) (fun m => by first | (simp [entryFrame, mkF, argsToLocals, Value.category]; done) | rfl) fun K C => ?_) (B.1 _ (List.mem_of_getElem? (i := 199) rfl)) (B.1 _ (List.mem_of_getElem? (i := 20) rfl)) rfl rfl rfl rfl
  refine C.aloadN d11_0 rfl rfl ?_
  refine C.initO 0 (B.1 _ (List.mem_of_getElem? (i := 28) rfl)) (B.1 _ (List.mem_of_getElem? (i := 29) rfl)) (B.1 _ (List.mem_of_getElem? (i := 30) rfl)) d11_1 rfl rfl (by decide) (by decide) ?_
  show C.W h [x] 0 0 (mkF K.m 4 #[.val (.ref x), .val (.ref d), .val (.int cd)] [])
  refine C.aloadN d11_4 rfl rfl ?_
  refine C.aloadN d11_5 rfl rfl ?_
  refine C.putF (host := "") (Or.inl (B.1 _ (List.mem_of_getElem? (i := 64) rfl))) Via.refl Fv Ex (Or.inr ⟨(B.1 _ (List.mem_of_getElem? (i := 65) rfl)), rfl, rfl⟩) (B.1 _ (List.mem_of_getElem? (i := 19) rfl)) (ty := (.array .byte)) (by decide) rfl rfl d11_6 (List.mem_of_getElem? (i := 0) rfl) fun h1 z1 K1 Ew1 Fw1 Gw1 => ?_
  have Fc_2 := Gw1 (slot_ne (Or.inr (B.1 _ (List.mem_of_getElem? (i := 63) rfl))) (Or.inr (B.1 _ (List.mem_of_getElem? (i := 65) rfl))) (by decide) (t := .byte) (t' := (.array .byte)) (by decide) (by decide)) Fc
  show C.W h1 [x] 0 0 (mkF K.m 9 #[.val (.ref x), .val (.ref d), .val (.int cd)] [])
  refine C.aloadN d11_9 rfl rfl ?_
  refine C.iloadN d11_10 rfl ?_
  refine C.putF (host := "") (Or.inl (B.1 _ (List.mem_of_getElem? (i := 62) rfl))) Via.refl Fc_2 Ew1 (Or.inr ⟨(B.1 _ (List.mem_of_getElem? (i := 63) rfl)), rfl, rfl⟩) (B.1 _ (List.mem_of_getElem? (i := 19) rfl)) (ty := .byte) (by decide) (by rcases hcd with rfl | rfl <;> rfl) (by rcases hcd with rfl | rfl <;> rfl) d11_11 (List.mem_of_getElem? (i := 0) rfl) fun h3 z3 K3 Ew3 Fw3 Gw3 => ?_
  have Fv_4 := Gw3 (slot_ne (Or.inr (B.1 _ (List.mem_of_getElem? (i := 65) rfl))) (Or.inr (B.1 _ (List.mem_of_getElem? (i := 63) rfl))) (by decide) (t := (.array .byte)) (t' := .byte) (by decide) (by decide)) Fw1
  show C.W h3 [x] 0 0 (mkF K.m 14 #[.val (.ref x), .val (.ref d), .val (.int cd)] [])
  exact C.return_ rfl d11_14 (by decide) (by decide) ⟨rfl, Ew3, Fv_4, Fw3⟩
set_option maxRecDepth 65536 in
set_option maxHeartbeats 40000000 in
theorem c_coder  (B : Base Z a0) {h : Heap} {x : Nat} {cd : Int32} (Fc : Fld Z h x "java/lang/String" "coder" "B" (.int cd)) (hcd : cd = 0 ∨ cd = 1) : Con l Z a0 EL it n0 (⟨"java/lang/String", "coder", "()B"⟩ : MethodName) 1 12 0 0 #[.ref x] h [] (fun v h' => v = some (.int cd) ∧ h = h') := by
  refine Met.con (bytes := jdk_42_method_152_code) (maxL := 1) (ret := (some .byte)) (rm := ({ frames := 0, cells := 0, slots := 0, locals := 0 } : Room)) (Met.of (own := "java/lang/String") (nm := "coder") #[.val (.ref x)] (ew B) rfl rfl (plainFor_of_name pn_java_lang_String) (fun m => by first | (simp [entryFrame, mkF, argsToLocals, Value.category]; done) | rfl) fun K C => ?_) (B.1 _ (List.mem_of_getElem? (i := 104) rfl)) (B.1 _ (List.mem_of_getElem? (i := 20) rfl)) rfl rfl rfl rfl
  obtain ⟨zc, Sc, hzc⟩ := B.2.1
  refine C.getS (B.1 _ (List.mem_of_getElem? (i := 31) rfl)) Via.refl Sc d12_0 ?_
  refine C.ifc_eq 13 d12_3 (by decide) (by decide) (fun q1 => ?_) (fun q1 => ?_)
  · exfalso; exact hzc (Int32.toInt_inj.mp q1)
  · refine C.aloadN d12_6 rfl rfl ?_
    refine C.getF (host := "") (Or.inl (B.1 _ (List.mem_of_getElem? (i := 62) rfl))) Via.refl Fc d12_7 ?_
    refine C.goto 14 d12_10 (by decide) (by decide) ?_
    exact C.ireturn (t := .byte) rfl (by simp) (by rcases hcd with rfl | rfl <;> rfl) d12_14 (by decide) (by decide) ⟨rfl, rfl⟩
set_option maxRecDepth 65536 in
set_option maxHeartbeats 40000000 in
theorem c_length  (B : Base Z a0) {h : Heap} {N : Nat} {x : Nat} {cs : List Int32} (S : Str Z h N x cs) : Con l Z a0 EL it n0 (⟨"java/lang/String", "length", "()I"⟩ : MethodName) 2 25 0 0 #[.ref x] h [] (fun v h' => v = some (.int (Int32.ofNat cs.length)) ∧ h = h') := by
  refine Met.con (bytes := jdk_42_method_54_code) (maxL := 1) (ret := (some .int)) (rm := ({ frames := 1, cells := 0, slots := 0, locals := 13 } : Room)) (Met.of (own := "java/lang/String") (nm := "length") #[.val (.ref x)] (ew B) rfl rfl (plainFor_of_name pn_java_lang_String) (fun m => by first | (simp [entryFrame, mkF, argsToLocals, Value.category]; done) | rfl) fun K C => ?_) (B.1 _ (List.mem_of_getElem? (i := 99) rfl)) (B.1 _ (List.mem_of_getElem? (i := 20) rfl)) rfl rfl rfl rfl
  obtain ⟨Ex, lx, lN, t, cd, vs, lt, Fv, Fc, At, cod⟩ := S
  have hl := At.len
  have hn : (Int32.ofNat vs.length).toInt = vs.length := ofNat_int hl
  refine C.aloadN d13_0 rfl rfl ?_
  refine C.getF (host := "") (Or.inl (B.1 _ (List.mem_of_getElem? (i := 64) rfl))) Via.refl Fv d13_1 ?_
  refine C.alen (n := (Int32.ofNat vs.length)) At hn d13_4 ?_
  refine C.aloadN d13_5 rfl rfl ?_
  refine C.callV x [] [.int (Int32.ofNat vs.length)] 1 (B.1 _ (List.mem_of_getElem? (i := 100) rfl)) (B.1 _ (List.mem_of_getElem? (i := 101) rfl)) (B.1 _ (List.mem_of_getElem? (i := 103) rfl)) (B.1 _ (List.mem_of_getElem? (i := 102) rfl)) (by decide) rfl Ex pd__28__29_B rfl id (c_coder B Fc cod.cd) d13_6 rfl rfl rfl (by decide) (by decide) (by decide) (by decide) all0 fun v1 h1 z1 K1 q1 => ?_
  obtain ⟨rfl, rfl⟩ := q1
  show C.W h [] 0 0 (mkF K.m 9 #[.val (.ref x)] [.int cd, .int (Int32.ofNat vs.length)])
  refine C.ishr d13_9 ?_
  refine C.topI (show ((Int32.ofNat vs.length) >>> (cd &&& 31)) = (Int32.ofNat cs.length) by exact cod.len hl) ?_
  exact C.ireturn (t := .int) rfl (by simp) rfl d13_10 (by decide) (by decide) ⟨rfl, rfl⟩
set_option maxRecDepth 65536 in
set_option maxHeartbeats 40000000 in
theorem c_isLat  (B : Base Z a0) {h : Heap} {x : Nat} {cd : Int32} (Fc : Fld Z h x "java/lang/String" "coder" "B" (.int cd)) : Con l Z a0 EL it n0 (⟨"java/lang/String", "isLatin1", "()Z"⟩ : MethodName) 1 12 0 0 #[.ref x] h [] (fun v h' => v = some (.int (if cd = 0 then 1 else 0)) ∧ h = h') := by
  refine Met.con (bytes := jdk_42_method_154_code) (maxL := 1) (ret := (some .boolean)) (rm := ({ frames := 0, cells := 0, slots := 0, locals := 0 } : Room)) (Met.of (own := "java/lang/String") (nm := "isLatin1") #[.val (.ref x)] (ew B) rfl rfl (plainFor_of_name pn_java_lang_String) (fun m => by first | (simp [entryFrame, mkF, argsToLocals, Value.category]; done) | rfl) fun K C => ?_) (B.1 _ (List.mem_of_getElem? (i := 117) rfl)) (B.1 _ (List.mem_of_getElem? (i := 20) rfl)) rfl rfl rfl rfl
  obtain ⟨zc, Sc, hzc⟩ := B.2.1
  refine C.getS (B.1 _ (List.mem_of_getElem? (i := 31) rfl)) Via.refl Sc d14_0 ?_
  refine C.ifc_eq 17 d14_3 (by decide) (by decide) (fun q1 => ?_) (fun q1 => ?_)
  · exfalso; exact hzc (Int32.toInt_inj.mp q1)
  · refine C.aloadN d14_6 rfl rfl ?_
    refine C.getF (host := "") (Or.inl (B.1 _ (List.mem_of_getElem? (i := 62) rfl))) Via.refl Fc d14_7 ?_
    refine C.ifc_ne 17 d14_10 (by decide) (by decide) (fun q2 => ?_) (fun q2 => ?_)
    · refine C.iconst (v := (0 : Int32)) d14_17 (by first | rfl | decide) ?_
      exact C.ireturn (t := .boolean) rfl (by simp) rfl d14_18 (by decide) (by decide) ⟨by rw [if_neg (fun e => q2 (by rw [e]; rfl))], rfl⟩
    · refine C.iconst (v := (1 : Int32)) d14_13 (by first | rfl | decide) ?_
      refine C.goto 18 d14_14 (by decide) (by decide) ?_
      exact C.ireturn (t := .boolean) rfl (by simp) rfl d14_18 (by decide) (by decide) ⟨by rw [if_pos (Int32.toInt_inj.mp q2)], rfl⟩
set_option maxRecDepth 65536 in
set_option maxHeartbeats 40000000 in
theorem c_pciN  (B : Base Z a0) {h : Heap} {i n : Int32} (h0 : 0 ≤ i.toInt) (h1 : i.toInt < n.toInt) : Con l Z a0 EL it n0 (⟨"jdk/internal/util/Preconditions", "checkIndex", "(IILjava/util/function/BiFunction;)I"⟩ : MethodName) 1 14 0 0 #[.int i, .int n, .null] h [] (fun v h' => v = some (.int i) ∧ h = h') := by
  refine Met.con (bytes := jdk_41_method_11_code) (maxL := 3) (ret := (some .int)) (rm := ({ frames := 0, cells := 0, slots := 0, locals := 0 } : Room)) (Met.of (own := "jdk/internal/util/Preconditions") (nm := "checkIndex") #[.val (.int i), .val (.int n), .val .null] (ew B) rfl rfl (plainFor_of_name pn_jdk_internal_util_Preconditions) (fun m => by first | (simp [entryFrame, mkF, argsToLocals, Value.category]; done) | rfl) fun K C => ?_) (B.1 _ (List.mem_of_getElem? (i := 134) rfl)) (B.1 _ (List.mem_of_getElem? (i := 131) rfl)) rfl rfl rfl rfl
  refine C.iloadN d15_0 rfl ?_
  refine C.ifc_lt 9 d15_1 (by decide) (by decide) (fun q1 => ?_) (fun q1 => ?_)
  · exfalso; omega
  · refine C.iloadN d15_4 rfl ?_
    refine C.iloadN d15_5 rfl ?_
    refine C.icmp_lt 16 d15_6 (by decide) (by decide) (fun q2 => ?_) (fun q2 => ?_)
    · refine C.iloadN d15_16 rfl ?_
      exact C.ireturn (t := .int) rfl (by simp) rfl d15_17 (by decide) (by decide) ⟨rfl, rfl⟩
    · exfalso; omega
set_option maxRecDepth 65536 in
set_option maxHeartbeats 40000000 in
theorem c_pciA  (B : Base Z a0) {h : Heap} {i n : Int32} {g : Nat} (h0 : 0 ≤ i.toInt) (h1 : i.toInt < n.toInt) : Con l Z a0 EL it n0 (⟨"jdk/internal/util/Preconditions", "checkIndex", "(IILjava/util/function/BiFunction;)I"⟩ : MethodName) 1 14 0 0 #[.int i, .int n, .ref g] h [] (fun v h' => v = some (.int i) ∧ h = h') := by
  refine Met.con (bytes := jdk_41_method_11_code) (maxL := 3) (ret := (some .int)) (rm := ({ frames := 0, cells := 0, slots := 0, locals := 0 } : Room)) (Met.of (own := "jdk/internal/util/Preconditions") (nm := "checkIndex") #[.val (.int i), .val (.int n), .val (.ref g)] (ew B) rfl rfl (plainFor_of_name pn_jdk_internal_util_Preconditions) (fun m => by first | (simp [entryFrame, mkF, argsToLocals, Value.category]; done) | rfl) fun K C => ?_) (B.1 _ (List.mem_of_getElem? (i := 134) rfl)) (B.1 _ (List.mem_of_getElem? (i := 131) rfl)) rfl rfl rfl rfl
  refine C.iloadN d15_0 rfl ?_
  refine C.ifc_lt 9 d15_1 (by decide) (by decide) (fun q1 => ?_) (fun q1 => ?_)
  · exfalso; omega
  · refine C.iloadN d15_4 rfl ?_
    refine C.iloadN d15_5 rfl ?_
    refine C.icmp_lt 16 d15_6 (by decide) (by decide) (fun q2 => ?_) (fun q2 => ?_)
    · refine C.iloadN d15_16 rfl ?_
      exact C.ireturn (t := .int) rfl (by simp) rfl d15_17 (by decide) (by decide) ⟨rfl, rfl⟩
    · exfalso; omega
set_option maxRecDepth 65536 in
set_option maxHeartbeats 40000000 in
theorem c_sci  (B : Base Z a0) {h : Heap} {i n : Int32} (h0 : 0 ≤ i.toInt) (h1 : i.toInt < n.toInt) : Con l Z a0 EL it n0 (⟨"java/lang/String", "checkIndex", "(II)V"⟩ : MethodName) 2 27 0 0 #[.int i, .int n] h [] (fun v h' => v = none ∧ h = h') := by
  refine Met.con (bytes := jdk_42_method_155_code) (maxL := 2) (ret := none) (rm := ({ frames := 1, cells := 0, slots := 0, locals := 14 } : Room)) (Met.of (own := "java/lang/String") (nm := "checkIndex") #[.val (.int i), .val (.int n)] (ew B) rfl rfl (plainFor_of_name pn_java_lang_String) (fun m => by first | (simp [entryFrame, mkF, argsToLocals, Value.category]; done) | rfl) fun K C => ?_) (B.1 _ (List.mem_of_getElem? (i := 129) rfl)) (B.1 _ (List.mem_of_getElem? (i := 20) rfl)) rfl rfl rfl rfl
  obtain ⟨fm, Sf, hf⟩ := B.2.2.1
  rcases ref_cases hf with rfl | ⟨f, rfl⟩
  · skip
    refine C.iloadN d16_0 rfl ?_
    refine C.iloadN d16_1 rfl ?_
    refine C.getS (B.1 _ (List.mem_of_getElem? (i := 130) rfl)) Via.refl Sf d16_2 ?_
    refine C.callS [.int i, .int n, .null] [] 0 (B.1 _ (List.mem_of_getElem? (i := 132) rfl)) (B.1 _ (List.mem_of_getElem? (i := 133) rfl)) (B.1 _ (List.mem_of_getElem? (i := 131) rfl)) (B.1 _ (List.mem_of_getElem? (i := 134) rfl)) (by decide) pd__28_IILjava_2f_util_2f_function_2f_BiFunction_3b__29_I rfl id (c_pciN B h0 h1) d16_5 rfl rfl rfl (by decide) (by decide) (by decide) (by decide) all0 fun v1 h1 z1 K1 q1 => ?_
    obtain ⟨rfl, rfl⟩ := q1
    show C.W h [] 0 0 (mkF K.m 8 #[.val (.int i), .val (.int n)] [.int i])
    refine C.pop rfl d16_8 ?_
    exact C.return_ rfl d16_9 (by decide) (by decide) ⟨rfl, rfl⟩
  · skip
    refine C.iloadN d16_0 rfl ?_
    refine C.iloadN d16_1 rfl ?_
    refine C.getS (B.1 _ (List.mem_of_getElem? (i := 130) rfl)) Via.refl Sf d16_2 ?_
    refine C.callS [.int i, .int n, .ref f] [] 0 (B.1 _ (List.mem_of_getElem? (i := 132) rfl)) (B.1 _ (List.mem_of_getElem? (i := 133) rfl)) (B.1 _ (List.mem_of_getElem? (i := 131) rfl)) (B.1 _ (List.mem_of_getElem? (i := 134) rfl)) (by decide) pd__28_IILjava_2f_util_2f_function_2f_BiFunction_3b__29_I rfl id (c_pciA B h0 h1) d16_5 rfl rfl rfl (by decide) (by decide) (by decide) (by decide) all0 fun v2 h2 z2 K2 q2 => ?_
    obtain ⟨rfl, rfl⟩ := q2
    show C.W h [] 0 0 (mkF K.m 8 #[.val (.int i), .val (.int n)] [.int i])
    refine C.pop rfl d16_8 ?_
    exact C.return_ rfl d16_9 (by decide) (by decide) ⟨rfl, rfl⟩
set_option maxRecDepth 65536 in
set_option maxHeartbeats 40000000 in
theorem c_l1cha  (B : Base Z a0) {h : Heap} {d k : Nat} {i c : Int32} {cs : List Int32} (Ad : Ary Z h d .byte (cs.map fun c => Value.int (lo8 c))) (hi : i.toInt = k) (hc : cs[k]? = some c) (hb : 0 ≤ c.toInt ∧ c.toInt < 256) : Con l Z a0 EL it n0 (⟨"java/lang/StringLatin1", "charAt", "([BI)C"⟩ : MethodName) 3 40 0 0 #[.ref d, .int i] h [] (fun v h' => v = some (.int c) ∧ h = h') := by
  refine Met.con (bytes := jdk_43_method_2_code) (maxL := 2) (ret := (some .char)) (rm := ({ frames := 2, cells := 0, slots := 0, locals := 27 } : Room)) (Met.of (own := "java/lang/StringLatin1") (nm := "charAt") #[.val (.ref d), .val (.int i)] (ew B) rfl rfl (plainFor_of_name pn_java_lang_StringLatin1) (fun m => by first | (simp [entryFrame, mkF, argsToLocals, Value.category]; done) | rfl) fun K C => ?_) (B.1 _ (List.mem_of_getElem? (i := 213) rfl)) (B.1 _ (List.mem_of_getElem? (i := 212) rfl)) rfl rfl rfl rfl
  have lA := Ad.len
  rw [List.length_map] at lA
  have hk : k < cs.length := (List.getElem?_eq_some_iff.mp hc).1
  have em : (Int32.ofNat cs.length).toInt = cs.length := ofNat_int lA
  refine C.iloadN d17_0 rfl ?_
  refine C.aloadN d17_1 rfl rfl ?_
  refine C.alen (n := (Int32.ofNat cs.length)) Ad (by rw [List.length_map]; exact em) d17_2 ?_
  refine C.callS [.int i, .int (Int32.ofNat cs.length)] [] 0 (B.1 _ (List.mem_of_getElem? (i := 214) rfl)) (B.1 _ (List.mem_of_getElem? (i := 128) rfl)) (B.1 _ (List.mem_of_getElem? (i := 20) rfl)) (B.1 _ (List.mem_of_getElem? (i := 129) rfl)) (by decide) pd__28_II_29_V rfl id (c_sci B (by omega) (by omega)) d17_3 rfl rfl rfl (by decide) (by decide) (by decide) (by decide) all0 fun v1 h1 z1 K1 q1 => ?_
  obtain ⟨rfl, rfl⟩ := q1
  show C.W h [] 0 0 (mkF K.m 6 #[.val (.ref d), .val (.int i)] [])
  refine C.aloadN d17_6 rfl rfl ?_
  refine C.iloadN d17_7 rfl ?_
  refine C.baload (x := (lo8 c)) k Ad hi (by simp [hc]) d17_8 ?_
  refine C.sipush (v := (255 : Int32)) d17_9 (by first | rfl | decide) ?_
  refine C.iand d17_12 ?_
  refine C.i2c d17_13 ?_
  refine C.topI (show ((lo8 c) &&& (255 : Int32)).toUInt32.toUInt16.toUInt32.toInt32 = c by have q := lo8_and c; have e : (lo8 c &&& 255) = c := Int32.toInt_inj.mp (by omega); rw [e]; exact i2c_id (by omega) (by omega)) ?_
  exact C.ireturn (t := .char) rfl (by simp) (nchar (by omega) (by omega)) d17_14 (by decide) (by decide) ⟨rfl, rfl⟩
set_option maxRecDepth 65536 in
set_option maxHeartbeats 40000000 in
theorem c_ulen  (B : Base Z a0) {h : Heap} {d : Nat} {vs : List Value} (Ad : Ary Z h d .byte vs) : Con l Z a0 EL it n0 (⟨"java/lang/StringUTF16", "length", "([B)I"⟩ : MethodName) 1 12 0 0 #[.ref d] h [] (fun v h' => ∃ m : Int32, v = some (.int m) ∧ m.toInt = vs.length / 2 ∧ h = h') := by
  refine Met.con (bytes := jdk_52_method_6_code) (maxL := 1) (ret := (some .int)) (rm := ({ frames := 0, cells := 0, slots := 0, locals := 0 } : Room)) (Met.of (own := "java/lang/StringUTF16") (nm := "length") #[.val (.ref d)] (ew B) rfl rfl (plainFor_of_name pn_java_lang_StringUTF16) (fun m => by first | (simp [entryFrame, mkF, argsToLocals, Value.category]; done) | rfl) fun K C => ?_) (B.1 _ (List.mem_of_getElem? (i := 126) rfl)) (B.1 _ (List.mem_of_getElem? (i := 34) rfl)) rfl rfl rfl rfl
  have lA := Ad.len
  have em : (Int32.ofNat vs.length).toInt = vs.length := ofNat_int lA
  refine C.aloadN d18_0 rfl rfl ?_
  refine C.alen (n := (Int32.ofNat vs.length)) Ad em d18_1 ?_
  refine C.iconst (v := (1 : Int32)) d18_2 (by first | rfl | decide) ?_
  refine C.ishr d18_3 ?_
  have e := c_ishr (Int32.ofNat vs.length) 1 1 (by decide)
  exact C.ireturn (t := .int) rfl (by simp) rfl d18_4 (by decide) (by decide) ⟨_, rfl, by rw [e, em]; simp, rfl⟩
set_option maxRecDepth 65536 in
set_option maxHeartbeats 40000000 in
theorem c_uci  (B : Base Z a0) {h : Heap} {d : Nat} {i : Int32} {vs : List Value} (Ad : Ary Z h d .byte vs) (h0 : 0 ≤ i.toInt) (h1 : i.toInt < vs.length / 2) : Con l Z a0 EL it n0 (⟨"java/lang/StringUTF16", "checkIndex", "(I[B)V"⟩ : MethodName) 3 40 0 0 #[.int i, .ref d] h [] (fun v h' => v = none ∧ h = h') := by
  refine Met.con (bytes := jdk_52_method_91_code) (maxL := 2) (ret := none) (rm := ({ frames := 2, cells := 0, slots := 0, locals := 27 } : Room)) (Met.of (own := "java/lang/StringUTF16") (nm := "checkIndex") #[.val (.int i), .val (.ref d)] (ew B) rfl rfl (plainFor_of_name pn_java_lang_StringUTF16) (fun m => by first | (simp [entryFrame, mkF, argsToLocals, Value.category]; done) | rfl) fun K C => ?_) (B.1 _ (List.mem_of_getElem? (i := 123) rfl)) (B.1 _ (List.mem_of_getElem? (i := 34) rfl)) rfl rfl rfl rfl
  refine C.iloadN d19_0 rfl ?_
  refine C.aloadN d19_1 rfl rfl ?_
  refine C.callS [.ref d] [.int i] 1 (B.1 _ (List.mem_of_getElem? (i := 124) rfl)) (B.1 _ (List.mem_of_getElem? (i := 125) rfl)) (B.1 _ (List.mem_of_getElem? (i := 34) rfl)) (B.1 _ (List.mem_of_getElem? (i := 126) rfl)) (by decide) pd__28__5b_B_29_I rfl id (c_ulen B Ad) d19_2 rfl rfl rfl (by decide) (by decide) (by decide) (by decide) all0 fun v1 h1 z1 K1 q1 => ?_
  obtain ⟨m, rfl, hm, rfl⟩ := q1
  show C.W h [] 0 0 (mkF K.m 5 #[.val (.int i), .val (.ref d)] [.int m, .int i])
  refine C.callS [.int i, .int m] [] 0 (B.1 _ (List.mem_of_getElem? (i := 127) rfl)) (B.1 _ (List.mem_of_getElem? (i := 128) rfl)) (B.1 _ (List.mem_of_getElem? (i := 20) rfl)) (B.1 _ (List.mem_of_getElem? (i := 129) rfl)) (by decide) pd__28_II_29_V rfl id (c_sci B h0 (by omega)) d19_5 rfl rfl rfl (by decide) (by decide) (by decide) (by decide) all0 fun v2 h2 z2 K2 q2 => ?_
  obtain ⟨rfl, rfl⟩ := q2
  show C.W h [] 0 0 (mkF K.m 8 #[.val (.int i), .val (.ref d)] [])
  exact C.return_ rfl d19_8 (by decide) (by decide) ⟨rfl, rfl⟩
set_option maxRecDepth 65536 in
set_option maxHeartbeats 40000000 in
theorem c_ucha  (B : Base Z a0) {h : Heap} {d k : Nat} {i c : Int32} {cs : List Int32} (Ad : Ary Z h d .byte (wide cs)) (hi : i.toInt = k) (hc : cs[k]? = some c) (hb : 0 ≤ c.toInt ∧ c.toInt < 65536) : Con l Z a0 EL it n0 (⟨"java/lang/StringUTF16", "charAt", "([BI)C"⟩ : MethodName) 4 53 0 0 #[.ref d, .int i] h [] (fun v h' => v = some (.int c) ∧ h = h') := by
  refine Met.con (bytes := jdk_52_method_83_code) (maxL := 2) (ret := (some .char)) (rm := ({ frames := 3, cells := 0, slots := 0, locals := 40 } : Room)) (Met.of (own := "java/lang/StringUTF16") (nm := "charAt") #[.val (.ref d), .val (.int i)] (ew B) rfl rfl (plainFor_of_name pn_java_lang_StringUTF16) (fun m => by first | (simp [entryFrame, mkF, argsToLocals, Value.category]; done) | rfl) fun K C => ?_) (B.1 _ (List.mem_of_getElem? (i := 120) rfl)) (B.1 _ (List.mem_of_getElem? (i := 34) rfl)) rfl rfl rfl rfl
  have hk : k < cs.length := (List.getElem?_eq_some_iff.mp hc).1
  refine C.iloadN d20_0 rfl ?_
  refine C.aloadN d20_1 rfl rfl ?_
  refine C.callS [.int i, .ref d] [] 0 (B.1 _ (List.mem_of_getElem? (i := 121) rfl)) (B.1 _ (List.mem_of_getElem? (i := 122) rfl)) (B.1 _ (List.mem_of_getElem? (i := 34) rfl)) (B.1 _ (List.mem_of_getElem? (i := 123) rfl)) (by decide) pd__28_I_5b_B_29_V rfl id (c_uci B Ad (by omega) (by rw [wide_len]; omega)) d20_2 rfl rfl rfl (by decide) (by decide) (by decide) (by decide) all0 fun v1 h1 z1 K1 q1 => ?_
  obtain ⟨rfl, rfl⟩ := q1
  show C.W h [] 0 0 (mkF K.m 5 #[.val (.ref d), .val (.int i)] [])
  refine C.aloadN d20_5 rfl rfl ?_
  refine C.iloadN d20_6 rfl ?_
  refine C.callS [.ref d, .int i] [] 0 (B.1 _ (List.mem_of_getElem? (i := 56) rfl)) (B.1 _ (List.mem_of_getElem? (i := 57) rfl)) (B.1 _ (List.mem_of_getElem? (i := 34) rfl)) (B.1 _ (List.mem_of_getElem? (i := 58) rfl)) (by decide) pd__28__5b_BI_29_C rfl id (c_getChar B Ad hi hc hb) d20_7 rfl rfl rfl (by decide) (by decide) (by decide) (by decide) all0 fun v2 h2 z2 K2 q2 => ?_
  obtain ⟨rfl, rfl⟩ := q2
  show C.W h [] 0 0 (mkF K.m 10 #[.val (.ref d), .val (.int i)] [.int c])
  exact C.ireturn (t := .char) rfl (by simp) (nchar hb.1 hb.2) d20_10 (by decide) (by decide) ⟨rfl, rfl⟩
set_option maxRecDepth 65536 in
set_option maxHeartbeats 40000000 in
theorem c_charAt  (B : Base Z a0) {h : Heap} {N k : Nat} {x : Nat} {i c : Int32} {cs : List Int32} (S : Str Z h N x cs) (hi : i.toInt = k) (hc : cs[k]? = some c) : Con l Z a0 EL it n0 (⟨"java/lang/String", "charAt", "(I)C"⟩ : MethodName) 5 66 0 0 #[.ref x, .int i] h [] (fun v h' => v = some (.int c) ∧ h = h') := by
  refine Met.con (bytes := jdk_42_method_56_code) (maxL := 2) (ret := (some .char)) (rm := ({ frames := 4, cells := 0, slots := 0, locals := 53 } : Room)) (Met.of (own := "java/lang/String") (nm := "charAt") #[.val (.ref x), .val (.int i)] (ew B) rfl rfl (plainFor_of_name pn_java_lang_String) (fun m => by first | (simp [entryFrame, mkF, argsToLocals, Value.category]; done) | rfl) fun K C => ?_) (B.1 _ (List.mem_of_getElem? (i := 112) rfl)) (B.1 _ (List.mem_of_getElem? (i := 20) rfl)) rfl rfl rfl rfl
  obtain ⟨Ex, lx1, lx2, tx, cx, vx, ltx, Vx, Cx, Ax, codx⟩ := S
  refine C.aloadN d21_0 rfl rfl ?_
  refine C.callV x [] [] 0 (B.1 _ (List.mem_of_getElem? (i := 113) rfl)) (B.1 _ (List.mem_of_getElem? (i := 114) rfl)) (B.1 _ (List.mem_of_getElem? (i := 116) rfl)) (B.1 _ (List.mem_of_getElem? (i := 115) rfl)) (by decide) rfl Ex pd__28__29_Z rfl id (c_isLat B Cx) d21_1 rfl rfl rfl (by decide) (by decide) (by decide) (by decide) all0 fun v1 h1 z1 K1 q1 => ?_
  obtain ⟨rfl, rfl⟩ := q1
  show C.W h [] 0 0 (mkF K.m 4 #[.val (.ref x), .val (.int i)] [.int (if cx = 0 then (1 : Int32) else 0)])
  refine C.ifc_eq 16 d21_4 (by decide) (by decide) (fun q2 => ?_) (fun q2 => ?_)
  · have hcx : cx = 1 := codx.cd.resolve_left fun e => by rw [if_pos e] at q2; revert q2; decide
    obtain ⟨rfl, hpx⟩ := codx.wid hcx
    refine C.aloadN d21_16 rfl rfl ?_
    refine C.getF (host := "") (Or.inl (B.1 _ (List.mem_of_getElem? (i := 64) rfl))) Via.refl Vx d21_17 ?_
    refine C.iloadN d21_20 rfl ?_
    refine C.callS [.ref tx, .int i] [] 0 (B.1 _ (List.mem_of_getElem? (i := 118) rfl)) (B.1 _ (List.mem_of_getElem? (i := 119) rfl)) (B.1 _ (List.mem_of_getElem? (i := 34) rfl)) (B.1 _ (List.mem_of_getElem? (i := 120) rfl)) (by decide) pd__28__5b_BI_29_C rfl id (c_ucha B Ax hi hc (hpx c (List.mem_of_getElem? hc))) d21_21 rfl rfl rfl (by decide) (by decide) (by decide) (by decide) all0 fun v3 h3 z3 K3 q3 => ?_
    obtain ⟨rfl, rfl⟩ := q3
    show C.W h [] 0 0 (mkF K.m 24 #[.val (.ref x), .val (.int i)] [.int c])
    have hb := hpx c (List.mem_of_getElem? hc)
    exact C.ireturn (t := .char) rfl (by simp) (nchar hb.1 hb.2) d21_24 (by decide) (by decide) ⟨rfl, rfl⟩
  · have hcx : cx = 0 := Classical.byContradiction fun e => by rw [if_neg e] at q2; exact q2 rfl
    obtain ⟨rfl, hpx⟩ := codx.lo hcx
    have hb := hpx c (List.mem_of_getElem? hc)
    refine C.aloadN d21_7 rfl rfl ?_
    refine C.getF (host := "") (Or.inl (B.1 _ (List.mem_of_getElem? (i := 64) rfl))) Via.refl Vx d21_8 ?_
    refine C.iloadN d21_11 rfl ?_
    refine C.callS [.ref tx, .int i] [] 0 (B.1 _ (List.mem_of_getElem? (i := 210) rfl)) (B.1 _ (List.mem_of_getElem? (i := 211) rfl)) (B.1 _ (List.mem_of_getElem? (i := 212) rfl)) (B.1 _ (List.mem_of_getElem? (i := 213) rfl)) (by decide) pd__28__5b_BI_29_C rfl id (c_l1cha B Ax hi hc hb) d21_12 rfl rfl rfl (by decide) (by decide) (by decide) (by decide) all0 fun v4 h4 z4 K4 q4 => ?_
    obtain ⟨rfl, rfl⟩ := q4
    show C.W h [] 0 0 (mkF K.m 15 #[.val (.ref x), .val (.int i)] [.int c])
    exact C.ireturn (t := .char) rfl (by simp) (nchar (by omega) (by omega)) d21_15 (by decide) (by decide) ⟨rfl, rfl⟩
set_option maxRecDepth 65536 in
set_option maxHeartbeats 40000000 in
theorem c_cftiN  (B : Base Z a0) {h : Heap} {i j n : Int32} (h0 : 0 ≤ i.toInt) (h1 : i.toInt ≤ j.toInt) (h2 : j.toInt ≤ n.toInt) : Con l Z a0 EL it n0 (⟨"jdk/internal/util/Preconditions", "checkFromToIndex", "(IIILjava/util/function/BiFunction;)I"⟩ : MethodName) 1 15 0 0 #[.int i, .int j, .int n, .null] h [] (fun v h' => v = some (.int i) ∧ h = h') := by
  refine Met.con (bytes := jdk_41_method_12_code) (maxL := 4) (ret := (some .int)) (rm := ({ frames := 0, cells := 0, slots := 0, locals := 0 } : Room)) (Met.of (own := "jdk/internal/util/Preconditions") (nm := "checkFromToIndex") #[.val (.int i), .val (.int j), .val (.int n), .val .null] (ew B) rfl rfl (plainFor_of_name pn_jdk_internal_util_Preconditions) (fun m => by first | (simp [entryFrame, mkF, argsToLocals, Value.category]; done) | rfl) fun K C => ?_) (B.1 _ (List.mem_of_getElem? (i := 157) rfl)) (B.1 _ (List.mem_of_getElem? (i := 131) rfl)) rfl rfl rfl rfl
  refine C.iloadN d22_0 rfl ?_
  refine C.ifc_lt 14 d22_1 (by decide) (by decide) (fun q1 => ?_) (fun q1 => ?_)
  · exfalso; omega
  · refine C.iloadN d22_4 rfl ?_
    refine C.iloadN d22_5 rfl ?_
    refine C.icmp_gt 14 d22_6 (by decide) (by decide) (fun q2 => ?_) (fun q2 => ?_)
    · exfalso; omega
    · refine C.iloadN d22_9 rfl ?_
      refine C.iloadN d22_10 rfl ?_
      refine C.icmp_le 22 d22_11 (by decide) (by decide) (fun q3 => ?_) (fun q3 => ?_)
      · refine C.iloadN d22_22 rfl ?_
        exact C.ireturn (t := .int) rfl (by simp) rfl d22_23 (by decide) (by decide) ⟨rfl, rfl⟩
      · exfalso; omega
set_option maxRecDepth 65536 in
set_option maxHeartbeats 40000000 in
theorem c_cftiA  (B : Base Z a0) {h : Heap} {i j n : Int32} {g : Nat} (h0 : 0 ≤ i.toInt) (h1 : i.toInt ≤ j.toInt) (h2 : j.toInt ≤ n.toInt) : Con l Z a0 EL it n0 (⟨"jdk/internal/util/Preconditions", "checkFromToIndex", "(IIILjava/util/function/BiFunction;)I"⟩ : MethodName) 1 15 0 0 #[.int i, .int j, .int n, .ref g] h [] (fun v h' => v = some (.int i) ∧ h = h') := by
  refine Met.con (bytes := jdk_41_method_12_code) (maxL := 4) (ret := (some .int)) (rm := ({ frames := 0, cells := 0, slots := 0, locals := 0 } : Room)) (Met.of (own := "jdk/internal/util/Preconditions") (nm := "checkFromToIndex") #[.val (.int i), .val (.int j), .val (.int n), .val (.ref g)] (ew B) rfl rfl (plainFor_of_name pn_jdk_internal_util_Preconditions) (fun m => by first | (simp [entryFrame, mkF, argsToLocals, Value.category]; done) | rfl) fun K C => ?_) (B.1 _ (List.mem_of_getElem? (i := 157) rfl)) (B.1 _ (List.mem_of_getElem? (i := 131) rfl)) rfl rfl rfl rfl
  refine C.iloadN d22_0 rfl ?_
  refine C.ifc_lt 14 d22_1 (by decide) (by decide) (fun q1 => ?_) (fun q1 => ?_)
  · exfalso; omega
  · refine C.iloadN d22_4 rfl ?_
    refine C.iloadN d22_5 rfl ?_
    refine C.icmp_gt 14 d22_6 (by decide) (by decide) (fun q2 => ?_) (fun q2 => ?_)
    · exfalso; omega
    · refine C.iloadN d22_9 rfl ?_
      refine C.iloadN d22_10 rfl ?_
      refine C.icmp_le 22 d22_11 (by decide) (by decide) (fun q3 => ?_) (fun q3 => ?_)
      · refine C.iloadN d22_22 rfl ?_
        exact C.ireturn (t := .int) rfl (by simp) rfl d22_23 (by decide) (by decide) ⟨rfl, rfl⟩
      · exfalso; omega
set_option maxRecDepth 65536 in
set_option maxHeartbeats 40000000 in
theorem c_cbbe  (B : Base Z a0) {h : Heap} {i j n : Int32} (h0 : 0 ≤ i.toInt) (h1 : i.toInt ≤ j.toInt) (h2 : j.toInt ≤ n.toInt) : Con l Z a0 EL it n0 (⟨"java/lang/String", "checkBoundsBeginEnd", "(III)V"⟩ : MethodName) 2 29 0 0 #[.int i, .int j, .int n] h [] (fun v h' => v = none ∧ h = h') := by
  refine Met.con (bytes := jdk_42_method_158_code) (maxL := 3) (ret := none) (rm := ({ frames := 1, cells := 0, slots := 0, locals := 15 } : Room)) (Met.of (own := "java/lang/String") (nm := "checkBoundsBeginEnd") #[.val (.int i), .val (.int j), .val (.int n)] (ew B) rfl rfl (plainFor_of_name pn_java_lang_String) (fun m => by first | (simp [entryFrame, mkF, argsToLocals, Value.category]; done) | rfl) fun K C => ?_) (B.1 _ (List.mem_of_getElem? (i := 154) rfl)) (B.1 _ (List.mem_of_getElem? (i := 20) rfl)) rfl rfl rfl rfl
  obtain ⟨fm, Sf, hf⟩ := B.2.2.1
  rcases ref_cases hf with rfl | ⟨f, rfl⟩
  · skip
    refine C.iloadN d23_0 rfl ?_
    refine C.iloadN d23_1 rfl ?_
    refine C.iloadN d23_2 rfl ?_
    refine C.getS (B.1 _ (List.mem_of_getElem? (i := 130) rfl)) Via.refl Sf d23_3 ?_
    refine C.callS [.int i, .int j, .int n, .null] [] 0 (B.1 _ (List.mem_of_getElem? (i := 155) rfl)) (B.1 _ (List.mem_of_getElem? (i := 156) rfl)) (B.1 _ (List.mem_of_getElem? (i := 131) rfl)) (B.1 _ (List.mem_of_getElem? (i := 157) rfl)) (by decide) pd__28_IIILjava_2f_util_2f_function_2f_BiFunction_3b__29_I rfl id (c_cftiN B h0 h1 h2) d23_6 rfl rfl rfl (by decide) (by decide) (by decide) (by decide) all0 fun v1 h1 z1 K1 q1 => ?_
    obtain ⟨rfl, rfl⟩ := q1
    show C.W h [] 0 0 (mkF K.m 9 #[.val (.int i), .val (.int j), .val (.int n)] [.int i])
    refine C.pop rfl d23_9 ?_
    exact C.return_ rfl d23_10 (by decide) (by decide) ⟨rfl, rfl⟩
  · skip
    refine C.iloadN d23_0 rfl ?_
    refine C.iloadN d23_1 rfl ?_
    refine C.iloadN d23_2 rfl ?_
    refine C.getS (B.1 _ (List.mem_of_getElem? (i := 130) rfl)) Via.refl Sf d23_3 ?_
    refine C.callS [.int i, .int j, .int n, .ref f] [] 0 (B.1 _ (List.mem_of_getElem? (i := 155) rfl)) (B.1 _ (List.mem_of_getElem? (i := 156) rfl)) (B.1 _ (List.mem_of_getElem? (i := 131) rfl)) (B.1 _ (List.mem_of_getElem? (i := 157) rfl)) (by decide) pd__28_IIILjava_2f_util_2f_function_2f_BiFunction_3b__29_I rfl id (c_cftiA B h0 h1 h2) d23_6 rfl rfl rfl (by decide) (by decide) (by decide) (by decide) all0 fun v2 h2 z2 K2 q2 => ?_
    obtain ⟨rfl, rfl⟩ := q2
    show C.W h [] 0 0 (mkF K.m 9 #[.val (.int i), .val (.int j), .val (.int n)] [.int i])
    refine C.pop rfl d23_9 ?_
    exact C.return_ rfl d23_10 (by decide) (by decide) ⟨rfl, rfl⟩
set_option maxRecDepth 65536 in
set_option maxHeartbeats 40000000 in
theorem c_jhigh  (B : Base Z a0) {h : Heap} {c : Int32} : Con l Z a0 EL it n0 (⟨"java/lang/Character", "isHighSurrogate", "(C)Z"⟩ : MethodName) 1 12 0 0 #[.int c] h [] (fun v h' => v = some (.int (if 55296 ≤ c.toInt ∧ c.toInt ≤ 56319 then 1 else 0)) ∧ h = h') := by
  refine Met.con (bytes := jdk_89_method_14_code) (maxL := 1) (ret := (some .boolean)) (rm := ({ frames := 0, cells := 0, slots := 0, locals := 0 } : Room)) (Met.of (own := "java/lang/Character") (nm := "isHighSurrogate") #[.val (.int c)] (ew B) rfl rfl (plainFor_of_name pn_java_lang_Character) (fun m => by first | (simp [entryFrame, mkF, argsToLocals, Value.category]; done) | rfl) fun K C => ?_) (B.1 _ (List.mem_of_getElem? (i := 137) rfl)) (B.1 _ (List.mem_of_getElem? (i := 89) rfl)) rfl rfl rfl rfl
  have k55296 : (55296 : Int32).toInt = 55296 := by decide
  have k56319 : (56319 : Int32).toInt = 56319 := by decide
  have k56320 : (56320 : Int32).toInt = 56320 := by decide
  refine C.iloadN d24_0 rfl ?_
  refine C.ldcInt (v := (55296 : Int32)) (B.1 _ (List.mem_of_getElem? (i := 138) rfl)) d24_1 ?_
  refine C.icmp_lt 16 d24_3 (by decide) (by decide) (fun q1 => ?_) (fun q1 => ?_)
  · refine C.iconst (v := (0 : Int32)) d24_16 (by first | rfl | decide) ?_
    exact C.ireturn (t := .boolean) rfl (by simp) rfl d24_17 (by decide) (by decide) ⟨by rw [if_neg (by omega)], rfl⟩
  · refine C.iloadN d24_6 rfl ?_
    refine C.ldcInt (v := (56320 : Int32)) (B.1 _ (List.mem_of_getElem? (i := 139) rfl)) d24_7 ?_
    refine C.icmp_ge 16 d24_9 (by decide) (by decide) (fun q2 => ?_) (fun q2 => ?_)
    · refine C.iconst (v := (0 : Int32)) d24_16 (by first | rfl | decide) ?_
      exact C.ireturn (t := .boolean) rfl (by simp) rfl d24_17 (by decide) (by decide) ⟨by rw [if_neg (by omega)], rfl⟩
    · refine C.iconst (v := (1 : Int32)) d24_12 (by first | rfl | decide) ?_
      refine C.goto 17 d24_13 (by decide) (by decide) ?_
      exact C.ireturn (t := .boolean) rfl (by simp) rfl d24_17 (by decide) (by decide) ⟨by rw [if_pos (by omega)], rfl⟩
set_option maxRecDepth 65536 in
set_option maxHeartbeats 40000000 in
theorem c_jlow  (B : Base Z a0) {h : Heap} {c : Int32} : Con l Z a0 EL it n0 (⟨"java/lang/Character", "isLowSurrogate", "(C)Z"⟩ : MethodName) 1 12 0 0 #[.int c] h [] (fun v h' => v = some (.int (if 56320 ≤ c.toInt ∧ c.toInt ≤ 57343 then 1 else 0)) ∧ h = h') := by
  refine Met.con (bytes := jdk_89_method_15_code) (maxL := 1) (ret := (some .boolean)) (rm := ({ frames := 0, cells := 0, slots := 0, locals := 0 } : Room)) (Met.of (own := "java/lang/Character") (nm := "isLowSurrogate") #[.val (.int c)] (ew B) rfl rfl (plainFor_of_name pn_java_lang_Character) (fun m => by first | (simp [entryFrame, mkF, argsToLocals, Value.category]; done) | rfl) fun K C => ?_) (B.1 _ (List.mem_of_getElem? (i := 142) rfl)) (B.1 _ (List.mem_of_getElem? (i := 89) rfl)) rfl rfl rfl rfl
  have k56320 : (56320 : Int32).toInt = 56320 := by decide
  have k57343 : (57343 : Int32).toInt = 57343 := by decide
  have k57344 : (57344 : Int32).toInt = 57344 := by decide
  refine C.iloadN d25_0 rfl ?_
  refine C.ldcInt (v := (56320 : Int32)) (B.1 _ (List.mem_of_getElem? (i := 139) rfl)) d25_1 ?_
  refine C.icmp_lt 16 d25_3 (by decide) (by decide) (fun q1 => ?_) (fun q1 => ?_)
  · refine C.iconst (v := (0 : Int32)) d25_16 (by first | rfl | decide) ?_
    exact C.ireturn (t := .boolean) rfl (by simp) rfl d25_17 (by decide) (by decide) ⟨by rw [if_neg (by omega)], rfl⟩
  · refine C.iloadN d25_6 rfl ?_
    refine C.ldcInt (v := (57344 : Int32)) (B.1 _ (List.mem_of_getElem? (i := 143) rfl)) d25_7 ?_
    refine C.icmp_ge 16 d25_9 (by decide) (by decide) (fun q2 => ?_) (fun q2 => ?_)
    · refine C.iconst (v := (0 : Int32)) d25_16 (by first | rfl | decide) ?_
      exact C.ireturn (t := .boolean) rfl (by simp) rfl d25_17 (by decide) (by decide) ⟨by rw [if_neg (by omega)], rfl⟩
    · refine C.iconst (v := (1 : Int32)) d25_12 (by first | rfl | decide) ?_
      refine C.goto 17 d25_13 (by decide) (by decide) ?_
      exact C.ireturn (t := .boolean) rfl (by simp) rfl d25_17 (by decide) (by decide) ⟨by rw [if_pos (by omega)], rfl⟩
theorem wide_app (xs ys : List Int32) : wide (xs ++ ys) = wide xs ++ wide ys := by
  induction xs with
  | nil => rfl
  | cons c xs ih => show _ :: _ :: wide (xs ++ ys) = _; rw [ih]; rfl
theorem wide_drop (cs : List Int32) (o : Nat) : (wide cs).drop (2 * o) = wide (cs.drop o) := by
  induction o generalizing cs with
  | zero => rfl
  | succ o ih =>
    cases cs with
    | nil => simp [Own.wide]
    | cons c cs => rw [show 2 * (o + 1) = 2 * o + 2 by omega]; exact ih cs
theorem wide_take (cs : List Int32) (n : Nat) : (wide cs).take (2 * n) = wide (cs.take n) := by
  induction n generalizing cs with
  | zero => rfl
  | succ n ih =>
    cases cs with
    | nil => simp [Own.wide]
    | cons c cs => rw [show 2 * (n + 1) = 2 * n + 2 by omega]; show _ :: _ :: (wide cs).take (2 * n) = _; rw [ih]; rfl
theorem sub_get {cs : List Int32} {o n k : Nat} (hk : k < n) : ((cs.drop o).take n)[k]? = cs[o + k]? := by
  rw [List.getElem?_take, if_pos hk, List.getElem?_drop]
theorem sub_len {cs : List Int32} {o n : Nat} (h : o + n ≤ cs.length) : ((cs.drop o).take n).length = n := by
  rw [List.length_take, List.length_drop]; omega
theorem sub_mem {cs : List Int32} {o n : Nat} {c : Int32} (h : c ∈ (cs.drop o).take n) : c ∈ cs := List.mem_of_mem_drop (List.mem_of_mem_take h)
theorem str_more {Z : State} {h : Heap} {N M x : Nat} {cs : List Int32} (S : Str Z h N x cs) (h1 : N ≤ M) (h2 : M ≤ h.size) : Str Z h M x cs := by
  obtain ⟨E, a, b, t, cd, vs, lt, r⟩ := S
  exact ⟨E, by omega, h2, t, cd, vs, by omega, r⟩
set_option maxRecDepth 65536 in
set_option maxHeartbeats 40000000 in
theorem c_cfisN  (B : Base Z a0) {h : Heap} {i n z : Int32} (h0 : 0 ≤ i.toInt) (h1 : 0 ≤ n.toInt) (h2 : i.toInt + n.toInt ≤ z.toInt) : Con l Z a0 EL it n0 (⟨"jdk/internal/util/Preconditions", "checkFromIndexSize", "(IIILjava/util/function/BiFunction;)I"⟩ : MethodName) 1 15 0 0 #[.int i, .int n, .int z, .null] h [] (fun v h' => v = some (.int i) ∧ h = h') := by
  refine Met.con (bytes := jdk_41_method_13_code) (maxL := 4) (ret := (some .int)) (rm := ({ frames := 0, cells := 0, slots := 0, locals := 0 } : Room)) (Met.of (own := "jdk/internal/util/Preconditions") (nm := "checkFromIndexSize") #[.val (.int i), .val (.int n), .val (.int z), .val .null] (ew B) rfl rfl (plainFor_of_name pn_jdk_internal_util_Preconditions) (fun m => by first | (simp [entryFrame, mkF, argsToLocals, Value.category]; done) | rfl) fun K C => ?_) (B.1 _ (List.mem_of_getElem? (i := 176) rfl)) (B.1 _ (List.mem_of_getElem? (i := 131) rfl)) rfl rfl rfl rfl
  have hz := Int32.toInt_lt z
  have o1 := (c_orS z i).1 (by omega) h0
  have o2 := (c_orS (z ||| i) n).1 o1 h1
  have es : (z - i).toInt = z.toInt - i.toInt := sub_int (by omega) (by omega)
  refine C.iloadN d26_0 rfl ?_
  refine C.iloadN d26_1 rfl ?_
  refine C.ior d26_2 ?_
  refine C.iloadN d26_3 rfl ?_
  refine C.ior d26_4 ?_
  refine C.ifc_lt 15 d26_5 (by decide) (by decide) (fun q1 => ?_) (fun q1 => ?_)
  · exfalso; omega
  · refine C.iloadN d26_8 rfl ?_
    refine C.iloadN d26_9 rfl ?_
    refine C.iloadN d26_10 rfl ?_
    refine C.isub d26_11 ?_
    refine C.icmp_le 23 d26_12 (by decide) (by decide) (fun q2 => ?_) (fun q2 => ?_)
    · refine C.iloadN d26_23 rfl ?_
      exact C.ireturn (t := .int) rfl (by simp) rfl d26_24 (by decide) (by decide) ⟨rfl, rfl⟩
    · exfalso; omega
set_option maxRecDepth 65536 in
set_option maxHeartbeats 40000000 in
theorem c_cfisA  (B : Base Z a0) {h : Heap} {i n z : Int32} {g : Nat} (h0 : 0 ≤ i.toInt) (h1 : 0 ≤ n.toInt) (h2 : i.toInt + n.toInt ≤ z.toInt) : Con l Z a0 EL it n0 (⟨"jdk/internal/util/Preconditions", "checkFromIndexSize", "(IIILjava/util/function/BiFunction;)I"⟩ : MethodName) 1 15 0 0 #[.int i, .int n, .int z, .ref g] h [] (fun v h' => v = some (.int i) ∧ h = h') := by
  refine Met.con (bytes := jdk_41_method_13_code) (maxL := 4) (ret := (some .int)) (rm := ({ frames := 0, cells := 0, slots := 0, locals := 0 } : Room)) (Met.of (own := "jdk/internal/util/Preconditions") (nm := "checkFromIndexSize") #[.val (.int i), .val (.int n), .val (.int z), .val (.ref g)] (ew B) rfl rfl (plainFor_of_name pn_jdk_internal_util_Preconditions) (fun m => by first | (simp [entryFrame, mkF, argsToLocals, Value.category]; done) | rfl) fun K C => ?_) (B.1 _ (List.mem_of_getElem? (i := 176) rfl)) (B.1 _ (List.mem_of_getElem? (i := 131) rfl)) rfl rfl rfl rfl
  have hz := Int32.toInt_lt z
  have o1 := (c_orS z i).1 (by omega) h0
  have o2 := (c_orS (z ||| i) n).1 o1 h1
  have es : (z - i).toInt = z.toInt - i.toInt := sub_int (by omega) (by omega)
  refine C.iloadN d26_0 rfl ?_
  refine C.iloadN d26_1 rfl ?_
  refine C.ior d26_2 ?_
  refine C.iloadN d26_3 rfl ?_
  refine C.ior d26_4 ?_
  refine C.ifc_lt 15 d26_5 (by decide) (by decide) (fun q1 => ?_) (fun q1 => ?_)
  · exfalso; omega
  · refine C.iloadN d26_8 rfl ?_
    refine C.iloadN d26_9 rfl ?_
    refine C.iloadN d26_10 rfl ?_
    refine C.isub d26_11 ?_
    refine C.icmp_le 23 d26_12 (by decide) (by decide) (fun q2 => ?_) (fun q2 => ?_)
    · refine C.iloadN d26_23 rfl ?_
      exact C.ireturn (t := .int) rfl (by simp) rfl d26_24 (by decide) (by decide) ⟨rfl, rfl⟩
    · exfalso; omega
set_option maxRecDepth 65536 in
set_option maxHeartbeats 40000000 in
theorem c_cboc  (B : Base Z a0) {h : Heap} {i n z : Int32} (h0 : 0 ≤ i.toInt) (h1 : 0 ≤ n.toInt) (h2 : i.toInt + n.toInt ≤ z.toInt) : Con l Z a0 EL it n0 (⟨"java/lang/String", "checkBoundsOffCount", "(III)I"⟩ : MethodName) 2 29 0 0 #[.int i, .int n, .int z] h [] (fun v h' => v = some (.int i) ∧ h = h') := by
  refine Met.con (bytes := jdk_42_method_157_code) (maxL := 3) (ret := (some .int)) (rm := ({ frames := 1, cells := 0, slots := 0, locals := 15 } : Room)) (Met.of (own := "java/lang/String") (nm := "checkBoundsOffCount") #[.val (.int i), .val (.int n), .val (.int z)] (ew B) rfl rfl (plainFor_of_name pn_java_lang_String) (fun m => by first | (simp [entryFrame, mkF, argsToLocals, Value.category]; done) | rfl) fun K C => ?_) (B.1 _ (List.mem_of_getElem? (i := 173) rfl)) (B.1 _ (List.mem_of_getElem? (i := 20) rfl)) rfl rfl rfl rfl
  obtain ⟨fm, Sf, hf⟩ := B.2.2.1
  rcases ref_cases hf with rfl | ⟨f, rfl⟩
  · skip
    refine C.iloadN d27_0 rfl ?_
    refine C.iloadN d27_1 rfl ?_
    refine C.iloadN d27_2 rfl ?_
    refine C.getS (B.1 _ (List.mem_of_getElem? (i := 130) rfl)) Via.refl Sf d27_3 ?_
    refine C.callS [.int i, .int n, .int z, .null] [] 0 (B.1 _ (List.mem_of_getElem? (i := 174) rfl)) (B.1 _ (List.mem_of_getElem? (i := 175) rfl)) (B.1 _ (List.mem_of_getElem? (i := 131) rfl)) (B.1 _ (List.mem_of_getElem? (i := 176) rfl)) (by decide) pd__28_IIILjava_2f_util_2f_function_2f_BiFunction_3b__29_I rfl id (c_cfisN B h0 h1 h2) d27_6 rfl rfl rfl (by decide) (by decide) (by decide) (by decide) all0 fun v1 h1 z1 K1 q1 => ?_
    obtain ⟨rfl, rfl⟩ := q1
    show C.W h [] 0 0 (mkF K.m 9 #[.val (.int i), .val (.int n), .val (.int z)] [.int i])
    exact C.ireturn (t := .int) rfl (by simp) rfl d27_9 (by decide) (by decide) ⟨rfl, rfl⟩
  · skip
    refine C.iloadN d27_0 rfl ?_
    refine C.iloadN d27_1 rfl ?_
    refine C.iloadN d27_2 rfl ?_
    refine C.getS (B.1 _ (List.mem_of_getElem? (i := 130) rfl)) Via.refl Sf d27_3 ?_
    refine C.callS [.int i, .int n, .int z, .ref f] [] 0 (B.1 _ (List.mem_of_getElem? (i := 174) rfl)) (B.1 _ (List.mem_of_getElem? (i := 175) rfl)) (B.1 _ (List.mem_of_getElem? (i := 131) rfl)) (B.1 _ (List.mem_of_getElem? (i := 176) rfl)) (by decide) pd__28_IIILjava_2f_util_2f_function_2f_BiFunction_3b__29_I rfl id (c_cfisA B h0 h1 h2) d27_6 rfl rfl rfl (by decide) (by decide) (by decide) (by decide) all0 fun v2 h2 z2 K2 q2 => ?_
    obtain ⟨rfl, rfl⟩ := q2
    show C.W h [] 0 0 (mkF K.m 9 #[.val (.int i), .val (.int n), .val (.int z)] [.int i])
    exact C.ireturn (t := .int) rfl (by simp) rfl d27_9 (by decide) (by decide) ⟨rfl, rfl⟩
set_option maxRecDepth 65536 in
set_option maxHeartbeats 40000000 in
theorem c_ucboc  (B : Base Z a0) {h : Heap} {d : Nat} {i n : Int32} {cs : List Int32} (Ad : Ary Z h d .byte (wide cs)) (h0 : 0 ≤ i.toInt) (h1 : 0 ≤ n.toInt) (h2 : i.toInt + n.toInt ≤ cs.length) : Con l Z a0 EL it n0 (⟨"java/lang/StringUTF16", "checkBoundsOffCount", "(II[B)V"⟩ : MethodName) 3 43 0 0 #[.int i, .int n, .ref d] h [] (fun v h' => v = none ∧ h = h') := by
  refine Met.con (bytes := jdk_52_method_94_code) (maxL := 3) (ret := none) (rm := ({ frames := 2, cells := 0, slots := 0, locals := 29 } : Room)) (Met.of (own := "java/lang/StringUTF16") (nm := "checkBoundsOffCount") #[.val (.int i), .val (.int n), .val (.ref d)] (ew B) rfl rfl (plainFor_of_name pn_java_lang_StringUTF16) (fun m => by first | (simp [entryFrame, mkF, argsToLocals, Value.category]; done) | rfl) fun K C => ?_) (B.1 _ (List.mem_of_getElem? (i := 170) rfl)) (B.1 _ (List.mem_of_getElem? (i := 34) rfl)) rfl rfl rfl rfl
  refine C.iloadN d28_0 rfl ?_
  refine C.iloadN d28_1 rfl ?_
  refine C.aloadN d28_2 rfl rfl ?_
  refine C.callS [.ref d] [.int n, .int i] 2 (B.1 _ (List.mem_of_getElem? (i := 124) rfl)) (B.1 _ (List.mem_of_getElem? (i := 125) rfl)) (B.1 _ (List.mem_of_getElem? (i := 34) rfl)) (B.1 _ (List.mem_of_getElem? (i := 126) rfl)) (by decide) pd__28__5b_B_29_I rfl id (c_ulen B Ad) d28_3 rfl rfl rfl (by decide) (by decide) (by decide) (by decide) all0 fun v1 h1 z1 K1 q1 => ?_
  obtain ⟨m, rfl, hm, rfl⟩ := q1
  show C.W h [] 0 0 (mkF K.m 6 #[.val (.int i), .val (.int n), .val (.ref d)] [.int m, .int n, .int i])
  rw [wide_len] at hm
  refine C.callS [.int i, .int n, .int m] [] 0 (B.1 _ (List.mem_of_getElem? (i := 171) rfl)) (B.1 _ (List.mem_of_getElem? (i := 172) rfl)) (B.1 _ (List.mem_of_getElem? (i := 20) rfl)) (B.1 _ (List.mem_of_getElem? (i := 173) rfl)) (by decide) pd__28_III_29_I rfl id (c_cboc B h0 h1 (by omega)) d28_6 rfl rfl rfl (by decide) (by decide) (by decide) (by decide) all0 fun v2 h2 z2 K2 q2 => ?_
  obtain ⟨rfl, rfl⟩ := q2
  show C.W h [] 0 0 (mkF K.m 9 #[.val (.int i), .val (.int n), .val (.ref d)] [.int i])
  refine C.pop rfl d28_9 ?_
  exact C.return_ rfl d28_10 (by decide) (by decide) ⟨rfl, rfl⟩
set_option maxRecDepth 65536 in
set_option maxHeartbeats 40000000 in
theorem c_bcmp5  (B : Base Z a0) {h : Heap} {b d o n : Nat} {oi ni : Int32} {cs : List Int32} (Ab : Ary Z h b .byte (wide cs)) (Ad : Ary Z h d .byte (List.replicate n (.int 0))) (nbd : b ≠ d) (ho : oi.toInt = o) (hn : ni.toInt = n) (hon : o + n ≤ cs.length) (hp : (∀ c ∈ cs, 0 ≤ c.toInt ∧ c.toInt < 65536)) : Con l Z a0 EL it n0 (⟨"java/lang/StringUTF16", "compress", "([BI[BII)I"⟩ : MethodName) 4 61 0 0 #[.ref b, .int oi, .ref d, .int (0 : Int32), .int ni] h [d] (fun v h' => (v = some (.int ni) ∧ (∀ c ∈ ((cs.drop o).take n), c.toInt < 256) ∧ Ary Z h' d .byte (((cs.drop o).take n).map fun c => Value.int (lo8 c))) ∨ ∃ (k : Nat) (c : Int32), v = some (.int (Int32.ofNat k)) ∧ ((cs.drop o).take n)[k]? = some c ∧ 255 < c.toInt) := by
  refine Met.con (bytes := jdk_52_method_22_code) (maxL := 7) (ret := (some .int)) (rm := ({ frames := 3, cells := 0, slots := 0, locals := 43 } : Room)) (Met.of (own := "java/lang/StringUTF16") (nm := "compress") #[.val (.ref b), .val (.int oi), .val (.ref d), .val (.int (0 : Int32)), .val (.int ni), .unset, .unset] (ew B) rfl rfl (plainFor_of_name pn_java_lang_StringUTF16) (fun m => by first | (simp [entryFrame, mkF, argsToLocals, Value.category]; done) | rfl) fun K C => ?_) (B.1 _ (List.mem_of_getElem? (i := 167) rfl)) (B.1 _ (List.mem_of_getElem? (i := 34) rfl)) rfl rfl rfl rfl
  have hlen := Ab.len
  rw [wide_len] at hlen
  have k255 : (255 : Int32).toInt = 255 := by decide
  have sl := sub_len hon
  have eo : oi = Int32.ofNat (o + 0) := Int32.toInt_inj.mp (by rw [ofNat_int (by omega)]; exact ho)
  obtain ⟨ds, eds⟩ : ∃ z, ((cs.drop o).take n) = z := ⟨_, rfl⟩
  have dget : ∀ k, k < n → ds[k]? = cs[o + k]? := fun k hk => by rw [← eds]; exact sub_get hk
  rw [eds] at sl
  refine C.iloadN d29_0 rfl ?_
  refine C.iload d29_1 rfl ?_
  refine C.aloadN d29_3 rfl rfl ?_
  refine C.callS [.int oi, .int ni, .ref b] [] 0 (B.1 _ (List.mem_of_getElem? (i := 168) rfl)) (B.1 _ (List.mem_of_getElem? (i := 169) rfl)) (B.1 _ (List.mem_of_getElem? (i := 34) rfl)) (B.1 _ (List.mem_of_getElem? (i := 170) rfl)) (by decide) pd__28_II_5b_B_29_V rfl id (c_ucboc B Ab (by omega) (by omega) (by omega)) d29_4 rfl rfl rfl (by decide) (by decide) (by decide) (by decide) all0 fun v1 h1 z1 K1 q1 => ?_
  obtain ⟨rfl, rfl⟩ := q1
  show C.W h [d] 0 0 (mkF K.m 7 #[.val (.ref b), .val (.int oi), .val (.ref d), .val (.int (0 : Int32)), .val (.int ni), .unset, .unset] [])
  refine C.iconst (v := (0 : Int32)) d29_7 (by first | rfl | decide) ?_
  refine C.istore #[.val (.ref b), .val (.int oi), .val (.ref d), .val (.int (0 : Int32)), .val (.int ni), .val (.int (0 : Int32)), .unset] d29_8 rfl ?_
  suffices LOOP : ∀ (j k : Nat) (hL : Heap) (s6 : Slot), j + k = n → One s6 → (∀ c ∈ ds.take k, c.toInt < 256) → Ary Z hL b .byte (wide cs) → Ary Z hL d .byte ((ds.take k).map (fun c => Value.int (lo8 c)) ++ List.replicate j (.int 0)) → C.W hL [d] 0 0 (mkF K.m 10 #[.val (.ref b), .val (.int (Int32.ofNat (o + k))), .val (.ref d), .val (.int (Int32.ofNat k)), .val (.int ni), .val (.int (Int32.ofNat k)), s6] []) by
    have q := LOOP n 0 h .unset (by omega) One.u (by simp) Ab Ad
    rw [← eo] at q
    exact q
  intro j
  induction j with
  | zero =>
    intro k hL s6 hjk h6 hlt Ab Ad
    have ek : (Int32.ofNat k).toInt = k := ofNat_int (by omega)
    have eok : (Int32.ofNat (o + k)).toInt = (o + k : Nat) := ofNat_int (by omega)
    refine C.iload d29_10 rfl ?_
    refine C.iload d29_12 rfl ?_
    refine C.icmp_ge 53 d29_14 (by decide) (by decide) (fun q2 => ?_) (fun q2 => ?_)
    · refine C.iload d29_53 rfl ?_
      have ek2 : ds.take k = ds := List.take_of_length_le (by omega)
      rw [ek2] at Ad hlt
      exact C.ireturn (t := .int) rfl (by simp) rfl d29_55 (by decide) (by decide) (Or.inl ⟨rfl, by rw [eds]; exact hlt, by rw [eds]; simpa using Ad⟩)
    · exfalso; omega
  | succ j ih =>
    intro k hL s6 hjk h6 hlt Ab Ad
    have ek : (Int32.ofNat k).toInt = k := ofNat_int (by omega)
    have eok : (Int32.ofNat (o + k)).toInt = (o + k : Nat) := ofNat_int (by omega)
    refine C.iload d29_10 rfl ?_
    refine C.iload d29_12 rfl ?_
    refine C.icmp_ge 53 d29_14 (by decide) (by decide) (fun q3 => ?_) (fun q3 => ?_)
    · exfalso; omega
    · obtain ⟨c, hc⟩ : ∃ c, ds[k]? = some c := ⟨_, List.getElem?_eq_getElem (by omega)⟩
      have hcs : cs[o + k]? = some c := by rw [← dget k (by omega)]; exact hc
      have hcb := hp c (List.mem_of_getElem? hcs)
      refine C.aloadN d29_17 rfl rfl ?_
      refine C.iloadN d29_18 rfl ?_
      refine C.callS [.ref b, .int (Int32.ofNat (o + k))] [] 0 (B.1 _ (List.mem_of_getElem? (i := 56) rfl)) (B.1 _ (List.mem_of_getElem? (i := 57) rfl)) (B.1 _ (List.mem_of_getElem? (i := 34) rfl)) (B.1 _ (List.mem_of_getElem? (i := 58) rfl)) (by decide) pd__28__5b_BI_29_C rfl id (c_getChar B Ab eok hcs hcb) d29_19 rfl rfl rfl (by decide) (by decide) (by decide) (by decide) all0 fun v4 h4 z4 K4 q4 => ?_
      obtain ⟨rfl, rfl⟩ := q4
      show C.W hL [d] 0 0 (mkF K.m 22 #[.val (.ref b), .val (.int (Int32.ofNat (o + k))), .val (.ref d), .val (.int (Int32.ofNat k)), .val (.int ni), .val (.int (Int32.ofNat k)), s6] [.int c])
      refine C.istore #[.val (.ref b), .val (.int (Int32.ofNat (o + k))), .val (.ref d), .val (.int (Int32.ofNat k)), .val (.int ni), .val (.int (Int32.ofNat k)), .val (.int c)] d29_22 (XS.store1 rfl h6 rfl) ?_
      refine C.iload d29_24 rfl ?_
      refine C.sipush (v := (255 : Int32)) d29_26 (by first | rfl | decide) ?_
      refine C.icmp_le 35 d29_29 (by decide) (by decide) (fun q5 => ?_) (fun q5 => ?_)
      · refine C.aloadN d29_35 rfl rfl ?_
        refine C.iloadN d29_36 rfl ?_
        refine C.iload d29_37 rfl ?_
        refine C.i2b d29_39 ?_
        refine C.bastore k Ad ek (by simp; omega) d29_40 (List.mem_of_getElem? (i := 0) rfl) fun h6 z6 K6 Aw6 => ?_
        show C.W h6 [d] 0 0 (mkF K.m 41 #[.val (.ref b), .val (.int (Int32.ofNat (o + k))), .val (.ref d), .val (.int (Int32.ofNat k)), .val (.int ni), .val (.int (Int32.ofNat k)), .val (.int c)] [])
        have A6' : Ary Z h6 d .byte ((ds.take (k + 1)).map (fun c => Value.int (lo8 c)) ++ List.replicate j (.int 0)) := by
          rw [lo8_lo8] at Aw6
          rwa [← fill_step (fun c => Value.int (lo8 c)) (.int 0) hc]
        refine C.iinc (z := (1 : Int32)) #[.val (.ref b), .val (.int ((Int32.ofNat (o + k)) + (1 : Int32))), .val (.ref d), .val (.int (Int32.ofNat k)), .val (.int ni), .val (.int (Int32.ofNat k)), .val (.int c)] d29_41 rfl (by first | rfl | decide) rfl ?_
        refine C.iinc (z := (1 : Int32)) #[.val (.ref b), .val (.int ((Int32.ofNat (o + k)) + (1 : Int32))), .val (.ref d), .val (.int ((Int32.ofNat k) + (1 : Int32))), .val (.int ni), .val (.int (Int32.ofNat k)), .val (.int c)] d29_44 rfl (by first | rfl | decide) rfl ?_
        refine C.iinc (z := (1 : Int32)) #[.val (.ref b), .val (.int ((Int32.ofNat (o + k)) + (1 : Int32))), .val (.ref d), .val (.int ((Int32.ofNat k) + (1 : Int32))), .val (.int ni), .val (.int ((Int32.ofNat k) + (1 : Int32))), .val (.int c)] d29_47 rfl (by first | rfl | decide) rfl ?_
        refine C.goto 10 d29_50 (by decide) (by decide) ?_
        rw [ofNat_succ, ofNat_succ]
        exact ih (k + 1) h6 _ (by omega) (One.val rfl) (take_all hlt hc (by omega)) (Ab.keep K6 (ninS nbd nin0)) A6'
      · refine C.iload d29_32 rfl ?_
        exact C.ireturn (t := .int) rfl (by simp) rfl d29_34 (by decide) (by decide) (Or.inr ⟨k, c, rfl, by rw [eds]; exact hc, by omega⟩)
set_option maxRecDepth 65536 in
set_option maxHeartbeats 40000000 in
theorem c_min  (B : Base Z a0) {h : Heap} {x y : Int32} : Con l Z a0 EL it n0 (⟨"java/lang/Math", "min", "(II)I"⟩ : MethodName) 1 13 0 0 #[.int x, .int y] h [] (fun v h' => v = some (.int (if x.toInt > y.toInt then y else x)) ∧ h = h') := by
  refine Met.con (bytes := jdk_29_method_69_code) (maxL := 2) (ret := (some .int)) (rm := ({ frames := 0, cells := 0, slots := 0, locals := 0 } : Room)) (Met.of (own := "java/lang/Math") (nm := "min") #[.val (.int x), .val (.int y)] (ew B) rfl rfl (by decide +kernel) (fun m => by first | (simp [entryFrame, mkF, argsToLocals, Value.category]; done) | rfl) fun K C => ?_) (B.1 _ (List.mem_of_getElem? (i := 190) rfl)) (B.1 _ (List.mem_of_getElem? (i := 189) rfl)) rfl rfl rfl rfl
  refine C.iloadN d30_0 rfl ?_
  refine C.iloadN d30_1 rfl ?_
  refine C.icmp_gt 9 d30_2 (by decide) (by decide) (fun q1 => ?_) (fun q1 => ?_)
  · refine C.iloadN d30_9 rfl ?_
    exact C.ireturn (t := .int) rfl (by simp) rfl d30_10 (by decide) (by decide) ⟨by rw [if_pos (by omega)], rfl⟩
  · refine C.iloadN d30_5 rfl ?_
    refine C.goto 10 d30_6 (by decide) (by decide) ?_
    exact C.ireturn (t := .int) rfl (by simp) rfl d30_10 (by decide) (by decide) ⟨by rw [if_neg (by omega)], rfl⟩
set_option maxRecDepth 65536 in
set_option maxHeartbeats 40000000 in
theorem c_ckl  (B : Base Z a0) {h : Heap} {i j : Int32} (h1 : i.toInt ≤ j.toInt) : Con l Z a0 EL it n0 (⟨"java/util/Arrays", "checkLength", "(II)V"⟩ : MethodName) 1 13 0 0 #[.int i, .int j] h [] (fun v h' => v = none ∧ h = h') := by
  refine Met.con (bytes := jdk_65_method_131_code) (maxL := 2) (ret := none) (rm := ({ frames := 0, cells := 0, slots := 0, locals := 0 } : Room)) (Met.of (own := "java/util/Arrays") (nm := "checkLength") #[.val (.int i), .val (.int j)] (ew B) rfl rfl (plainFor_of_name pn_java_util_Arrays) (fun m => by first | (simp [entryFrame, mkF, argsToLocals, Value.category]; done) | rfl) fun K C => ?_) (B.1 _ (List.mem_of_getElem? (i := 186) rfl)) (B.1 _ (List.mem_of_getElem? (i := 179) rfl)) rfl rfl rfl rfl
  refine C.iloadN d31_0 rfl ?_
  refine C.iloadN d31_1 rfl ?_
  refine C.icmp_ge 37 d31_2 (by decide) (by decide) (fun q1 => ?_) (fun q1 => ?_)
  · exact C.return_ rfl d31_37 (by decide) (by decide) ⟨rfl, rfl⟩
  · exfalso; omega
set_option maxRecDepth 65536 in
set_option maxHeartbeats 40000000 in
theorem c_corB  (B : Base Z a0) {h : Heap} {b o n : Nat} {i j : Int32} {vs : List Value} (Ab : Ary Z h b .byte vs) (hi : i.toInt = o) (hj : j.toInt = (o + n : Nat)) (hon : o + n ≤ vs.length) (hc : n ≤ 12) : Con l Z a0 EL it n0 (⟨"java/util/Arrays", "copyOfRangeByte", "([BII)[B"⟩ : MethodName) 2 56 1 12 #[.ref b, .int i, .int j] h [] (fun v h' => ∃ d : Nat, v = some (.ref d) ∧ h.size ≤ d ∧ d < h'.size ∧ Ary Z h' d .byte ((vs.drop o).take n)) := by
  refine Met.con (bytes := jdk_65_method_133_code) (maxL := 5) (ret := (some (.array .byte))) (rm := ({ frames := 1, cells := 1, slots := 12, locals := 40 } : Room)) (Met.of (own := "java/util/Arrays") (nm := "copyOfRangeByte") #[.val (.ref b), .val (.int i), .val (.int j), .unset, .unset] (ew B) rfl rfl (plainFor_of_name pn_java_util_Arrays) (fun m => by first | (simp [entryFrame, mkF, argsToLocals, Value.category]; done) | rfl) fun K C => ?_) (B.1 _ (List.mem_of_getElem? (i := 183) rfl)) (B.1 _ (List.mem_of_getElem? (i := 179) rfl)) rfl rfl rfl rfl
  have lA := Ab.len
  have lb := Ab.lt
  have ea : (Int32.ofNat vs.length).toInt = vs.length := ofNat_int lA
  have es : (j - i).toInt = n := by rw [sub_int (by omega) (by omega)]; omega
  have et : ((Int32.ofNat vs.length) - i).toInt = vs.length - o := by rw [sub_int (by omega) (by omega)]; omega
  refine C.iloadN d32_0 rfl ?_
  refine C.iloadN d32_1 rfl ?_
  refine C.callS [.int i, .int j] [] 0 (B.1 _ (List.mem_of_getElem? (i := 184) rfl)) (B.1 _ (List.mem_of_getElem? (i := 185) rfl)) (B.1 _ (List.mem_of_getElem? (i := 179) rfl)) (B.1 _ (List.mem_of_getElem? (i := 186) rfl)) (by decide) pd__28_II_29_V rfl id (c_ckl B (by omega)) d32_2 rfl rfl rfl (by decide) (by decide) (by decide) (by decide) all0 fun v1 h1 z1 K1 q1 => ?_
  obtain ⟨rfl, rfl⟩ := q1
  show C.W h [] 0 0 (mkF K.m 5 #[.val (.ref b), .val (.int i), .val (.int j), .unset, .unset] [])
  refine C.iloadN d32_5 rfl ?_
  refine C.iloadN d32_6 rfl ?_
  refine C.isub d32_7 ?_
  refine C.istoreN #[.val (.ref b), .val (.int i), .val (.int j), .val (.int (j - i)), .unset] d32_8 rfl ?_
  refine C.iloadN d32_9 rfl ?_
  refine C.newarr n 12 (B.1 _ (List.mem_of_getElem? (i := 36) rfl)) d32_10 es hc (by decide) (by decide) (by decide) fun h2 a3 g2 z2 o2 K2 An2 => ?_
  show C.W h2 [a3] 1 12 (mkF K.m 12 #[.val (.ref b), .val (.int i), .val (.int j), .val (.int (j - i)), .unset] [.ref a3])
  refine C.astore #[.val (.ref b), .val (.int i), .val (.int j), .val (.int (j - i)), .val (.ref a3)] d32_12 rfl rfl ?_
  refine C.aloadN d32_14 rfl rfl ?_
  refine C.iloadN d32_15 rfl ?_
  refine C.aload d32_16 rfl rfl ?_
  refine C.iconst (v := (0 : Int32)) d32_18 (by first | rfl | decide) ?_
  refine C.aloadN d32_19 rfl rfl ?_
  have Ab_4 := (Ab.keep K2 nin0)
  refine C.alen (n := (Int32.ofNat vs.length)) Ab_4 ea d32_20 ?_
  refine C.iloadN d32_21 rfl ?_
  refine C.isub d32_22 ?_
  refine C.iloadN d32_23 rfl ?_
  refine C.callS [.int ((Int32.ofNat vs.length) - i), .int (j - i)] [.int (0 : Int32), .ref a3, .int i, .ref b] 4 (B.1 _ (List.mem_of_getElem? (i := 187) rfl)) (B.1 _ (List.mem_of_getElem? (i := 188) rfl)) (B.1 _ (List.mem_of_getElem? (i := 189) rfl)) (B.1 _ (List.mem_of_getElem? (i := 190) rfl)) (by decide) pd__28_II_29_I rfl id (c_min B) d32_24 rfl rfl rfl (by decide) (by decide) (by decide) (by decide) all0 fun v5 h5 z5 K5 q5 => ?_
  obtain ⟨rfl, rfl⟩ := q5
  show C.W h2 [a3] 1 12 (mkF K.m 27 #[.val (.ref b), .val (.int i), .val (.int j), .val (.int (j - i)), .val (.ref a3)] [.int (if (Int32.ofNat vs.length - i).toInt > (j - i).toInt then (j - i) else (Int32.ofNat vs.length - i)), .int (0 : Int32), .ref a3, .int i, .ref b])
  obtain ⟨mm, e_mm⟩ : ∃ z, (if (Int32.ofNat vs.length - i).toInt > (j - i).toInt then (j - i) else (Int32.ofNat vs.length - i)) = z := ⟨_, rfl⟩
  refine C.topI e_mm ?_
  have em : mm.toInt = n := by rw [← e_mm]; split <;> omega
  refine C.acopy (i := o) (n := n) 0 (B.1 _ (List.mem_of_getElem? (i := 191) rfl)) (B.1 _ (List.mem_of_getElem? (i := 194) rfl)) (B.1 _ (List.mem_of_getElem? (i := 192) rfl)) (B.1 _ (List.mem_of_getElem? (i := 193) rfl)) Ab_4 An2 hi em hon (by simp) d32_27 rfl rfl (by decide) (by decide) (List.mem_of_getElem? (i := 0) rfl) fun h6 z6 K6 Ac6 => ?_
  show C.W h6 [a3] 1 12 (mkF K.m 30 #[.val (.ref b), .val (.int i), .val (.int j), .val (.int (j - i)), .val (.ref a3)] [])
  refine C.aload d32_30 rfl rfl ?_
  exact C.areturn rfl rfl rfl d32_32 (by decide) (by decide) ⟨a3, rfl, by omega, by omega, Ac6⟩
set_option maxRecDepth 65536 in
set_option maxHeartbeats 40000000 in
theorem c_cor  (B : Base Z a0) {h : Heap} {b o n : Nat} {i j : Int32} {vs : List Value} (Ab : Ary Z h b .byte vs) (hi : i.toInt = o) (hj : j.toInt = (o + n : Nat)) (hon : o + n ≤ vs.length) (hc : n ≤ 12) (hw : ¬ (o = 0 ∧ n = vs.length)) : Con l Z a0 EL it n0 (⟨"java/util/Arrays", "copyOfRange", "([BII)[B"⟩ : MethodName) 3 70 1 12 #[.ref b, .int i, .int j] h [] (fun v h' => ∃ d : Nat, v = some (.ref d) ∧ h.size ≤ d ∧ d < h'.size ∧ Ary Z h' d .byte ((vs.drop o).take n)) := by
  refine Met.con (bytes := jdk_65_method_132_code) (maxL := 3) (ret := (some (.array .byte))) (rm := ({ frames := 2, cells := 1, slots := 12, locals := 56 } : Room)) (Met.of (own := "java/util/Arrays") (nm := "copyOfRange") #[.val (.ref b), .val (.int i), .val (.int j)] (ew B) rfl rfl (plainFor_of_name pn_java_util_Arrays) (fun m => by first | (simp [entryFrame, mkF, argsToLocals, Value.category]; done) | rfl) fun K C => ?_) (B.1 _ (List.mem_of_getElem? (i := 180) rfl)) (B.1 _ (List.mem_of_getElem? (i := 179) rfl)) rfl rfl rfl rfl
  have lA := Ab.len
  have ea : (Int32.ofNat vs.length).toInt = vs.length := ofNat_int lA
  refine C.iloadN d33_0 rfl ?_
  refine C.ifc_ne 10 d33_1 (by decide) (by decide) (fun q1 => ?_) (fun q1 => ?_)
  · refine C.aloadN d33_10 rfl rfl ?_
    refine C.iloadN d33_11 rfl ?_
    refine C.iloadN d33_12 rfl ?_
    refine C.callS [.ref b, .int i, .int j] [] 0 (B.1 _ (List.mem_of_getElem? (i := 181) rfl)) (B.1 _ (List.mem_of_getElem? (i := 182) rfl)) (B.1 _ (List.mem_of_getElem? (i := 179) rfl)) (B.1 _ (List.mem_of_getElem? (i := 183) rfl)) (by decide) pd__28__5b_BII_29__5b_B rfl id (c_corB B Ab hi hj hon hc) d33_13 rfl rfl rfl (by decide) (by decide) (by decide) (by decide) all0 fun v2 h2 z2 K2 q2 => ?_
    obtain ⟨d, rfl, l1, l2, Ad⟩ := q2
    show C.W h2 [] 1 12 (mkF K.m 16 #[.val (.ref b), .val (.int i), .val (.int j)] [.ref d])
    exact C.areturn rfl rfl rfl d33_16 (by decide) (by decide) ⟨d, rfl, l1, l2, Ad⟩
  · refine C.iloadN d33_4 rfl ?_
    refine C.aloadN d33_5 rfl rfl ?_
    refine C.alen (n := (Int32.ofNat vs.length)) Ab ea d33_6 ?_
    refine C.icmp_eq 17 d33_7 (by decide) (by decide) (fun q3 => ?_) (fun q3 => ?_)
    · exfalso; exact hw ⟨by omega, by omega⟩
    · refine C.aloadN d33_10 rfl rfl ?_
      refine C.iloadN d33_11 rfl ?_
      refine C.iloadN d33_12 rfl ?_
      refine C.callS [.ref b, .int i, .int j] [] 0 (B.1 _ (List.mem_of_getElem? (i := 181) rfl)) (B.1 _ (List.mem_of_getElem? (i := 182) rfl)) (B.1 _ (List.mem_of_getElem? (i := 179) rfl)) (B.1 _ (List.mem_of_getElem? (i := 183) rfl)) (by decide) pd__28__5b_BII_29__5b_B rfl id (c_corB B Ab hi hj hon hc) d33_13 rfl rfl rfl (by decide) (by decide) (by decide) (by decide) all0 fun v4 h4 z4 K4 q4 => ?_
      obtain ⟨d, rfl, l1, l2, Ad⟩ := q4
      show C.W h4 [] 1 12 (mkF K.m 16 #[.val (.ref b), .val (.int i), .val (.int j)] [.ref d])
      exact C.areturn rfl rfl rfl d33_16 (by decide) (by decide) ⟨d, rfl, l1, l2, Ad⟩
set_option maxRecDepth 65536 in
set_option maxHeartbeats 40000000 in
theorem c_bcmp3  (B : Base Z a0) {h : Heap} {b o n : Nat} {oi ni : Int32} {cs : List Int32} (Ab : Ary Z h b .byte (wide cs)) (ho : oi.toInt = o) (hn : ni.toInt = n) (hon : o + n ≤ cs.length) (hw : ¬ (o = 0 ∧ n = cs.length)) (hc : cs.length ≤ 6) (hp : (∀ c ∈ cs, 0 ≤ c.toInt ∧ c.toInt < 65536)) : Con l Z a0 EL it n0 (⟨"java/lang/StringUTF16", "compress", "([BII)[B"⟩ : MethodName) 5 87 2 18 #[.ref b, .int oi, .int ni] h [] (fun v h' => ∃ (d : Nat) (cd : Int32) (vs : List Value), v = some (.ref d) ∧ h.size ≤ d ∧ d < h'.size ∧ Ary Z h' d .byte vs ∧ Codes ((cs.drop o).take n) cd vs) := by
  refine Met.con (bytes := jdk_52_method_17_code) (maxL := 6) (ret := (some (.array .byte))) (rm := ({ frames := 4, cells := 2, slots := 18, locals := 70 } : Room)) (Met.of (own := "java/lang/StringUTF16") (nm := "compress") #[.val (.ref b), .val (.int oi), .val (.int ni), .unset, .unset, .unset] (ew B) rfl rfl (plainFor_of_name pn_java_lang_StringUTF16) (fun m => by first | (simp [entryFrame, mkF, argsToLocals, Value.category]; done) | rfl) fun K C => ?_) (B.1 _ (List.mem_of_getElem? (i := 164) rfl)) (B.1 _ (List.mem_of_getElem? (i := 34) rfl)) rfl rfl rfl rfl
  have lb := Ab.lt
  have k255 : (255 : Int32).toInt = 255 := by decide
  have hpd : ∀ c ∈ ((cs.drop o).take n), 0 ≤ c.toInt ∧ c.toInt < 65536 := fun c hc => hp c (sub_mem hc)
  have sl := sub_len hon
  refine C.iloadN d34_0 rfl ?_
  refine C.newarr n 6 (B.1 _ (List.mem_of_getElem? (i := 36) rfl)) d34_1 hn (by omega) (by decide) (by decide) (by decide) fun h1 a2 g1 z1 o1 K1 An1 => ?_
  show C.W h1 [a2] 1 6 (mkF K.m 3 #[.val (.ref b), .val (.int oi), .val (.int ni), .unset, .unset, .unset] [.ref a2])
  refine C.astoreN #[.val (.ref b), .val (.int oi), .val (.int ni), .val (.ref a2), .unset, .unset] d34_3 rfl rfl ?_
  refine C.aloadN d34_4 rfl rfl ?_
  refine C.iloadN d34_5 rfl ?_
  refine C.aloadN d34_6 rfl rfl ?_
  refine C.iconst (v := (0 : Int32)) d34_7 (by first | rfl | decide) ?_
  refine C.iloadN d34_8 rfl ?_
  have Ab_3 := (Ab.keep K1 nin0)
  refine C.callS [.ref b, .int oi, .ref a2, .int (0 : Int32), .int ni] [] 0 (B.1 _ (List.mem_of_getElem? (i := 165) rfl)) (B.1 _ (List.mem_of_getElem? (i := 166) rfl)) (B.1 _ (List.mem_of_getElem? (i := 34) rfl)) (B.1 _ (List.mem_of_getElem? (i := 167) rfl)) (by decide) pd__28__5b_BI_5b_BII_29_I rfl id (c_bcmp5 B Ab_3 An1 (neA (by omega)) ho hn hon hp) d34_9 rfl rfl rfl (by decide) (by decide) (by decide) (by decide) (allS (List.mem_of_getElem? (i := 0) rfl) all0) fun v4 h4 z4 K4 q4 => ?_
  have hq := q4
  rcases hq with ⟨rfl, hlt, A4⟩ | ⟨k, c, rfl, hk, hgt⟩
  · skip
    show C.W h4 [a2] 1 6 (mkF K.m 12 #[.val (.ref b), .val (.int oi), .val (.int ni), .val (.ref a2), .unset, .unset] [.int ni])
    refine C.istore #[.val (.ref b), .val (.int oi), .val (.int ni), .val (.ref a2), .val (.int ni), .unset] d34_12 rfl ?_
    refine C.iload d34_14 rfl ?_
    refine C.iloadN d34_16 rfl ?_
    refine C.icmp_eq 64 d34_17 (by decide) (by decide) (fun q5 => ?_) (fun q5 => ?_)
    · refine C.aloadN d34_64 rfl rfl ?_
      exact C.areturn rfl rfl rfl d34_65 (by decide) (by decide) ⟨a2, 0, _, rfl, by omega, by omega, A4, Or.inl ⟨rfl, rfl, fun c hcm => ⟨(hpd c hcm).1, hlt c hcm⟩⟩⟩
    · exfalso; exact absurd rfl q5
  · skip
    show C.W h4 [a2] 1 6 (mkF K.m 12 #[.val (.ref b), .val (.int oi), .val (.int ni), .val (.ref a2), .unset, .unset] [.int (Int32.ofNat k)])
    have hkl : k < n := by have := (List.getElem?_eq_some_iff.mp hk).1; omega
    have ek : (Int32.ofNat k).toInt = k := ofNat_int (by omega)
    have e1 := shl1 (x := oi) (by omega) (by omega)
    have e2 : (oi + ni).toInt = (o + n : Nat) := by rw [add_int (by omega) (by omega)]; omega
    refine C.istore #[.val (.ref b), .val (.int oi), .val (.int ni), .val (.ref a2), .val (.int (Int32.ofNat k)), .unset] d34_12 rfl ?_
    refine C.iload d34_14 rfl ?_
    refine C.iloadN d34_16 rfl ?_
    refine C.icmp_eq 64 d34_17 (by decide) (by decide) (fun q6 => ?_) (fun q6 => ?_)
    · exfalso; omega
    · refine C.aloadN d34_20 rfl rfl ?_
      refine C.iloadN d34_21 rfl ?_
      refine C.iconst (v := (1 : Int32)) d34_22 (by first | rfl | decide) ?_
      refine C.ishl d34_23 ?_
      refine C.iloadN d34_24 rfl ?_
      refine C.iloadN d34_25 rfl ?_
      refine C.iadd d34_26 ?_
      refine C.callS [.int (oi + ni)] [.int (oi <<< ((1 : Int32) &&& 31)), .ref b] 2 (B.1 _ (List.mem_of_getElem? (i := 46) rfl)) (B.1 _ (List.mem_of_getElem? (i := 47) rfl)) (B.1 _ (List.mem_of_getElem? (i := 34) rfl)) (B.1 _ (List.mem_of_getElem? (i := 48) rfl)) (by decide) pd__28_I_29_I rfl id (c_nbl B (n := oi + ni) (by omega)) d34_27 rfl rfl rfl (by decide) (by decide) (by decide) (by decide) all0 fun v7 h7 z7 K7 q7 => ?_
      obtain ⟨m, rfl, hm, rfl⟩ := q7
      show C.W h4 [a2] 1 6 (mkF K.m 30 #[.val (.ref b), .val (.int oi), .val (.int ni), .val (.ref a2), .val (.int (Int32.ofNat k)), .unset] [.int m, .int (oi <<< ((1 : Int32) &&& 31)), .ref b])
      have Ab_8 := (Ab_3.keep K4 (ninS (neA (by omega)) nin0))
      refine C.callS [.ref b, .int (oi <<< ((1 : Int32) &&& 31)), .int m] [] 0 (B.1 _ (List.mem_of_getElem? (i := 177) rfl)) (B.1 _ (List.mem_of_getElem? (i := 178) rfl)) (B.1 _ (List.mem_of_getElem? (i := 179) rfl)) (B.1 _ (List.mem_of_getElem? (i := 180) rfl)) (by decide) pd__28__5b_BII_29__5b_B rfl id (c_cor B (o := 2 * o) (n := 2 * n) Ab_8 (by omega) (by omega) (by rw [wide_len]; omega) (by omega) (by rw [wide_len]; omega)) d34_30 rfl rfl rfl (by decide) (by decide) (by decide) (by decide) all0 fun v9 h9 z9 K9 q9 => ?_
      obtain ⟨d, rfl, ld, lt, Ad⟩ := q9
      show C.W h9 [a2] 2 18 (mkF K.m 33 #[.val (.ref b), .val (.int oi), .val (.int ni), .val (.ref a2), .val (.int (Int32.ofNat k)), .unset] [.ref d])
      rw [wide_drop, wide_take] at Ad
      refine C.astore #[.val (.ref b), .val (.int oi), .val (.int ni), .val (.ref a2), .val (.int (Int32.ofNat k)), .val (.ref d)] d34_33 rfl rfl ?_
      refine C.aload d34_35 rfl rfl ?_
      refine C.iload d34_37 rfl ?_
      refine C.callS [.ref d, .int (Int32.ofNat k)] [] 0 (B.1 _ (List.mem_of_getElem? (i := 56) rfl)) (B.1 _ (List.mem_of_getElem? (i := 57) rfl)) (B.1 _ (List.mem_of_getElem? (i := 34) rfl)) (B.1 _ (List.mem_of_getElem? (i := 58) rfl)) (by decide) pd__28__5b_BI_29_C rfl id (c_getChar B Ad ek hk (hpd c (List.mem_of_getElem? hk))) d34_39 rfl rfl rfl (by decide) (by decide) (by decide) (by decide) all0 fun v10 h10 z10 K10 q10 => ?_
      obtain ⟨rfl, rfl⟩ := q10
      show C.W h9 [a2] 2 18 (mkF K.m 42 #[.val (.ref b), .val (.int oi), .val (.int ni), .val (.ref a2), .val (.int (Int32.ofNat k)), .val (.ref d)] [.int c])
      refine C.sipush (v := (255 : Int32)) d34_42 (by first | rfl | decide) ?_
      refine C.icmp_gt 61 d34_45 (by decide) (by decide) (fun q11 => ?_) (fun q11 => ?_)
      · refine C.aload d34_61 rfl rfl ?_
        exact C.areturn rfl rfl rfl d34_63 (by decide) (by decide) ⟨d, 1, _, rfl, by omega, by omega, Ad, Or.inr ⟨rfl, rfl, hpd, c, List.mem_of_getElem? hk, hgt⟩⟩
      · exfalso; omega
set_option maxRecDepth 65536 in
set_option maxHeartbeats 40000000 in
theorem c_unew  (B : Base Z a0) (hit : it) {h : Heap} {b o n : Nat} {oi ni : Int32} {cs : List Int32} (Ab : Ary Z h b .byte (wide cs)) (ho : oi.toInt = o) (hn : ni.toInt = n) (hon : o + n ≤ cs.length) (hw : ¬ (o = 0 ∧ n = cs.length)) (hc : cs.length ≤ 6) (hp : ∀ c ∈ cs, 0 ≤ c.toInt ∧ c.toInt < 65536) : Con l Z a0 EL it n0 (⟨"java/lang/StringUTF16", "newString", "([BII)Ljava/lang/String;"⟩ : MethodName) 6 103 3 22 #[.ref b, .int oi, .int ni] h [] (fun v h' => ∃ x : Nat, v = some (.ref x) ∧ Str Z h' h'.size x ((cs.drop o).take n)) := by
  refine Met.con (bytes := jdk_52_method_69_code) (maxL := 5) (ret := (some (.object "java/lang/String"))) (rm := ({ frames := 5, cells := 3, slots := 22, locals := 87 } : Room)) (Met.of (own := "java/lang/StringUTF16") (nm := "newString") #[.val (.ref b), .val (.int oi), .val (.int ni), .unset, .unset] (ew B) rfl rfl (plainFor_of_name pn_java_lang_StringUTF16) (fun m => by first | (simp [entryFrame, mkF, argsToLocals, Value.category]; done) | rfl) fun K C => ?_) (B.1 _ (List.mem_of_getElem? (i := 160) rfl)) (B.1 _ (List.mem_of_getElem? (i := 34) rfl)) rfl rfl rfl rfl
  obtain ⟨zc, Sc, hzc⟩ := B.2.1
  have lb := Ab.lt
  have sl := sub_len hon
  have k0 : (0 : Int32).toInt = 0 := rfl
  refine C.iloadN d35_0 rfl ?_
  refine C.ifc_ne 8 d35_1 (by decide) (by decide) (fun q1 => ?_) (fun q1 => ?_)
  · refine C.getS (B.1 _ (List.mem_of_getElem? (i := 161) rfl)) Via.refl Sc d35_8 ?_
    refine C.ifc_eq 39 d35_11 (by decide) (by decide) (fun q2 => ?_) (fun q2 => ?_)
    · exfalso; exact hzc (Int32.toInt_inj.mp q2)
    · refine C.aloadN d35_14 rfl rfl ?_
      refine C.iloadN d35_15 rfl ?_
      refine C.iloadN d35_16 rfl ?_
      refine C.callS [.ref b, .int oi, .int ni] [] 0 (B.1 _ (List.mem_of_getElem? (i := 162) rfl)) (B.1 _ (List.mem_of_getElem? (i := 163) rfl)) (B.1 _ (List.mem_of_getElem? (i := 34) rfl)) (B.1 _ (List.mem_of_getElem? (i := 164) rfl)) (by decide) pd__28__5b_BII_29__5b_B rfl id (c_bcmp3 B Ab ho hn hon hw hc hp) d35_17 rfl rfl rfl (by decide) (by decide) (by decide) (by decide) all0 fun v3 h3 z3 K3 q3 => ?_
      obtain ⟨d, cd, vs, rfl, ld, lt, Ad, cod⟩ := q3
      show C.W h3 [] 2 18 (mkF K.m 20 #[.val (.ref b), .val (.int oi), .val (.int ni), .unset, .unset] [.ref d])
      refine C.astoreN #[.val (.ref b), .val (.int oi), .val (.int ni), .val (.ref d), .unset] d35_20 rfl rfl ?_
      refine C.aloadN d35_21 rfl rfl ?_
      refine C.iloadN d35_22 rfl ?_
      refine C.callS [.ref d, .int ni] [] 0 (B.1 _ (List.mem_of_getElem? (i := 195) rfl)) (B.1 _ (List.mem_of_getElem? (i := 60) rfl)) (B.1 _ (List.mem_of_getElem? (i := 34) rfl)) (B.1 _ (List.mem_of_getElem? (i := 61) rfl)) (by decide) pd__28__5b_BI_29_B rfl id (c_cfal B Ad cod (by rw [sl]; exact hn) (by omega)) d35_23 rfl rfl rfl (by decide) (by decide) (by decide) (by decide) all0 fun v4 h4 z4 K4 q4 => ?_
      obtain ⟨rfl, rfl⟩ := q4
      show C.W h3 [] 2 18 (mkF K.m 26 #[.val (.ref b), .val (.int oi), .val (.int ni), .val (.ref d), .unset] [.int cd])
      refine C.istore #[.val (.ref b), .val (.int oi), .val (.int ni), .val (.ref d), .val (.int cd)] d35_26 rfl ?_
      refine C.new (B.1 _ (List.mem_of_getElem? (i := 196) rfl)) (B.1 _ (List.mem_of_getElem? (i := 19) rfl)) (B.1 _ (List.mem_of_getElem? (i := 20) rfl)) d35_28 (by decide) (by decide) fun h5 a6 g5 z5 o5 K5 En5 Dn5 Un5 => ?_
      show C.W h5 [a6] 3 22 (mkF K.m 31 #[.val (.ref b), .val (.int oi), .val (.int ni), .val (.ref d), .val (.int cd)] [.ref a6])
      have Fv : Fld Z h5 a6 "java/lang/String" "value" "[B" (.null) := Dn5 (Or.inr (B.1 _ (List.mem_of_getElem? (i := 65) rfl))) (ty := (.array .byte)) (by decide)
      have Fc : Fld Z h5 a6 "java/lang/String" "coder" "B" (.int 0) := Dn5 (Or.inr (B.1 _ (List.mem_of_getElem? (i := 63) rfl))) (ty := .byte) (by decide)
      refine C.dup rfl d35_31 ?_
      refine C.aloadN d35_32 rfl rfl ?_
      refine C.iload d35_33 rfl ?_
      refine C.callN a6 [.ref d, .int cd] [.ref a6] 1 (B.1 _ (List.mem_of_getElem? (i := 197) rfl)) (B.1 _ (List.mem_of_getElem? (i := 198) rfl)) (B.1 _ (List.mem_of_getElem? (i := 199) rfl)) rfl (by decide) pd__28__5b_BB_29_V rfl id (c_initBB B En5 Fv Fc cod.cd) d35_35 rfl rfl rfl (by decide) (by decide) (by decide) (by decide) (allS (List.mem_of_getElem? (i := 0) rfl) all0) fun v7 h7 z7 K7 q7 => ?_
      obtain ⟨rfl, E7, V7, C7⟩ := q7
      show C.W h7 [a6] 3 22 (mkF K.m 38 #[.val (.ref b), .val (.int oi), .val (.int ni), .val (.ref d), .val (.int cd)] [.ref a6])
      have Ad_8 := ((Ad.keep K5 nin0).keep K7 (ninS (neA (by omega)) nin0))
      exact C.areturn rfl rfl rfl d35_38 (by decide) (by decide) ⟨a6, rfl, E7, by omega, Nat.le_refl _, d, cd, vs, by omega, V7, C7, Ad_8, cod⟩
  · refine C.ldcwC hit (vs := []) 0 (B.1 _ (List.mem_of_getElem? (i := 221) rfl)) (sA B) (by simp [EL]) ⟨by decide, by first | rfl | decide⟩ (by decide) (by decide) d35_4 (by decide) (by decide) fun h9 s9 t9 z9 K9 ls9 lt9 ne9 Es9 Cs9 Fs9 As9 => ?_
    show C.W h9 [] 2 4 (mkF K.m 7 #[.val (.ref b), .val (.int oi), .val (.int ni), .unset, .unset] [.ref s9])
    exact C.areturn rfl rfl rfl d35_7 (by decide) (by decide) ⟨s9, rfl, by rw [show n = 0 by omega, List.take_zero]; exact ⟨Es9, ls9, Nat.le_refl _, t9, 0, [], lt9, Fs9, Cs9, As9, Or.inl ⟨rfl, rfl, by simp⟩⟩⟩
set_option maxRecDepth 65536 in
set_option maxHeartbeats 40000000 in
theorem c_lnew  (B : Base Z a0) (hit : it) {h : Heap} {b o n : Nat} {oi ni : Int32} {cs : List Int32} (Ab : Ary Z h b .byte (cs.map fun c => Value.int (lo8 c))) (ho : oi.toInt = o) (hn : ni.toInt = n) (hon : o + n ≤ cs.length) (hw : ¬ (o = 0 ∧ n = cs.length)) (hc : cs.length ≤ 6) (hp : ∀ c ∈ cs, 0 ≤ c.toInt ∧ c.toInt < 256) : Con l Z a0 EL it n0 (⟨"java/lang/StringLatin1", "newString", "([BII)Ljava/lang/String;"⟩ : MethodName) 4 86 2 16 #[.ref b, .int oi, .int ni] h [] (fun v h' => ∃ x : Nat, v = some (.ref x) ∧ Str Z h' h'.size x ((cs.drop o).take n)) := by
  refine Met.con (bytes := jdk_43_method_47_code) (maxL := 3) (ret := (some (.object "java/lang/String"))) (rm := ({ frames := 3, cells := 2, slots := 16, locals := 72 } : Room)) (Met.of (own := "java/lang/StringLatin1") (nm := "newString") #[.val (.ref b), .val (.int oi), .val (.int ni)] (ew B) rfl rfl (plainFor_of_name pn_java_lang_StringLatin1) (fun m => by first | (simp [entryFrame, mkF, argsToLocals, Value.category]; done) | rfl) fun K C => ?_) (B.1 _ (List.mem_of_getElem? (i := 217) rfl)) (B.1 _ (List.mem_of_getElem? (i := 212) rfl)) rfl rfl rfl rfl
  have lb := Ab.lt
  have k0 : (0 : Int32).toInt = 0 := rfl
  have e2 : (oi + ni).toInt = (o + n : Nat) := by rw [add_int (by omega) (by omega)]; omega
  refine C.iloadN d36_0 rfl ?_
  refine C.ifc_ne 7 d36_1 (by decide) (by decide) (fun q1 => ?_) (fun q1 => ?_)
  · refine C.new (B.1 _ (List.mem_of_getElem? (i := 223) rfl)) (B.1 _ (List.mem_of_getElem? (i := 19) rfl)) (B.1 _ (List.mem_of_getElem? (i := 20) rfl)) d36_7 (by decide) (by decide) fun h2 a3 g2 z2 o2 K2 En2 Dn2 Un2 => ?_
    show C.W h2 [a3] 1 4 (mkF K.m 10 #[.val (.ref b), .val (.int oi), .val (.int ni)] [.ref a3])
    have Fv : Fld Z h2 a3 "java/lang/String" "value" "[B" (.null) := Dn2 (Or.inr (B.1 _ (List.mem_of_getElem? (i := 65) rfl))) (ty := (.array .byte)) (by decide)
    have Fc : Fld Z h2 a3 "java/lang/String" "coder" "B" (.int 0) := Dn2 (Or.inr (B.1 _ (List.mem_of_getElem? (i := 63) rfl))) (ty := .byte) (by decide)
    refine C.dup rfl d36_10 ?_
    refine C.aloadN d36_11 rfl rfl ?_
    refine C.iloadN d36_12 rfl ?_
    refine C.iloadN d36_13 rfl ?_
    refine C.iloadN d36_14 rfl ?_
    refine C.iadd d36_15 ?_
    have Ab_4 := (Ab.keep K2 nin0)
    refine C.callS [.ref b, .int oi, .int (oi + ni)] [.ref a3, .ref a3] 2 (B.1 _ (List.mem_of_getElem? (i := 224) rfl)) (B.1 _ (List.mem_of_getElem? (i := 178) rfl)) (B.1 _ (List.mem_of_getElem? (i := 179) rfl)) (B.1 _ (List.mem_of_getElem? (i := 180) rfl)) (by decide) pd__28__5b_BII_29__5b_B rfl id (c_cor B Ab_4 ho e2 (by simpa using hon) (by omega) (by simpa using hw)) d36_16 rfl rfl rfl (by decide) (by decide) (by decide) (by decide) all0 fun v5 h5 z5 K5 q5 => ?_
    obtain ⟨d, rfl, ld, lt, Ad⟩ := q5
    show C.W h5 [a3] 2 16 (mkF K.m 19 #[.val (.ref b), .val (.int oi), .val (.int ni)] [.ref d, .ref a3, .ref a3])
    rw [← List.map_drop, ← List.map_take] at Ad
    refine C.iconst (v := (0 : Int32)) d36_19 (by first | rfl | decide) ?_
    have En2_6 := (En2.keep K5)
    have Fv_7 := (Fv.keep K5 nin0)
    have Fc_8 := (Fc.keep K5 nin0)
    refine C.callN a3 [.ref d, .int (0 : Int32)] [.ref a3] 1 (B.1 _ (List.mem_of_getElem? (i := 225) rfl)) (B.1 _ (List.mem_of_getElem? (i := 198) rfl)) (B.1 _ (List.mem_of_getElem? (i := 199) rfl)) rfl (by decide) pd__28__5b_BB_29_V rfl id (c_initBB B En2_6 Fv_7 Fc_8 (Or.inl rfl)) d36_20 rfl rfl rfl (by decide) (by decide) (by decide) (by decide) (allS (List.mem_of_getElem? (i := 0) rfl) all0) fun v9 h9 z9 K9 q9 => ?_
    obtain ⟨rfl, E9, V9, C9⟩ := q9
    show C.W h9 [a3] 2 16 (mkF K.m 23 #[.val (.ref b), .val (.int oi), .val (.int ni)] [.ref a3])
    have Ad_10 := (Ad.keep K9 (ninS (neA (by omega)) nin0))
    exact C.areturn rfl rfl rfl d36_23 (by decide) (by decide) ⟨a3, rfl, E9, by omega, Nat.le_refl _, d, 0, _, by omega, V9, C9, Ad_10, Or.inl ⟨rfl, rfl, fun c hc => hp c (sub_mem hc)⟩⟩
  · refine C.ldcC hit (vs := []) (z := 0) 0 (B.1 _ (List.mem_of_getElem? (i := 218) rfl)) (sA B) (by simp [EL]) ⟨by decide, by first | rfl | decide⟩ (by decide) (by first | rfl | decide) (by decide) (by decide) d36_4 (by decide) (by decide) fun h11 s11 t11 z11 K11 ls11 lt11 ne11 Es11 Cs11 Fs11 As11 => ?_
    show C.W h11 [] 2 4 (mkF K.m 6 #[.val (.ref b), .val (.int oi), .val (.int ni)] [.ref s11])
    exact C.areturn rfl rfl rfl d36_6 (by decide) (by decide) ⟨s11, rfl, by rw [show n = 0 by omega, List.take_zero]; exact ⟨Es11, ls11, Nat.le_refl _, t11, 0, [], lt11, Fs11, Cs11, As11, Or.inl ⟨rfl, rfl, by simp⟩⟩⟩
set_option maxRecDepth 65536 in
set_option maxHeartbeats 40000000 in
theorem c_sub  (B : Base Z a0) (hit : it) {h : Heap} {N x o n : Nat} {i j : Int32} {cs : List Int32} (S : Str Z h N x cs) (hi : i.toInt = o) (hj : j.toInt = (o + n : Nat)) (hon : o + n ≤ cs.length) (hc : cs.length ≤ 6) : Con l Z a0 EL it n0 (⟨"java/lang/String", "substring", "(II)Ljava/lang/String;"⟩ : MethodName) 7 119 3 22 #[.ref x, .int i, .int j] h [] (fun v h' => ∃ y : Nat, v = some (.ref y) ∧ Str Z h' h'.size y ((cs.drop o).take n)) := by
  refine Met.con (bytes := jdk_42_method_92_code) (maxL := 5) (ret := (some (.object "java/lang/String"))) (rm := ({ frames := 6, cells := 3, slots := 22, locals := 103 } : Room)) (Met.of (own := "java/lang/String") (nm := "substring") #[.val (.ref x), .val (.int i), .val (.int j), .unset, .unset] (ew B) rfl rfl (plainFor_of_name pn_java_lang_String) (fun m => by first | (simp [entryFrame, mkF, argsToLocals, Value.category]; done) | rfl) fun K C => ?_) (B.1 _ (List.mem_of_getElem? (i := 148) rfl)) (B.1 _ (List.mem_of_getElem? (i := 20) rfl)) rfl rfl rfl rfl
  have S0 := S
  have k0 : (0 : Int32).toInt = 0 := rfl
  have lS := S.lt
  have en : (Int32.ofNat cs.length).toInt = cs.length := ofNat_int (by omega)
  obtain ⟨Ex, lx1, lx2, tx, cx, vx, ltx, Vx, Cx, Ax, codx⟩ := S
  refine C.aloadN d37_0 rfl rfl ?_
  refine C.callV x [] [] 0 (B.1 _ (List.mem_of_getElem? (i := 149) rfl)) (B.1 _ (List.mem_of_getElem? (i := 150) rfl)) (B.1 _ (List.mem_of_getElem? (i := 151) rfl)) (B.1 _ (List.mem_of_getElem? (i := 95) rfl)) (by decide) rfl Ex pd__28__29_I rfl id (c_length B S0) d37_1 rfl rfl rfl (by decide) (by decide) (by decide) (by decide) all0 fun v1 h1 z1 K1 q1 => ?_
  obtain ⟨rfl, rfl⟩ := q1
  show C.W h [] 0 0 (mkF K.m 4 #[.val (.ref x), .val (.int i), .val (.int j), .unset, .unset] [.int (Int32.ofNat cs.length)])
  refine C.istoreN #[.val (.ref x), .val (.int i), .val (.int j), .val (.int (Int32.ofNat cs.length)), .unset] d37_4 rfl ?_
  refine C.iloadN d37_5 rfl ?_
  refine C.iloadN d37_6 rfl ?_
  refine C.iloadN d37_7 rfl ?_
  refine C.callS [.int i, .int j, .int (Int32.ofNat cs.length)] [] 0 (B.1 _ (List.mem_of_getElem? (i := 152) rfl)) (B.1 _ (List.mem_of_getElem? (i := 153) rfl)) (B.1 _ (List.mem_of_getElem? (i := 20) rfl)) (B.1 _ (List.mem_of_getElem? (i := 154) rfl)) (by decide) pd__28_III_29_V rfl id (c_cbbe B (by omega) (by omega) (by omega)) d37_8 rfl rfl rfl (by decide) (by decide) (by decide) (by decide) all0 fun v2 h2 z2 K2 q2 => ?_
  obtain ⟨rfl, rfl⟩ := q2
  show C.W h [] 0 0 (mkF K.m 11 #[.val (.ref x), .val (.int i), .val (.int j), .val (.int (Int32.ofNat cs.length)), .unset] [])
  refine C.iloadN d37_11 rfl ?_
  have J3 : (¬ (o = 0 ∧ n = cs.length)) → C.W h [] 0 0 (mkF K.m 22 #[.val (.ref x), .val (.int i), .val (.int j), .val (.int (Int32.ofNat cs.length)), .unset] []) := by
    intro j3_0
    refine C.iloadN d37_22 rfl ?_
    refine C.iloadN d37_23 rfl ?_
    refine C.isub d37_24 ?_
    obtain ⟨m, e_m⟩ : ∃ z, (j - i) = z := ⟨_, rfl⟩
    refine C.topI e_m ?_
    have hm : m.toInt = n := by rw [← e_m, sub_int (by omega) (by omega)]; omega
    refine C.istore #[.val (.ref x), .val (.int i), .val (.int j), .val (.int (Int32.ofNat cs.length)), .val (.int m)] d37_25 rfl ?_
    refine C.aloadN d37_27 rfl rfl ?_
    refine C.callV x [] [] 0 (B.1 _ (List.mem_of_getElem? (i := 113) rfl)) (B.1 _ (List.mem_of_getElem? (i := 114) rfl)) (B.1 _ (List.mem_of_getElem? (i := 116) rfl)) (B.1 _ (List.mem_of_getElem? (i := 115) rfl)) (by decide) rfl Ex pd__28__29_Z rfl id (c_isLat B Cx) d37_28 rfl rfl rfl (by decide) (by decide) (by decide) (by decide) all0 fun v4 h4 z4 K4 q4 => ?_
    obtain ⟨rfl, rfl⟩ := q4
    show C.W h [] 0 0 (mkF K.m 31 #[.val (.ref x), .val (.int i), .val (.int j), .val (.int (Int32.ofNat cs.length)), .val (.int m)] [.int (if cx = 0 then (1 : Int32) else 0)])
    refine C.ifc_eq 47 d37_31 (by decide) (by decide) (fun q6 => ?_) (fun q6 => ?_)
    · have hb5 : ¬ (cx = 0) := fun e => by rw [if_pos e] at q6; revert q6; decide
      obtain ⟨rfl, hpx⟩ := codx.wid (codx.cd.resolve_left hb5)
      refine C.aloadN d37_47 rfl rfl ?_
      refine C.getF (host := "") (Or.inl (B.1 _ (List.mem_of_getElem? (i := 64) rfl))) Via.refl Vx d37_48 ?_
      refine C.iloadN d37_51 rfl ?_
      refine C.iload d37_52 rfl ?_
      refine C.callS [.ref tx, .int i, .int m] [] 0 (B.1 _ (List.mem_of_getElem? (i := 158) rfl)) (B.1 _ (List.mem_of_getElem? (i := 159) rfl)) (B.1 _ (List.mem_of_getElem? (i := 34) rfl)) (B.1 _ (List.mem_of_getElem? (i := 160) rfl)) (by decide) pd__28__5b_BII_29_Ljava_2f_lang_2f_String_3b_ rfl id (c_unew B hit Ax hi hm hon j3_0 hc hpx) d37_54 rfl rfl rfl (by decide) (by decide) (by decide) (by decide) all0 fun v7 h7 z7 K7 q7 => ?_
      obtain ⟨y, rfl, Sy⟩ := q7
      show C.W h7 [] 3 22 (mkF K.m 57 #[.val (.ref x), .val (.int i), .val (.int j), .val (.int (Int32.ofNat cs.length)), .val (.int m)] [.ref y])
      exact C.areturn rfl rfl rfl d37_57 (by decide) (by decide) ⟨y, rfl, Sy⟩
    · have hb5 : cx = 0 := Classical.byContradiction fun e => by rw [if_neg e] at q6; exact q6 rfl
      obtain ⟨rfl, hpx⟩ := codx.lo hb5
      refine C.aloadN d37_34 rfl rfl ?_
      refine C.getF (host := "") (Or.inl (B.1 _ (List.mem_of_getElem? (i := 64) rfl))) Via.refl Vx d37_35 ?_
      refine C.iloadN d37_38 rfl ?_
      refine C.iload d37_39 rfl ?_
      refine C.callS [.ref tx, .int i, .int m] [] 0 (B.1 _ (List.mem_of_getElem? (i := 215) rfl)) (B.1 _ (List.mem_of_getElem? (i := 216) rfl)) (B.1 _ (List.mem_of_getElem? (i := 212) rfl)) (B.1 _ (List.mem_of_getElem? (i := 217) rfl)) (by decide) pd__28__5b_BII_29_Ljava_2f_lang_2f_String_3b_ rfl id (c_lnew B hit Ax hi hm hon j3_0 hc hpx) d37_41 rfl rfl rfl (by decide) (by decide) (by decide) (by decide) all0 fun v8 h8 z8 K8 q8 => ?_
      obtain ⟨y, rfl, Sy⟩ := q8
      show C.W h8 [] 2 16 (mkF K.m 44 #[.val (.ref x), .val (.int i), .val (.int j), .val (.int (Int32.ofNat cs.length)), .val (.int m)] [.ref y])
      refine C.goto 57 d37_44 (by decide) (by decide) ?_
      exact C.areturn rfl rfl rfl d37_57 (by decide) (by decide) ⟨y, rfl, Sy⟩
  refine C.ifc_ne 22 d37_12 (by decide) (by decide) (fun q9 => ?_) (fun q9 => ?_)
  · exact J3 (by omega)
  · refine C.iloadN d37_15 rfl ?_
    refine C.iloadN d37_16 rfl ?_
    refine C.icmp_ne 22 d37_17 (by decide) (by decide) (fun q10 => ?_) (fun q10 => ?_)
    · exact J3 (by omega)
    · have ew : ((cs.drop o).take n) = cs := by rw [show o = 0 by omega, List.drop_zero, List.take_of_length_le (by omega)]
      refine C.aloadN d37_20 rfl rfl ?_
      exact C.areturn rfl rfl rfl d37_21 (by decide) (by decide) ⟨x, rfl, by rw [ew]; exact str_more S0 (by omega) (Nat.le_refl _)⟩
def nx (cs : List Int32) (x : Nat) : Nat := match cs[x]?, cs[x + 1]? with
  | some c, some e => if Hi c ∧ Lo e then x + 2 else x + 1
  | _, _ => x + 1
def adv (cs : List Int32) : Nat → Nat → Nat
  | 0, x => x
  | k + 1, x => adv cs k (nx cs x)
theorem nx_yes {cs : List Int32} {x : Nat} {c e : Int32} (h1 : cs[x]? = some c) (h2 : cs[x + 1]? = some e) (h3 : Hi c) (h4 : Lo e) : nx cs x = x + 2 := by
  unfold nx; rw [h1, h2]; exact if_pos ⟨h3, h4⟩
theorem nx_hi {cs : List Int32} {x : Nat} {c : Int32} (h1 : cs[x]? = some c) (h3 : ¬ Hi c) : nx cs x = x + 1 := by
  unfold nx; rw [h1]
  cases cs[x + 1]? with
  | none => rfl
  | some e => exact if_neg fun q => h3 q.1
theorem nx_lo {cs : List Int32} {x : Nat} {c e : Int32} (h1 : cs[x]? = some c) (h2 : cs[x + 1]? = some e) (h4 : ¬ Lo e) : nx cs x = x + 1 := by
  unfold nx; rw [h1, h2]; exact if_neg fun q => h4 q.2
theorem nx_end {cs : List Int32} {x : Nat} (h : cs.length ≤ x + 1) : nx cs x = x + 1 := by
  unfold nx; rw [List.getElem?_eq_none h]
  cases cs[x]? <;> rfl
theorem adv_add (cs : List Int32) (a b x : Nat) : adv cs (a + b) x = adv cs b (adv cs a x) := by
  induction a generalizing x with
  | zero => rw [Nat.zero_add]; rfl
  | succ a ih => rw [show a + 1 + b = (a + b) + 1 by omega]; exact ih _
set_option maxRecDepth 65536 in
set_option maxHeartbeats 40000000 in
theorem c_obcp  (B : Base Z a0) {h : Heap} {N x o k : Nat} {i n : Int32} {cs : List Int32} (S : Str Z h N x cs) (hi : i.toInt = o) (hn : n.toInt = k) (ho : o ≤ cs.length) (hl : cs.length ≤ 6) (hk : k ≤ 6) (ha : ∀ t, t < k → adv cs t o < cs.length) : Con l Z a0 EL it n0 (⟨"java/lang/Character", "offsetByCodePoints", "(Ljava/lang/CharSequence;II)I"⟩ : MethodName) 6 83 0 0 #[.ref x, .int i, .int n] h [] (fun v h' => ∃ r : Int32, v = some (.int r) ∧ r.toInt = adv cs k o ∧ h = h') := by
  refine Met.con (bytes := jdk_89_method_36_code) (maxL := 6) (ret := (some .int)) (rm := ({ frames := 5, cells := 0, slots := 0, locals := 66 } : Room)) (Met.of (own := "java/lang/Character") (nm := "offsetByCodePoints") #[.val (.ref x), .val (.int i), .val (.int n), .unset, .unset, .unset] (ew B) rfl rfl (plainFor_of_name pn_java_lang_Character) (fun m => by first | (simp [entryFrame, mkF, argsToLocals, Value.category]; done) | rfl) fun K C => ?_) (B.1 _ (List.mem_of_getElem? (i := 90) rfl)) (B.1 _ (List.mem_of_getElem? (i := 89) rfl)) rfl rfl rfl rfl
  have Ex := S.exa
  have en : (Int32.ofNat cs.length).toInt = cs.length := ofNat_int (by omega)
  have k0 : (0 : Int32).toInt = 0 := rfl
  have eo : i = Int32.ofNat o := Int32.toInt_inj.mp (by rw [ofNat_int (by omega)]; exact hi)
  refine C.aloadN d38_0 rfl rfl ?_
  refine C.callI x [] [] 0 (B.1 _ (List.mem_of_getElem? (i := 91) rfl)) (B.1 _ (List.mem_of_getElem? (i := 92) rfl)) (by first | rfl | decide) (B.1 _ (List.mem_of_getElem? (i := 93) rfl)) (B.1 _ (List.mem_of_getElem? (i := 94) rfl)) (B.1 _ (List.mem_of_getElem? (i := 95) rfl)) (B.1 _ (List.mem_of_getElem? (i := 96) rfl)) (B.1 _ (List.mem_of_getElem? (i := 97) rfl)) (B.1 _ (List.mem_of_getElem? (i := 98) rfl)) (by decide) Ex pd__28__29_I rfl id (c_length B S) d38_1 rfl rfl rfl (by decide) (by decide) (by decide) (by decide) all0 fun v1 h1 z1 K1 q1 => ?_
  obtain ⟨rfl, rfl⟩ := q1
  show C.W h [] 0 0 (mkF K.m 6 #[.val (.ref x), .val (.int i), .val (.int n), .unset, .unset, .unset] [.int (Int32.ofNat cs.length)])
  refine C.istoreN #[.val (.ref x), .val (.int i), .val (.int n), .val (.int (Int32.ofNat cs.length)), .unset, .unset] d38_6 rfl ?_
  refine C.iloadN d38_7 rfl ?_
  refine C.ifc_lt 16 d38_8 (by decide) (by decide) (fun q2 => ?_) (fun q2 => ?_)
  · exfalso; omega
  · refine C.iloadN d38_11 rfl ?_
    refine C.iloadN d38_12 rfl ?_
    refine C.icmp_le 24 d38_13 (by decide) (by decide) (fun q3 => ?_) (fun q3 => ?_)
    · refine C.iloadN d38_24 rfl ?_
      refine C.istore #[.val (.ref x), .val (.int i), .val (.int n), .val (.int (Int32.ofNat cs.length)), .val (.int i), .unset] d38_25 rfl ?_
      refine C.iloadN d38_27 rfl ?_
      refine C.ifc_lt 109 d38_28 (by decide) (by decide) (fun q4 => ?_) (fun q4 => ?_)
      · exfalso; omega
      · refine C.iconst (v := (0 : Int32)) d38_31 (by first | rfl | decide) ?_
        refine C.istore #[.val (.ref x), .val (.int i), .val (.int n), .val (.int (Int32.ofNat cs.length)), .val (.int i), .val (.int (0 : Int32))] d38_32 rfl ?_
        suffices LOOP : ∀ (f j z : Nat), f + j = k → z ≤ cs.length → adv cs f z = adv cs k o → (∀ t, t < f → adv cs t z < cs.length) → C.W h [] 0 0 (mkF K.m 34 #[.val (.ref x), .val (.int i), .val (.int n), .val (.int (Int32.ofNat cs.length)), .val (.int (Int32.ofNat z)), .val (.int (Int32.ofNat j))] []) by
          have q := LOOP k 0 o (by omega) ho rfl ha
          rw [← eo] at q
          exact q
        intro f
        induction f with
        | zero =>
          intro j z hf hz hr hlt
          have ej : (Int32.ofNat j).toInt = j := ofNat_int (by omega)
          have ez : (Int32.ofNat z).toInt = z := ofNat_int (by omega)
          refine C.iload d38_34 rfl ?_
          refine C.iloadN d38_36 rfl ?_
          refine C.icmp_ge 92 d38_37 (by decide) (by decide) (fun q5 => ?_) (fun q5 => ?_)
          · refine C.iload d38_92 rfl ?_
            refine C.iloadN d38_94 rfl ?_
            refine C.icmp_ge 106 d38_95 (by decide) (by decide) (fun q6 => ?_) (fun q6 => ?_)
            · refine C.goto 182 d38_106 (by decide) (by decide) ?_
              refine C.iload d38_182 rfl ?_
              exact C.ireturn (t := .int) rfl (by simp) rfl d38_184 (by decide) (by decide) ⟨_, rfl, by rw [ez]; exact congrArg Int.ofNat hr, rfl⟩
            · exfalso; omega
          · refine C.iload d38_40 rfl ?_
            refine C.iloadN d38_42 rfl ?_
            refine C.icmp_ge 92 d38_43 (by decide) (by decide) (fun q7 => ?_) (fun q7 => ?_)
            · refine C.iload d38_92 rfl ?_
              refine C.iloadN d38_94 rfl ?_
              refine C.icmp_ge 106 d38_95 (by decide) (by decide) (fun q8 => ?_) (fun q8 => ?_)
              · refine C.goto 182 d38_106 (by decide) (by decide) ?_
                refine C.iload d38_182 rfl ?_
                exact C.ireturn (t := .int) rfl (by simp) rfl d38_184 (by decide) (by decide) ⟨_, rfl, by rw [ez]; exact congrArg Int.ofNat hr, rfl⟩
              · exfalso; omega
            · exfalso; omega
        | succ f ih =>
          intro j z hf hz hr hlt
          have ej : (Int32.ofNat j).toInt = j := ofNat_int (by omega)
          have ez : (Int32.ofNat z).toInt = z := ofNat_int (by omega)
          refine C.iload d38_34 rfl ?_
          refine C.iloadN d38_36 rfl ?_
          refine C.icmp_ge 92 d38_37 (by decide) (by decide) (fun q9 => ?_) (fun q9 => ?_)
          · exfalso; have := hlt 0 (by omega); have e0 : adv cs 0 z = z := rfl; omega
          · refine C.iload d38_40 rfl ?_
            refine C.iloadN d38_42 rfl ?_
            refine C.icmp_ge 92 d38_43 (by decide) (by decide) (fun q10 => ?_) (fun q10 => ?_)
            · exfalso; omega
            · have hzl : z < cs.length := hlt 0 (by omega)
              obtain ⟨c, hcc⟩ : ∃ c, cs[z]? = some c := ⟨_, List.getElem?_eq_getElem hzl⟩
              have ez1 : (Int32.ofNat (z + 1)).toInt = (z + 1 : Nat) := ofNat_int (by omega)
              refine C.aloadN d38_46 rfl rfl ?_
              refine C.iload d38_47 rfl ?_
              refine C.iinc (z := (1 : Int32)) #[.val (.ref x), .val (.int i), .val (.int n), .val (.int (Int32.ofNat cs.length)), .val (.int ((Int32.ofNat z) + (1 : Int32))), .val (.int (Int32.ofNat j))] d38_49 rfl (by first | rfl | decide) rfl ?_
              rw [ofNat_succ]
              show C.W h [] 0 0 (mkF K.m 52 #[.val (.ref x), .val (.int i), .val (.int n), .val (.int (Int32.ofNat cs.length)), .val (.int (Int32.ofNat (z + 1))), .val (.int (Int32.ofNat j))] [.int (Int32.ofNat z), .ref x])
              refine C.callI x [.int (Int32.ofNat z)] [] 0 (B.1 _ (List.mem_of_getElem? (i := 105) rfl)) (B.1 _ (List.mem_of_getElem? (i := 106) rfl)) (by first | rfl | decide) (B.1 _ (List.mem_of_getElem? (i := 107) rfl)) (B.1 _ (List.mem_of_getElem? (i := 108) rfl)) (B.1 _ (List.mem_of_getElem? (i := 109) rfl)) (B.1 _ (List.mem_of_getElem? (i := 110) rfl)) (B.1 _ (List.mem_of_getElem? (i := 111) rfl)) (B.1 _ (List.mem_of_getElem? (i := 98) rfl)) (by decide) Ex pd__28_I_29_C rfl id (c_charAt B S ez hcc) d38_52 rfl rfl rfl (by decide) (by decide) (by decide) (by decide) all0 fun v11 h11 z11 K11 q11 => ?_
              obtain ⟨rfl, rfl⟩ := q11
              show C.W h [] 0 0 (mkF K.m 57 #[.val (.ref x), .val (.int i), .val (.int n), .val (.int (Int32.ofNat cs.length)), .val (.int (Int32.ofNat (z + 1))), .val (.int (Int32.ofNat j))] [.int c])
              refine C.callS [.int c] [] 0 (B.1 _ (List.mem_of_getElem? (i := 135) rfl)) (B.1 _ (List.mem_of_getElem? (i := 136) rfl)) (B.1 _ (List.mem_of_getElem? (i := 89) rfl)) (B.1 _ (List.mem_of_getElem? (i := 137) rfl)) (by decide) pd__28_C_29_Z rfl id (c_jhigh B (c := c)) d38_57 rfl rfl rfl (by decide) (by decide) (by decide) (by decide) all0 fun v12 h12 z12 K12 q12 => ?_
              obtain ⟨rfl, rfl⟩ := q12
              show C.W h [] 0 0 (mkF K.m 60 #[.val (.ref x), .val (.int i), .val (.int n), .val (.int (Int32.ofNat cs.length)), .val (.int (Int32.ofNat (z + 1))), .val (.int (Int32.ofNat j))] [.int (if 55296 ≤ c.toInt ∧ c.toInt ≤ 56319 then (1 : Int32) else 0)])
              refine C.ifc_eq 86 d38_60 (by decide) (by decide) (fun q14 => ?_) (fun q14 => ?_)
              · have hb13 : ¬ (Hi c) := fun e => by rw [if_pos e] at q14; revert q14; decide
                refine C.iinc (z := (1 : Int32)) #[.val (.ref x), .val (.int i), .val (.int n), .val (.int (Int32.ofNat cs.length)), .val (.int (Int32.ofNat (z + 1))), .val (.int ((Int32.ofNat j) + (1 : Int32)))] d38_86 rfl (by first | rfl | decide) rfl ?_
                refine C.goto 34 d38_89 (by decide) (by decide) ?_
                rw [ofNat_succ]
                have e1 : nx cs z = z + 1 := nx_hi hcc hb13
                exact ih (j + 1) (z + 1) (by omega) (by omega) (by rw [← e1]; exact hr) (fun t ht => by rw [← e1]; exact hlt (t + 1) (by omega))
              · have hb13 : Hi c := Classical.byContradiction fun e => by rw [if_neg e] at q14; exact q14 rfl
                refine C.iload d38_63 rfl ?_
                refine C.iloadN d38_65 rfl ?_
                refine C.icmp_ge 86 d38_66 (by decide) (by decide) (fun q15 => ?_) (fun q15 => ?_)
                · refine C.iinc (z := (1 : Int32)) #[.val (.ref x), .val (.int i), .val (.int n), .val (.int (Int32.ofNat cs.length)), .val (.int (Int32.ofNat (z + 1))), .val (.int ((Int32.ofNat j) + (1 : Int32)))] d38_86 rfl (by first | rfl | decide) rfl ?_
                  refine C.goto 34 d38_89 (by decide) (by decide) ?_
                  rw [ofNat_succ]
                  have e1 : nx cs z = z + 1 := nx_end (by omega)
                  exact ih (j + 1) (z + 1) (by omega) (by omega) (by rw [← e1]; exact hr) (fun t ht => by rw [← e1]; exact hlt (t + 1) (by omega))
                · obtain ⟨e, hee⟩ : ∃ e, cs[z + 1]? = some e := ⟨_, List.getElem?_eq_getElem (by omega)⟩
                  refine C.aloadN d38_69 rfl rfl ?_
                  refine C.iload d38_70 rfl ?_
                  refine C.callI x [.int (Int32.ofNat (z + 1))] [] 0 (B.1 _ (List.mem_of_getElem? (i := 105) rfl)) (B.1 _ (List.mem_of_getElem? (i := 106) rfl)) (by first | rfl | decide) (B.1 _ (List.mem_of_getElem? (i := 107) rfl)) (B.1 _ (List.mem_of_getElem? (i := 108) rfl)) (B.1 _ (List.mem_of_getElem? (i := 109) rfl)) (B.1 _ (List.mem_of_getElem? (i := 110) rfl)) (B.1 _ (List.mem_of_getElem? (i := 111) rfl)) (B.1 _ (List.mem_of_getElem? (i := 98) rfl)) (by decide) Ex pd__28_I_29_C rfl id (c_charAt B S ez1 hee) d38_72 rfl rfl rfl (by decide) (by decide) (by decide) (by decide) all0 fun v16 h16 z16 K16 q16 => ?_
                  obtain ⟨rfl, rfl⟩ := q16
                  show C.W h [] 0 0 (mkF K.m 77 #[.val (.ref x), .val (.int i), .val (.int n), .val (.int (Int32.ofNat cs.length)), .val (.int (Int32.ofNat (z + 1))), .val (.int (Int32.ofNat j))] [.int e])
                  refine C.callS [.int e] [] 0 (B.1 _ (List.mem_of_getElem? (i := 140) rfl)) (B.1 _ (List.mem_of_getElem? (i := 141) rfl)) (B.1 _ (List.mem_of_getElem? (i := 89) rfl)) (B.1 _ (List.mem_of_getElem? (i := 142) rfl)) (by decide) pd__28_C_29_Z rfl id (c_jlow B (c := e)) d38_77 rfl rfl rfl (by decide) (by decide) (by decide) (by decide) all0 fun v17 h17 z17 K17 q17 => ?_
                  obtain ⟨rfl, rfl⟩ := q17
                  show C.W h [] 0 0 (mkF K.m 80 #[.val (.ref x), .val (.int i), .val (.int n), .val (.int (Int32.ofNat cs.length)), .val (.int (Int32.ofNat (z + 1))), .val (.int (Int32.ofNat j))] [.int (if 56320 ≤ e.toInt ∧ e.toInt ≤ 57343 then (1 : Int32) else 0)])
                  refine C.ifc_eq 86 d38_80 (by decide) (by decide) (fun q19 => ?_) (fun q19 => ?_)
                  · have hb18 : ¬ (Lo e) := fun e => by rw [if_pos e] at q19; revert q19; decide
                    refine C.iinc (z := (1 : Int32)) #[.val (.ref x), .val (.int i), .val (.int n), .val (.int (Int32.ofNat cs.length)), .val (.int (Int32.ofNat (z + 1))), .val (.int ((Int32.ofNat j) + (1 : Int32)))] d38_86 rfl (by first | rfl | decide) rfl ?_
                    refine C.goto 34 d38_89 (by decide) (by decide) ?_
                    rw [ofNat_succ]
                    have e1 : nx cs z = z + 1 := nx_lo hcc hee hb18
                    exact ih (j + 1) (z + 1) (by omega) (by omega) (by rw [← e1]; exact hr) (fun t ht => by rw [← e1]; exact hlt (t + 1) (by omega))
                  · have hb18 : Lo e := Classical.byContradiction fun e => by rw [if_neg e] at q19; exact q19 rfl
                    refine C.iinc (z := (1 : Int32)) #[.val (.ref x), .val (.int i), .val (.int n), .val (.int (Int32.ofNat cs.length)), .val (.int ((Int32.ofNat (z + 1)) + (1 : Int32))), .val (.int (Int32.ofNat j))] d38_83 rfl (by first | rfl | decide) rfl ?_
                    refine C.iinc (z := (1 : Int32)) #[.val (.ref x), .val (.int i), .val (.int n), .val (.int (Int32.ofNat cs.length)), .val (.int ((Int32.ofNat (z + 1)) + (1 : Int32))), .val (.int ((Int32.ofNat j) + (1 : Int32)))] d38_86 rfl (by first | rfl | decide) rfl ?_
                    refine C.goto 34 d38_89 (by decide) (by decide) ?_
                    rw [ofNat_succ, ofNat_succ]
                    have e1 : nx cs z = z + 2 := nx_yes hcc hee hb13 hb18
                    exact ih (j + 1) (z + 2) (by omega) (by omega) (by rw [← e1]; exact hr) (fun t ht => by rw [← e1]; exact hlt (t + 1) (by omega))
    · exfalso; omega
set_option maxRecDepth 65536 in
set_option maxHeartbeats 40000000 in
theorem c_sobcp  (B : Base Z a0) {h : Heap} {N x o k : Nat} {i n : Int32} {cs : List Int32} (S : Str Z h N x cs) (hi : i.toInt = o) (hn : n.toInt = k) (ho : o ≤ cs.length) (hl : cs.length ≤ 6) (hk : k ≤ 6) (ha : ∀ t, t < k → adv cs t o < cs.length) : Con l Z a0 EL it n0 (⟨"java/lang/String", "offsetByCodePoints", "(II)I"⟩ : MethodName) 7 97 0 0 #[.ref x, .int i, .int n] h [] (fun v h' => ∃ r : Int32, v = some (.int r) ∧ r.toInt = adv cs k o ∧ h = h') := by
  refine Met.con (bytes := jdk_42_method_60_code) (maxL := 3) (ret := (some .int)) (rm := ({ frames := 6, cells := 0, slots := 0, locals := 83 } : Room)) (Met.of (own := "java/lang/String") (nm := "offsetByCodePoints") #[.val (.ref x), .val (.int i), .val (.int n)] (ew B) rfl rfl (plainFor_of_name pn_java_lang_String) (fun m => by first | (simp [entryFrame, mkF, argsToLocals, Value.category]; done) | rfl) fun K C => ?_) (B.1 _ (List.mem_of_getElem? (i := 86) rfl)) (B.1 _ (List.mem_of_getElem? (i := 20) rfl)) rfl rfl rfl rfl
  refine C.aloadN d39_0 rfl rfl ?_
  refine C.iloadN d39_1 rfl ?_
  refine C.iloadN d39_2 rfl ?_
  refine C.callS [.ref x, .int i, .int n] [] 0 (B.1 _ (List.mem_of_getElem? (i := 87) rfl)) (B.1 _ (List.mem_of_getElem? (i := 88) rfl)) (B.1 _ (List.mem_of_getElem? (i := 89) rfl)) (B.1 _ (List.mem_of_getElem? (i := 90) rfl)) (by decide) pd__28_Ljava_2f_lang_2f_CharSequence_3b_II_29_I rfl id (c_obcp B S hi hn ho hl hk ha) d39_3 rfl rfl rfl (by decide) (by decide) (by decide) (by decide) all0 fun v1 h1 z1 K1 q1 => ?_
  obtain ⟨r, rfl, hr, rfl⟩ := q1
  show C.W h [] 0 0 (mkF K.m 6 #[.val (.ref x), .val (.int i), .val (.int n)] [.int r])
  exact C.ireturn (t := .int) rfl (by simp) rfl d39_6 (by decide) (by decide) ⟨r, rfl, hr, rfl⟩
theorem xor15 {a : Nat} (h1 : 32768 ≤ a) (h2 : a < 65536) : a ^^^ 32768 = a - 32768 := by
  apply Nat.eq_of_testBit_eq
  intro i
  obtain ⟨y, rfl⟩ : ∃ y, a = 2 ^ 15 + y := ⟨a - 32768, by omega⟩
  have hy : y < 2 ^ 15 := by omega
  rw [show (32768 : Nat) = 2 ^ 15 by rfl, Nat.add_sub_cancel_left, Nat.testBit_xor, Nat.testBit_two_pow]
  by_cases e : 15 = i
  · subst e
    rw [Nat.testBit_two_pow_add_eq, Nat.testBit_lt_two_pow hy]; rfl
  · simp [e]
    by_cases l : i < 15
    · rw [Nat.testBit_two_pow_add_gt l]
    · have l2 : 2 ^ 16 ≤ 2 ^ i := Nat.pow_le_pow_right (by decide) (by omega)
      rw [Nat.testBit_lt_two_pow (by omega), Nat.testBit_lt_two_pow (by omega)]
theorem xor15i {x : Int32} (h1 : 32768 ≤ x.toInt) (h2 : x.toInt < 65536) : (x ^^^ (32768 : Int32)).toInt = x.toInt - 32768 := by
  have hb := x.toBitVec.isLt
  have e0 : x.toInt = x.toBitVec.toNat := by
    have := BitVec.toInt_eq_toNat_cond x.toBitVec
    have e : x.toInt = x.toBitVec.toInt := rfl
    rw [e] at h1 h2 ⊢
    split at this <;> omega
  have e1 : (x ^^^ (32768 : Int32)).toBitVec.toNat = x.toBitVec.toNat - 32768 := by
    rw [Int32.toBitVec_xor, BitVec.toNat_xor]
    exact xor15 (by omega) (by omega)
  have e2 : (x ^^^ (32768 : Int32)).toInt = (x ^^^ (32768 : Int32)).toBitVec.toInt := rfl
  rw [e2, BitVec.toInt_eq_toNat_cond, if_pos (by omega), e1]
  omega
set_option maxRecDepth 65536 in
set_option maxHeartbeats 40000000 in
theorem c_bmp  (B : Base Z a0) {h : Heap} {x : Int32} (hx : 0 ≤ x.toInt ∧ x.toInt < 65536) : Con l Z a0 EL it n0 (⟨"com/example/axial/axial/DocumentTextQuotePinLaw", "bmp", "(I)C"⟩ : MethodName) 1 12 0 0 #[.int x] h [] (fun v h' => ∃ r : Int32, v = some (.int r) ∧ (0 ≤ r.toInt ∧ r.toInt < 65536) ∧ (¬ Hi r ∧ ¬ Lo r) ∧ h = h') := by
  refine Met.con (bytes := method_4_code) (maxL := 1) (ret := (some .char)) (rm := ({ frames := 0, cells := 0, slots := 0, locals := 0 } : Room)) (Met.of (own := "com/example/axial/axial/DocumentTextQuotePinLaw") (nm := "bmp") #[.val (.int x)] (ew B) rfl rfl (plainFor_of_name pn_com_example_axial_axial_DocumentTextQuotePinLaw) (fun m => by first | (simp [entryFrame, mkF, argsToLocals, Value.category]; done) | rfl) fun K C => ?_) (B.1 _ (List.mem_of_getElem? (i := 10) rfl)) (B.1 _ (List.mem_of_getElem? (i := 3) rfl)) rfl rfl rfl rfl
  have k55296 : (55296 : Int32).toInt = 55296 := by decide
  have k57343 : (57343 : Int32).toInt = 57343 := by decide
  refine C.iloadN d40_0 rfl ?_
  refine C.ldcInt (v := (55296 : Int32)) (B.1 _ (List.mem_of_getElem? (i := 5) rfl)) d40_1 ?_
  refine C.icmp_lt 19 d40_3 (by decide) (by decide) (fun q1 => ?_) (fun q1 => ?_)
  · refine C.iloadN d40_19 rfl ?_
    refine C.i2c d40_20 ?_
    refine C.topI (show x.toUInt32.toUInt16.toUInt32.toInt32 = x by exact i2c_id (by omega) (by omega)) ?_
    exact C.ireturn (t := .char) rfl (by simp) (nchar hx.1 hx.2) d40_21 (by decide) (by decide) ⟨x, rfl, hx, ⟨by unfold Hi; omega, by unfold Lo; omega⟩, rfl⟩
  · refine C.iloadN d40_6 rfl ?_
    refine C.ldcInt (v := (57343 : Int32)) (B.1 _ (List.mem_of_getElem? (i := 222) rfl)) d40_7 ?_
    refine C.icmp_gt 19 d40_9 (by decide) (by decide) (fun q2 => ?_) (fun q2 => ?_)
    · refine C.iloadN d40_19 rfl ?_
      refine C.i2c d40_20 ?_
      refine C.topI (show x.toUInt32.toUInt16.toUInt32.toInt32 = x by exact i2c_id (by omega) (by omega)) ?_
      exact C.ireturn (t := .char) rfl (by simp) (nchar hx.1 hx.2) d40_21 (by decide) (by decide) ⟨x, rfl, hx, ⟨by unfold Hi; omega, by unfold Lo; omega⟩, rfl⟩
    · have e := xor15i (x := x) (by omega) (by omega)
      refine C.iloadN d40_12 rfl ?_
      refine C.ldcInt (v := (32768 : Int32)) (B.1 _ (List.mem_of_getElem? (i := 226) rfl)) d40_13 ?_
      refine C.ixor d40_15 ?_
      refine C.goto 20 d40_16 (by decide) (by decide) ?_
      refine C.i2c d40_20 ?_
      refine C.topI (show (x ^^^ (32768 : Int32)).toUInt32.toUInt16.toUInt32.toInt32 = (x ^^^ (32768 : Int32)) by exact i2c_id (by omega) (by omega)) ?_
      exact C.ireturn (t := .char) rfl (by simp) (nchar (by omega) (by omega)) d40_21 (by decide) (by decide) ⟨_, rfl, by omega, ⟨by unfold Hi; omega, by unfold Lo; omega⟩, rfl⟩
def cnt (f : Int32) : Nat := if f.toInt = 0 then 2 else 1
theorem cnt_z {f : Int32} (h : f.toInt = 0) : cnt f = 2 := if_pos h
theorem cnt_n {f : Int32} (h : ¬ f.toInt = 0) : cnt f = 1 := if_neg h
theorem cnt_b (f : Int32) : 1 ≤ cnt f ∧ cnt f ≤ 2 := by unfold cnt; split <;> omega
def offs (f g e : Int32) (p : Nat) : Nat := if p < cnt f then p else if p - cnt f < cnt g then 2 + (p - cnt f) else if p - cnt f - cnt g < cnt e then 4 + (p - cnt f - cnt g) else 6
set_option maxRecDepth 65536 in
set_option maxHeartbeats 40000000 in
theorem c_count  (B : Base Z a0) {h : Heap} {f : Int32} : Con l Z a0 EL it n0 (⟨"com/example/axial/axial/DocumentTextQuotePinLaw", "count", "(Z)I"⟩ : MethodName) 1 12 0 0 #[.int f] h [] (fun v h' => ∃ r : Int32, v = some (.int r) ∧ r.toInt = cnt f ∧ h = h') := by
  refine Met.con (bytes := method_3_code) (maxL := 1) (ret := (some .int)) (rm := ({ frames := 0, cells := 0, slots := 0, locals := 0 } : Room)) (Met.of (own := "com/example/axial/axial/DocumentTextQuotePinLaw") (nm := "count") #[.val (.int f)] (ew B) rfl rfl (plainFor_of_name pn_com_example_axial_axial_DocumentTextQuotePinLaw) (fun m => by first | (simp [entryFrame, mkF, argsToLocals, Value.category]; done) | rfl) fun K C => ?_) (B.1 _ (List.mem_of_getElem? (i := 13) rfl)) (B.1 _ (List.mem_of_getElem? (i := 3) rfl)) rfl rfl rfl rfl
  refine C.iloadN d41_0 rfl ?_
  refine C.ifc_eq 8 d41_1 (by decide) (by decide) (fun q1 => ?_) (fun q1 => ?_)
  · refine C.iconst (v := (2 : Int32)) d41_8 (by first | rfl | decide) ?_
    exact C.ireturn (t := .int) rfl (by simp) rfl d41_9 (by decide) (by decide) ⟨_, rfl, by rw [cnt_z (by omega)]; decide, rfl⟩
  · refine C.iconst (v := (1 : Int32)) d41_4 (by first | rfl | decide) ?_
    refine C.goto 9 d41_5 (by decide) (by decide) ?_
    exact C.ireturn (t := .int) rfl (by simp) rfl d41_9 (by decide) (by decide) ⟨_, rfl, by rw [cnt_n (by omega)]; decide, rfl⟩
def Pr (f c e : Int32) : Prop := (0 ≤ c.toInt ∧ c.toInt < 65536) ∧ (0 ≤ e.toInt ∧ e.toInt < 65536) ∧ (¬ f.toInt = 0 → Hi c ∧ Lo e) ∧ (f.toInt = 0 → (¬ Hi c ∧ ¬ Lo c) ∧ ¬ Hi e ∧ ¬ Lo e)
theorem or10 {a x : Int32} {k : Int} (ha : a.toInt = k) (h0 : 0 ≤ k) (h1 : k < 65536) (h2 : k % 1024 = 0) : (a ||| (x &&& (1023 : Int32))).toInt = k + (x &&& (1023 : Int32)).toInt ∧ 0 ≤ (x &&& (1023 : Int32)).toInt ∧ (x &&& (1023 : Int32)).toInt < 1024 := by
  have b := c_and x 1023 (by decide)
  have k1 : (1023 : Int32).toInt = 1023 := by decide
  have q := c_or a (x &&& 1023) 10 (by decide) 1024 (by decide) (by rw [ha]; exact h2) b.1 (by omega)
  have q1 := Int32.le_toInt (a ||| (x &&& 1023))
  have q2 := Int32.toInt_lt (a ||| (x &&& 1023))
  omega
set_option maxRecDepth 65536 in
set_option maxHeartbeats 40000000 in
theorem c_fill  (B : Base Z a0) {h : Heap} {b o : Nat} {i x f : Int32} {cs : List Int32} (Ab : Ary Z h b .char (cs.map Value.int)) (hi : i.toInt = o) (ho : o + 1 < cs.length) (hl : cs.length ≤ 6) : Con l Z a0 EL it n0 (⟨"com/example/axial/axial/DocumentTextQuotePinLaw", "fill", "([CIIZ)V"⟩ : MethodName) 2 29 0 0 #[.ref b, .int i, .int x, .int f] h [b] (fun v h' => v = none ∧ ∃ c e : Int32, Pr f c e ∧ Ary Z h' b .char (((cs.set o c).set (o + 1) e).map Value.int)) := by
  refine Met.con (bytes := method_5_code) (maxL := 4) (ret := none) (rm := ({ frames := 1, cells := 0, slots := 0, locals := 14 } : Room)) (Met.of (own := "com/example/axial/axial/DocumentTextQuotePinLaw") (nm := "fill") #[.val (.ref b), .val (.int i), .val (.int x), .val (.int f)] (ew B) rfl rfl (plainFor_of_name pn_com_example_axial_axial_DocumentTextQuotePinLaw) (fun m => by first | (simp [entryFrame, mkF, argsToLocals, Value.category]; done) | rfl) fun K C => ?_) (B.1 _ (List.mem_of_getElem? (i := 4) rfl)) (B.1 _ (List.mem_of_getElem? (i := 3) rfl)) rfl rfl rfl rfl
  have k1 : (1 : Int32).toInt = 1 := rfl
  have ei : (i + (1 : Int32)).toInt = (o + 1 : Nat) := by rw [add_int (by omega) (by omega)]; omega
  refine C.iloadN d42_0 rfl ?_
  refine C.ifc_eq 36 d42_1 (by decide) (by decide) (fun q1 => ?_) (fun q1 => ?_)
  · have x1 := c_and x 65535 (by decide)
    have k5 : (65535 : Int32).toInt = 65535 := by decide
    have x2 := c_iushr x 16 16 (by decide) (by decide)
    have k6 : ((2 ^ 16 : Nat) : Int) = 65536 := by decide
    rw [k6] at x2
    have xb := Int32.le_toInt x
    have xc := Int32.toInt_lt x
    refine C.aloadN d42_36 rfl rfl ?_
    refine C.iloadN d42_37 rfl ?_
    refine C.iloadN d42_38 rfl ?_
    refine C.ldcInt (v := (65535 : Int32)) (B.1 _ (List.mem_of_getElem? (i := 7) rfl)) d42_39 ?_
    refine C.iand d42_41 ?_
    refine C.callS [.int (x &&& (65535 : Int32))] [.int i, .ref b] 2 (B.1 _ (List.mem_of_getElem? (i := 8) rfl)) (B.1 _ (List.mem_of_getElem? (i := 9) rfl)) (B.1 _ (List.mem_of_getElem? (i := 3) rfl)) (B.1 _ (List.mem_of_getElem? (i := 10) rfl)) (by decide) pd__28_I_29_C rfl id (c_bmp B (by omega)) d42_42 rfl rfl rfl (by decide) (by decide) (by decide) (by decide) all0 fun v2 h2 z2 K2 q2 => ?_
    obtain ⟨c, rfl, hc, nc, rfl⟩ := q2
    show C.W h [b] 0 0 (mkF K.m 45 #[.val (.ref b), .val (.int i), .val (.int x), .val (.int f)] [.int c, .int i, .ref b])
    refine C.castore o Ab hi (by rw [List.length_map]; omega) hc.1 hc.2 d42_45 (List.mem_of_getElem? (i := 0) rfl) fun h3 z3 K3 Aw3 => ?_
    show C.W h3 [b] 0 0 (mkF K.m 46 #[.val (.ref b), .val (.int i), .val (.int x), .val (.int f)] [])
    rw [← List.map_set] at Aw3
    refine C.aloadN d42_46 rfl rfl ?_
    refine C.iloadN d42_47 rfl ?_
    refine C.iconst (v := (1 : Int32)) d42_48 (by first | rfl | decide) ?_
    refine C.iadd d42_49 ?_
    refine C.iloadN d42_50 rfl ?_
    refine C.bipush (v := (16 : Int32)) d42_51 (by first | rfl | decide) ?_
    refine C.iushr d42_53 ?_
    refine C.callS [.int (x.toUInt32 >>> ((16 : Int32) &&& 31).toUInt32).toInt32] [.int (i + (1 : Int32)), .ref b] 2 (B.1 _ (List.mem_of_getElem? (i := 8) rfl)) (B.1 _ (List.mem_of_getElem? (i := 9) rfl)) (B.1 _ (List.mem_of_getElem? (i := 3) rfl)) (B.1 _ (List.mem_of_getElem? (i := 10) rfl)) (by decide) pd__28_I_29_C rfl id (c_bmp B (by omega)) d42_54 rfl rfl rfl (by decide) (by decide) (by decide) (by decide) all0 fun v4 h4 z4 K4 q4 => ?_
    obtain ⟨e, rfl, he, ne, rfl⟩ := q4
    show C.W h3 [b] 0 0 (mkF K.m 57 #[.val (.ref b), .val (.int i), .val (.int x), .val (.int f)] [.int e, .int (i + (1 : Int32)), .ref b])
    refine C.castore (o + 1) Aw3 ei (by rw [List.length_map, List.length_set]; omega) he.1 he.2 d42_57 (List.mem_of_getElem? (i := 0) rfl) fun h5 z5 K5 Aw5 => ?_
    show C.W h5 [b] 0 0 (mkF K.m 58 #[.val (.ref b), .val (.int i), .val (.int x), .val (.int f)] [])
    rw [← List.map_set] at Aw5
    exact C.return_ rfl d42_58 (by decide) (by decide) ⟨rfl, c, e, ⟨hc, he, fun q => absurd (by omega) q, fun _ => ⟨nc, ne⟩⟩, Aw5⟩
  · refine C.aloadN d42_4 rfl rfl ?_
    refine C.iloadN d42_5 rfl ?_
    refine C.ldcInt (v := (55296 : Int32)) (B.1 _ (List.mem_of_getElem? (i := 5) rfl)) d42_6 ?_
    refine C.iloadN d42_8 rfl ?_
    refine C.bipush (v := (10 : Int32)) d42_9 (by first | rfl | decide) ?_
    refine C.iushr d42_11 ?_
    refine C.sipush (v := (1023 : Int32)) d42_12 (by first | rfl | decide) ?_
    refine C.iand d42_15 ?_
    refine C.ior d42_16 ?_
    refine C.i2c d42_17 ?_
    have o1 := or10 (a := 55296) (x := (x.toUInt32 >>> ((10 : Int32) &&& 31).toUInt32).toInt32) (k := 55296) (by decide) (by decide) (by decide) (by decide)
    have o2 := or10 (a := 56320) (x := x) (k := 56320) (by decide) (by decide) (by decide) (by decide)
    obtain ⟨c, e_c⟩ : ∃ z, ((55296 : Int32) ||| ((x.toUInt32 >>> ((10 : Int32) &&& 31).toUInt32).toInt32 &&& (1023 : Int32))).toUInt32.toUInt16.toUInt32.toInt32 = z := ⟨_, rfl⟩
    refine C.topI e_c ?_
    have hc : 55296 ≤ c.toInt ∧ c.toInt ≤ 56319 := by rw [← e_c, i2c_id (by omega) (by omega)]; omega
    refine C.castore o Ab hi (by rw [List.length_map]; omega) (by omega) (by omega) d42_18 (List.mem_of_getElem? (i := 0) rfl) fun h6 z6 K6 Aw6 => ?_
    show C.W h6 [b] 0 0 (mkF K.m 19 #[.val (.ref b), .val (.int i), .val (.int x), .val (.int f)] [])
    rw [← List.map_set] at Aw6
    refine C.aloadN d42_19 rfl rfl ?_
    refine C.iloadN d42_20 rfl ?_
    refine C.iconst (v := (1 : Int32)) d42_21 (by first | rfl | decide) ?_
    refine C.iadd d42_22 ?_
    refine C.ldcInt (v := (56320 : Int32)) (B.1 _ (List.mem_of_getElem? (i := 6) rfl)) d42_23 ?_
    refine C.iloadN d42_25 rfl ?_
    refine C.sipush (v := (1023 : Int32)) d42_26 (by first | rfl | decide) ?_
    refine C.iand d42_29 ?_
    refine C.ior d42_30 ?_
    refine C.i2c d42_31 ?_
    obtain ⟨e, e_e⟩ : ∃ z, ((56320 : Int32) ||| (x &&& (1023 : Int32))).toUInt32.toUInt16.toUInt32.toInt32 = z := ⟨_, rfl⟩
    refine C.topI e_e ?_
    have he : 56320 ≤ e.toInt ∧ e.toInt ≤ 57343 := by rw [← e_e, i2c_id (by omega) (by omega)]; omega
    refine C.castore (o + 1) Aw6 ei (by rw [List.length_map, List.length_set]; omega) (by omega) (by omega) d42_32 (List.mem_of_getElem? (i := 0) rfl) fun h7 z7 K7 Aw7 => ?_
    show C.W h7 [b] 0 0 (mkF K.m 33 #[.val (.ref b), .val (.int i), .val (.int x), .val (.int f)] [])
    rw [← List.map_set] at Aw7
    refine C.goto 58 d42_33 (by decide) (by decide) ?_
    exact C.return_ rfl d42_58 (by decide) (by decide) ⟨rfl, c, e, ⟨by omega, by omega, fun _ => ⟨by unfold Hi; omega, by unfold Lo; omega⟩, fun q => by omega⟩, Aw7⟩
theorem blk {cs : List Int32} {x : Nat} {f c e : Int32} (P : Pr f c e) (q1 : cs[x]? = some c) (q2 : cs[x + 1]? = some e) (k : Nat) : adv cs k x = if k < cnt f then x + k else adv cs (k - cnt f) (x + 2) := by
  obtain ⟨-, -, p1, p2⟩ := P
  by_cases hf : f.toInt = 0
  · obtain ⟨⟨n1, -⟩, n2, -⟩ := p2 hf
    rw [cnt_z hf]
    match k with
    | 0 => rfl
    | 1 => rw [if_pos (by decide)]; exact nx_hi q1 n1
    | k + 2 =>
      rw [if_neg (by omega)]
      show adv cs k (nx cs (nx cs x)) = adv cs (k + 2 - 2) (x + 2)
      rw [nx_hi q1 n1, nx_hi q2 n2]; rfl
  · obtain ⟨n1, n2⟩ := p1 hf
    rw [cnt_n hf]
    match k with
    | 0 => rfl
    | k + 1 =>
      rw [if_neg (by omega)]
      show adv cs k (nx cs x) = adv cs (k + 1 - 1) (x + 2)
      rw [nx_yes q1 q2 n1 n2]; rfl
theorem adv_offs {f g e u0 u1 u2 u3 u4 u5 : Int32} (P0 : Pr f u0 u1) (P1 : Pr g u2 u3) (P2 : Pr e u4 u5) {k : Nat} (hk : k ≤ cnt f + cnt g + cnt e) : adv [u0, u1, u2, u3, u4, u5] k 0 = offs f g e k := by
  rw [blk P0 rfl rfl, blk P1 rfl rfl, blk P2 rfl rfl]
  unfold offs
  by_cases a1 : k < cnt f
  · rw [if_pos a1, if_pos a1]; omega
  rw [if_neg a1, if_neg a1]
  by_cases a2 : k - cnt f < cnt g
  · rw [if_pos a2, if_pos a2]
  rw [if_neg a2, if_neg a2]
  by_cases a3 : k - cnt f - cnt g < cnt e
  · rw [if_pos a3, if_pos a3]
  rw [if_neg a3, if_neg a3, show k - cnt f - cnt g - cnt e = 0 by omega]; rfl
theorem offs_lt {f g e : Int32} {k : Nat} (hk : k < cnt f + cnt g + cnt e) : offs f g e k < 6 := by
  have b0 := cnt_b f
  have b1 := cnt_b g
  have b2 := cnt_b e
  unfold offs
  repeat' split
  all_goals omega
theorem offs_le {f g e : Int32} {j k : Nat} (hk : j ≤ k) : offs f g e j ≤ offs f g e k ∧ offs f g e k ≤ 6 := by
  have b0 := cnt_b f
  have b1 := cnt_b g
  have b2 := cnt_b e
  unfold offs
  repeat' split
  all_goals omega
set_option maxRecDepth 65536 in
set_option maxHeartbeats 40000000 in
theorem c_off  (B : Base Z a0) {h : Heap} {k : Nat} {p f g e : Int32} (hp : p.toInt = k) (hk : k ≤ 6) : Con l Z a0 EL it n0 (⟨"com/example/axial/axial/DocumentTextQuotePinLaw", "off", "(IZZZ)I"⟩ : MethodName) 2 30 0 0 #[.int p, .int f, .int g, .int e] h [] (fun v h' => ∃ r : Int32, v = some (.int r) ∧ r.toInt = offs f g e k ∧ h = h') := by
  refine Met.con (bytes := method_6_code) (maxL := 7) (ret := (some .int)) (rm := ({ frames := 1, cells := 0, slots := 0, locals := 12 } : Room)) (Met.of (own := "com/example/axial/axial/DocumentTextQuotePinLaw") (nm := "off") #[.val (.int p), .val (.int f), .val (.int g), .val (.int e), .unset, .unset, .unset] (ew B) rfl rfl (plainFor_of_name pn_com_example_axial_axial_DocumentTextQuotePinLaw) (fun m => by first | (simp [entryFrame, mkF, argsToLocals, Value.category]; done) | rfl) fun K C => ?_) (B.1 _ (List.mem_of_getElem? (i := 202) rfl)) (B.1 _ (List.mem_of_getElem? (i := 3) rfl)) rfl rfl rfl rfl
  have b0 := cnt_b f
  have b1 := cnt_b g
  have b2 := cnt_b e
  have k2 : (2 : Int32).toInt = 2 := by decide
  have k4 : (4 : Int32).toInt = 4 := by decide
  refine C.iloadN d43_0 rfl ?_
  refine C.callS [.int f] [] 0 (B.1 _ (List.mem_of_getElem? (i := 11) rfl)) (B.1 _ (List.mem_of_getElem? (i := 12) rfl)) (B.1 _ (List.mem_of_getElem? (i := 3) rfl)) (B.1 _ (List.mem_of_getElem? (i := 13) rfl)) (by decide) pd__28_Z_29_I rfl id (c_count B (f := f)) d43_1 rfl rfl rfl (by decide) (by decide) (by decide) (by decide) all0 fun v1 h1 z1 K1 q1 => ?_
  obtain ⟨x0, rfl, ex0, rfl⟩ := q1
  show C.W h [] 0 0 (mkF K.m 4 #[.val (.int p), .val (.int f), .val (.int g), .val (.int e), .unset, .unset, .unset] [.int x0])
  refine C.istore #[.val (.int p), .val (.int f), .val (.int g), .val (.int e), .val (.int x0), .unset, .unset] d43_4 rfl ?_
  refine C.iloadN d43_6 rfl ?_
  refine C.iload d43_7 rfl ?_
  refine C.icmp_ge 14 d43_9 (by decide) (by decide) (fun q2 => ?_) (fun q2 => ?_)
  · refine C.iloadN d43_14 rfl ?_
    refine C.iload d43_15 rfl ?_
    refine C.isub d43_17 ?_
    obtain ⟨p2, e_p2⟩ : ∃ z, (p - x0) = z := ⟨_, rfl⟩
    refine C.topI e_p2 ?_
    have hp2 : p2.toInt = (k - cnt f : Nat) := by rw [← e_p2, sub_int (by omega) (by omega)]; omega
    refine C.istoreN #[.val (.int p2), .val (.int f), .val (.int g), .val (.int e), .val (.int x0), .unset, .unset] d43_18 rfl ?_
    refine C.iloadN d43_19 rfl ?_
    refine C.callS [.int g] [] 0 (B.1 _ (List.mem_of_getElem? (i := 11) rfl)) (B.1 _ (List.mem_of_getElem? (i := 12) rfl)) (B.1 _ (List.mem_of_getElem? (i := 3) rfl)) (B.1 _ (List.mem_of_getElem? (i := 13) rfl)) (by decide) pd__28_Z_29_I rfl id (c_count B (f := g)) d43_20 rfl rfl rfl (by decide) (by decide) (by decide) (by decide) all0 fun v3 h3 z3 K3 q3 => ?_
    obtain ⟨x1, rfl, ex1, rfl⟩ := q3
    show C.W h [] 0 0 (mkF K.m 23 #[.val (.int p2), .val (.int f), .val (.int g), .val (.int e), .val (.int x0), .unset, .unset] [.int x1])
    refine C.istore #[.val (.int p2), .val (.int f), .val (.int g), .val (.int e), .val (.int x0), .val (.int x1), .unset] d43_23 rfl ?_
    refine C.iloadN d43_25 rfl ?_
    refine C.iload d43_26 rfl ?_
    refine C.icmp_ge 35 d43_28 (by decide) (by decide) (fun q4 => ?_) (fun q4 => ?_)
    · refine C.iloadN d43_35 rfl ?_
      refine C.iload d43_36 rfl ?_
      refine C.isub d43_38 ?_
      obtain ⟨p3, e_p3⟩ : ∃ z, (p2 - x1) = z := ⟨_, rfl⟩
      refine C.topI e_p3 ?_
      have hp3 : p3.toInt = (k - cnt f - cnt g : Nat) := by rw [← e_p3, sub_int (by omega) (by omega)]; omega
      refine C.istoreN #[.val (.int p3), .val (.int f), .val (.int g), .val (.int e), .val (.int x0), .val (.int x1), .unset] d43_39 rfl ?_
      refine C.iloadN d43_40 rfl ?_
      refine C.callS [.int e] [] 0 (B.1 _ (List.mem_of_getElem? (i := 11) rfl)) (B.1 _ (List.mem_of_getElem? (i := 12) rfl)) (B.1 _ (List.mem_of_getElem? (i := 3) rfl)) (B.1 _ (List.mem_of_getElem? (i := 13) rfl)) (by decide) pd__28_Z_29_I rfl id (c_count B (f := e)) d43_41 rfl rfl rfl (by decide) (by decide) (by decide) (by decide) all0 fun v5 h5 z5 K5 q5 => ?_
      obtain ⟨x2, rfl, ex2, rfl⟩ := q5
      show C.W h [] 0 0 (mkF K.m 44 #[.val (.int p3), .val (.int f), .val (.int g), .val (.int e), .val (.int x0), .val (.int x1), .unset] [.int x2])
      refine C.istore #[.val (.int p3), .val (.int f), .val (.int g), .val (.int e), .val (.int x0), .val (.int x1), .val (.int x2)] d43_44 rfl ?_
      refine C.iloadN d43_46 rfl ?_
      refine C.iload d43_47 rfl ?_
      refine C.icmp_ge 56 d43_49 (by decide) (by decide) (fun q6 => ?_) (fun q6 => ?_)
      · refine C.bipush (v := (6 : Int32)) d43_56 (by first | rfl | decide) ?_
        exact C.ireturn (t := .int) rfl (by simp) rfl d43_58 (by decide) (by decide) ⟨_, rfl, by unfold offs; rw [if_neg (by omega), if_neg (by omega), if_neg (by omega)]; decide, rfl⟩
      · refine C.iconst (v := (4 : Int32)) d43_52 (by first | rfl | decide) ?_
        refine C.iloadN d43_53 rfl ?_
        refine C.iadd d43_54 ?_
        exact C.ireturn (t := .int) rfl (by simp) rfl d43_55 (by decide) (by decide) ⟨_, rfl, by unfold offs; rw [if_neg (by omega), if_neg (by omega), if_pos (by omega), add_int (by omega) (by omega)]; omega, rfl⟩
    · refine C.iconst (v := (2 : Int32)) d43_31 (by first | rfl | decide) ?_
      refine C.iloadN d43_32 rfl ?_
      refine C.iadd d43_33 ?_
      exact C.ireturn (t := .int) rfl (by simp) rfl d43_34 (by decide) (by decide) ⟨_, rfl, by unfold offs; rw [if_neg (by omega), if_pos (by omega), add_int (by omega) (by omega)]; omega, rfl⟩
  · refine C.iloadN d43_12 rfl ?_
    exact C.ireturn (t := .int) rfl (by simp) rfl d43_13 (by decide) (by decide) ⟨_, rfl, by unfold offs; rw [if_pos (by omega)]; omega, rfl⟩
set_option maxRecDepth 65536 in
set_option maxHeartbeats 40000000 in
theorem c_at  (B : Base Z a0) {h : Heap} {N y b o k : Nat} {s j : Int32} {ds cs : List Int32} (S : Str Z h N y ds) (Ab : Ary Z h b .char (cs.map Value.int)) (hs : s.toInt = o) (hj : j.toInt = k) (hd : ∀ t, t < ds.length → ds[t]? = cs[o + t]?) (hl : ds.length ≤ 6) (ho : o ≤ 6) : Con l Z a0 EL it n0 (⟨"com/example/axial/axial/DocumentTextQuotePinLaw", "at", "(Ljava/lang/String;[CII)Z"⟩ : MethodName) 6 81 0 0 #[.ref y, .ref b, .int s, .int j] h [] (fun v h' => v = some (.int 1) ∧ h = h') := by
  refine Met.con (bytes := method_7_code) (maxL := 4) (ret := (some .boolean)) (rm := ({ frames := 5, cells := 0, slots := 0, locals := 66 } : Room)) (Met.of (own := "com/example/axial/axial/DocumentTextQuotePinLaw") (nm := "at") #[.val (.ref y), .val (.ref b), .val (.int s), .val (.int j)] (ew B) rfl rfl (plainFor_of_name pn_com_example_axial_axial_DocumentTextQuotePinLaw) (fun m => by first | (simp [entryFrame, mkF, argsToLocals, Value.category]; done) | rfl) fun K C => ?_) (B.1 _ (List.mem_of_getElem? (i := 206) rfl)) (B.1 _ (List.mem_of_getElem? (i := 3) rfl)) rfl rfl rfl rfl
  have Ex := S.exa
  have en : (Int32.ofNat ds.length).toInt = ds.length := ofNat_int (by omega)
  refine C.iloadN d44_0 rfl ?_
  refine C.aloadN d44_1 rfl rfl ?_
  refine C.callV y [] [.int j] 1 (B.1 _ (List.mem_of_getElem? (i := 203) rfl)) (B.1 _ (List.mem_of_getElem? (i := 150) rfl)) (B.1 _ (List.mem_of_getElem? (i := 151) rfl)) (B.1 _ (List.mem_of_getElem? (i := 95) rfl)) (by decide) rfl Ex pd__28__29_I rfl id (c_length B S) d44_2 rfl rfl rfl (by decide) (by decide) (by decide) (by decide) all0 fun v1 h1 z1 K1 q1 => ?_
  obtain ⟨rfl, rfl⟩ := q1
  show C.W h [] 0 0 (mkF K.m 5 #[.val (.ref y), .val (.ref b), .val (.int s), .val (.int j)] [.int (Int32.ofNat ds.length), .int j])
  refine C.icmp_ge 21 d44_5 (by decide) (by decide) (fun q2 => ?_) (fun q2 => ?_)
  · refine C.iconst (v := (1 : Int32)) d44_21 (by first | rfl | decide) ?_
    refine C.goto 26 d44_22 (by decide) (by decide) ?_
    exact C.ireturn (t := .boolean) rfl (by simp) rfl d44_26 (by decide) (by decide) ⟨rfl, rfl⟩
  · obtain ⟨c, hc⟩ : ∃ c, ds[k]? = some c := ⟨_, List.getElem?_eq_getElem (by omega)⟩
    have hcs : cs[o + k]? = some c := by rw [← hd k (by omega)]; exact hc
    have es : (s + j).toInt = (o + k : Nat) := by rw [add_int (by omega) (by omega)]; omega
    refine C.aloadN d44_8 rfl rfl ?_
    refine C.iloadN d44_9 rfl ?_
    refine C.callV y [.int j] [] 0 (B.1 _ (List.mem_of_getElem? (i := 207) rfl)) (B.1 _ (List.mem_of_getElem? (i := 208) rfl)) (B.1 _ (List.mem_of_getElem? (i := 209) rfl)) (B.1 _ (List.mem_of_getElem? (i := 109) rfl)) (by decide) rfl Ex pd__28_I_29_C rfl id (c_charAt B S hj hc) d44_10 rfl rfl rfl (by decide) (by decide) (by decide) (by decide) all0 fun v3 h3 z3 K3 q3 => ?_
    obtain ⟨rfl, rfl⟩ := q3
    show C.W h [] 0 0 (mkF K.m 13 #[.val (.ref y), .val (.ref b), .val (.int s), .val (.int j)] [.int c])
    refine C.aloadN d44_13 rfl rfl ?_
    refine C.iloadN d44_14 rfl ?_
    refine C.iloadN d44_15 rfl ?_
    refine C.iadd d44_16 ?_
    refine C.caload (x := c) (o + k) Ab es (by rw [List.getElem?_map, hcs]; rfl) d44_17 ?_
    refine C.icmp_ne 25 d44_18 (by decide) (by decide) (fun q4 => ?_) (fun q4 => ?_)
    · exfalso; exact q4 rfl
    · refine C.iconst (v := (1 : Int32)) d44_21 (by first | rfl | decide) ?_
      refine C.goto 26 d44_22 (by decide) (by decide) ?_
      exact C.ireturn (t := .boolean) rfl (by simp) rfl d44_26 (by decide) (by decide) ⟨rfl, rfl⟩
set_option maxRecDepth 65536 in
set_option maxHeartbeats 40000000 in
theorem c_dinit  (B : Base Z a0) {h : Heap} {a x : Nat} (Ea : Exa Z h a "com/example/axial/axial/DocumentText") (F0 : Fld Z h a "com/example/axial/axial/DocumentText" "text" "Ljava/lang/String;" .null) : Con l Z a0 EL it n0 (⟨"com/example/axial/axial/DocumentText", "<init>", "(Ljava/lang/String;)V"⟩ : MethodName) 3 37 0 0 #[.ref a, .ref x] h [a] (fun v h' => v = none ∧ Exa Z h' a "com/example/axial/axial/DocumentText" ∧ Fld Z h' a "com/example/axial/axial/DocumentText" "text" "Ljava/lang/String;" (.ref x)) := by
  refine Met.con (bytes := prog_2_method_1_code) (maxL := 2) (ret := none) (rm := ({ frames := 2, cells := 0, slots := 0, locals := 24 } : Room)) (Met.of (own := "com/example/axial/axial/DocumentText") (nm := "<init>") #[.val (.ref a), .val (.ref x)] (ew B) rfl rfl (plainFor_of_name pn_com_example_axial_axial_DocumentText) (fun m => by first | (simp [entryFrame, mkF, argsToLocals, Value.category]; done) | rfl) fun K C => ?_) (B.1 _ (List.mem_of_getElem? (i := 68) rfl)) (B.1 _ (List.mem_of_getElem? (i := 17) rfl)) rfl rfl rfl rfl
  refine C.aloadN d45_0 rfl rfl ?_
  refine C.callN a [] [] 0 (B.1 _ (List.mem_of_getElem? (i := 69) rfl)) (B.1 _ (List.mem_of_getElem? (i := 70) rfl)) (B.1 _ (List.mem_of_getElem? (i := 73) rfl)) rfl (by decide) pd__28__29_V rfl id (c_recinit B) d45_1 rfl rfl rfl (by decide) (by decide) (by decide) (by decide) all0 fun v1 h1 z1 K1 q1 => ?_
  obtain ⟨rfl, rfl⟩ := q1
  show C.W h [a] 0 0 (mkF K.m 4 #[.val (.ref a), .val (.ref x)] [])
  refine C.aloadN d45_4 rfl rfl ?_
  refine C.aloadN d45_5 rfl rfl ?_
  refine C.putF (host := "") (Or.inl (B.1 _ (List.mem_of_getElem? (i := 75) rfl))) Via.refl F0 Ea (Or.inr ⟨(B.1 _ (List.mem_of_getElem? (i := 76) rfl)), rfl, rfl⟩) (B.1 _ (List.mem_of_getElem? (i := 16) rfl)) (ty := (.object "java/lang/String")) (by decide) rfl rfl d45_6 (List.mem_of_getElem? (i := 0) rfl) fun h2 z2 K2 Ew2 Fw2 Gw2 => ?_
  show C.W h2 [a] 0 0 (mkF K.m 9 #[.val (.ref a), .val (.ref x)] [])
  exact C.return_ rfl d45_9 (by decide) (by decide) ⟨rfl, Ew2, Fw2⟩
set_option maxRecDepth 65536 in
set_option maxHeartbeats 40000000 in
theorem c_quote  (B : Base Z a0) (hit : it) {h : Heap} {N a x k m o n : Nat} {i j : Int32} {cs : List Int32} (F2 : Fld Z h a "com/example/axial/axial/DocumentText" "text" "Ljava/lang/String;" (.ref x)) (S : Str Z h N x cs) (hl : cs.length ≤ 6) (hi : i.toInt = k) (hj : j.toInt = (k + m : Nat)) (hk : k + m ≤ 6) (e1 : adv cs k 0 = o) (e2 : adv cs (k + m) 0 = o + n) (hon : o + n ≤ cs.length) (ha : ∀ t, t < k + m → adv cs t 0 < cs.length) : Con l Z a0 EL it n0 (⟨"com/example/axial/axial/DocumentText", "quote", "(II)Ljava/lang/String;"⟩ : MethodName) 8 134 3 22 #[.ref a, .int i, .int j] h [] (fun v h' => ∃ y : Nat, v = some (.ref y) ∧ Str Z h' h'.size y ((cs.drop o).take n)) := by
  refine Met.con (bytes := prog_2_method_5_code) (maxL := 4) (ret := (some (.object "java/lang/String"))) (rm := ({ frames := 7, cells := 3, slots := 22, locals := 119 } : Room)) (Met.of (own := "com/example/axial/axial/DocumentText") (nm := "quote") #[.val (.ref a), .val (.int i), .val (.int j), .unset] (ew B) rfl rfl (plainFor_of_name pn_com_example_axial_axial_DocumentText) (fun m => by first | (simp [entryFrame, mkF, argsToLocals, Value.category]; done) | rfl) fun K C => ?_) (B.1 _ (List.mem_of_getElem? (i := 81) rfl)) (B.1 _ (List.mem_of_getElem? (i := 17) rfl)) rfl rfl rfl rfl
  have Ex := S.exa
  have es : (j - i).toInt = m := by rw [sub_int (by omega) (by omega)]; omega
  refine C.aloadN d46_0 rfl rfl ?_
  refine C.getF (host := "") (Or.inl (B.1 _ (List.mem_of_getElem? (i := 75) rfl))) Via.refl F2 d46_1 ?_
  refine C.iconst (v := (0 : Int32)) d46_4 (by first | rfl | decide) ?_
  refine C.iloadN d46_5 rfl ?_
  refine C.callV x [.int (0 : Int32), .int i] [] 0 (B.1 _ (List.mem_of_getElem? (i := 82) rfl)) (B.1 _ (List.mem_of_getElem? (i := 83) rfl)) (B.1 _ (List.mem_of_getElem? (i := 85) rfl)) (B.1 _ (List.mem_of_getElem? (i := 84) rfl)) (by decide) rfl Ex pd__28_II_29_I rfl id (c_sobcp B S (o := 0) rfl hi (Nat.zero_le _) hl (by omega) (fun t ht => ha t (by omega))) d46_6 rfl rfl rfl (by decide) (by decide) (by decide) (by decide) all0 fun v1 h1 z1 K1 q1 => ?_
  obtain ⟨r, rfl, hr, rfl⟩ := q1
  show C.W h [] 0 0 (mkF K.m 9 #[.val (.ref a), .val (.int i), .val (.int j), .unset] [.int r])
  rw [e1] at hr
  refine C.istoreN #[.val (.ref a), .val (.int i), .val (.int j), .val (.int r)] d46_9 rfl ?_
  refine C.aloadN d46_10 rfl rfl ?_
  refine C.getF (host := "") (Or.inl (B.1 _ (List.mem_of_getElem? (i := 75) rfl))) Via.refl F2 d46_11 ?_
  refine C.iloadN d46_14 rfl ?_
  refine C.aloadN d46_15 rfl rfl ?_
  refine C.getF (host := "") (Or.inl (B.1 _ (List.mem_of_getElem? (i := 75) rfl))) Via.refl F2 d46_16 ?_
  refine C.iloadN d46_19 rfl ?_
  refine C.iloadN d46_20 rfl ?_
  refine C.iloadN d46_21 rfl ?_
  refine C.isub d46_22 ?_
  refine C.callV x [.int r, .int (j - i)] [.int r, .ref x] 2 (B.1 _ (List.mem_of_getElem? (i := 82) rfl)) (B.1 _ (List.mem_of_getElem? (i := 83) rfl)) (B.1 _ (List.mem_of_getElem? (i := 85) rfl)) (B.1 _ (List.mem_of_getElem? (i := 84) rfl)) (by decide) rfl Ex pd__28_II_29_I rfl id (c_sobcp B S hr es (by omega) hl (by omega) (fun t ht => by rw [← e1, ← adv_add]; exact ha _ (by omega))) d46_23 rfl rfl rfl (by decide) (by decide) (by decide) (by decide) all0 fun v2 h2 z2 K2 q2 => ?_
  obtain ⟨r2, rfl, hr2, rfl⟩ := q2
  show C.W h [] 0 0 (mkF K.m 26 #[.val (.ref a), .val (.int i), .val (.int j), .val (.int r)] [.int r2, .int r, .ref x])
  rw [← e1, ← adv_add, e2] at hr2
  refine C.callV x [.int r, .int r2] [] 0 (B.1 _ (List.mem_of_getElem? (i := 144) rfl)) (B.1 _ (List.mem_of_getElem? (i := 145) rfl)) (B.1 _ (List.mem_of_getElem? (i := 147) rfl)) (B.1 _ (List.mem_of_getElem? (i := 146) rfl)) (by decide) rfl Ex pd__28_II_29_Ljava_2f_lang_2f_String_3b_ rfl id (c_sub B hit S hr hr2 hon hl) d46_26 rfl rfl rfl (by decide) (by decide) (by decide) (by decide) all0 fun v3 h3 z3 K3 q3 => ?_
  obtain ⟨y, rfl, Sy⟩ := q3
  show C.W h3 [] 3 22 (mkF K.m 29 #[.val (.ref a), .val (.int i), .val (.int j), .val (.int r)] [.ref y])
  exact C.areturn rfl rfl rfl d46_29 (by decide) (by decide) ⟨y, rfl, Sy⟩
set_option maxRecDepth 65536 in
set_option maxHeartbeats 40000000 in
theorem m_law  (B : Base Z a0) {p0 p1 p2 p3 p4 p5 : Int32} {h : Heap} : Met l Z EL True n0 x code maxLocals Jvm.Pilot.@@N@@.ret room_1 tables_1 #[.int p0, .int p1, .int p2, .int p3, .int p4, .int p5] h [] (fun v h' => v = some (.int 1)) := by
  refine Met.of (own := "com/example/axial/axial/DocumentTextQuotePinLaw") (nm := "law") #[.val (.int p0), .val (.int p1), .val (.int p2), .val (.int p3), .val (.int p4), .val (.int p5), .unset, .unset, .unset, .unset, .unset, .unset, .unset, .unset, .unset, .unset] (ew B) rfl rfl (plainFor_of_name pn_com_example_axial_axial_DocumentTextQuotePinLaw) (fun m => by first | (simp [entryFrame, mkF, argsToLocals, Value.category, maxLocals]; done) | rfl) fun K C => ?_
  refine C.iloadN at_0 rfl ?_
  refine C.iconst (v := (1 : Int32)) at_1 (by first | rfl | decide) ?_
  refine C.iand at_2 ?_
  have J1 : ∀ (f0 : Int32), C.W h [] 0 0 (mkF K.m 11 #[.val (.int p0), .val (.int p1), .val (.int p2), .val (.int p3), .val (.int p4), .val (.int p5), .unset, .unset, .unset, .unset, .unset, .unset, .unset, .unset, .unset, .unset] [.int f0]) := by
    intro f0
    refine C.istore #[.val (.int p0), .val (.int p1), .val (.int p2), .val (.int p3), .val (.int p4), .val (.int p5), .val (.int f0), .unset, .unset, .unset, .unset, .unset, .unset, .unset, .unset, .unset] at_11 rfl ?_
    refine C.iloadN at_13 rfl ?_
    refine C.iconst (v := (2 : Int32)) at_14 (by first | rfl | decide) ?_
    refine C.iand at_15 ?_
    have J2 : ∀ (f1 : Int32), C.W h [] 0 0 (mkF K.m 24 #[.val (.int p0), .val (.int p1), .val (.int p2), .val (.int p3), .val (.int p4), .val (.int p5), .val (.int f0), .unset, .unset, .unset, .unset, .unset, .unset, .unset, .unset, .unset] [.int f1]) := by
      intro f1
      refine C.istore #[.val (.int p0), .val (.int p1), .val (.int p2), .val (.int p3), .val (.int p4), .val (.int p5), .val (.int f0), .val (.int f1), .unset, .unset, .unset, .unset, .unset, .unset, .unset, .unset] at_24 rfl ?_
      refine C.iloadN at_26 rfl ?_
      refine C.iconst (v := (4 : Int32)) at_27 (by first | rfl | decide) ?_
      refine C.iand at_28 ?_
      have J3 : ∀ (f2 : Int32), C.W h [] 0 0 (mkF K.m 37 #[.val (.int p0), .val (.int p1), .val (.int p2), .val (.int p3), .val (.int p4), .val (.int p5), .val (.int f0), .val (.int f1), .unset, .unset, .unset, .unset, .unset, .unset, .unset, .unset] [.int f2]) := by
        intro f2
        have b0 := cnt_b f0
        have b1 := cnt_b f1
        have b2 := cnt_b f2
        have k0 : (0 : Int32).toInt = 0 := by decide
        have k1 : (1 : Int32).toInt = 1 := by decide
        have k2 : (2 : Int32).toInt = 2 := by decide
        have k3 : (3 : Int32).toInt = 3 := by decide
        have k4 : (4 : Int32).toInt = 4 := by decide
        have k5 : (5 : Int32).toInt = 5 := by decide
        refine C.istore #[.val (.int p0), .val (.int p1), .val (.int p2), .val (.int p3), .val (.int p4), .val (.int p5), .val (.int f0), .val (.int f1), .val (.int f2), .unset, .unset, .unset, .unset, .unset, .unset, .unset] at_37 rfl ?_
        refine C.bipush (v := (6 : Int32)) at_39 (by first | rfl | decide) ?_
        refine C.newarr 6 6 (B.1 _ (List.mem_of_getElem? (i := 0) rfl)) at_41 (by first | rfl | decide) (by decide) (by decide) (by decide) (by decide) fun h4 a5 g4 z4 o4 K4 An4 => ?_
        have An4 : Ary Z h4 a5 .char [.int 0, .int 0, .int 0, .int 0, .int 0, .int 0] := An4
        show C.W h4 [a5] 1 6 (mkF K.m 43 #[.val (.int p0), .val (.int p1), .val (.int p2), .val (.int p3), .val (.int p4), .val (.int p5), .val (.int f0), .val (.int f1), .val (.int f2), .unset, .unset, .unset, .unset, .unset, .unset, .unset] [.ref a5])
        refine C.astore #[.val (.int p0), .val (.int p1), .val (.int p2), .val (.int p3), .val (.int p4), .val (.int p5), .val (.int f0), .val (.int f1), .val (.int f2), .val (.ref a5), .unset, .unset, .unset, .unset, .unset, .unset] at_43 rfl rfl ?_
        refine C.aload at_45 rfl rfl ?_
        refine C.iconst (v := (0 : Int32)) at_47 (by first | rfl | decide) ?_
        refine C.iloadN at_48 rfl ?_
        refine C.iload at_49 rfl ?_
        refine C.callS [.ref a5, .int (0 : Int32), .int p0, .int f0] [] 0 (B.1 _ (List.mem_of_getElem? (i := 1) rfl)) (B.1 _ (List.mem_of_getElem? (i := 2) rfl)) (B.1 _ (List.mem_of_getElem? (i := 3) rfl)) (B.1 _ (List.mem_of_getElem? (i := 4) rfl)) (by decide) pd__28__5b_CIIZ_29_V rfl id (c_fill B (o := 0) (cs := [0, 0, 0, 0, 0, 0]) An4 (by decide) (by simp) (by simp)) at_51 rfl rfl rfl (by decide) (by decide) (by decide) (by decide) (allS (List.mem_of_getElem? (i := 0) rfl) all0) fun v6 h6 z6 K6 q6 => ?_
        obtain ⟨rfl, u0, u1, P0, Af6⟩ := q6
        show C.W h6 [a5] 1 6 (mkF K.m 54 #[.val (.int p0), .val (.int p1), .val (.int p2), .val (.int p3), .val (.int p4), .val (.int p5), .val (.int f0), .val (.int f1), .val (.int f2), .val (.ref a5), .unset, .unset, .unset, .unset, .unset, .unset] [])
        have Ag6 : Ary Z h6 a5 .char (List.map Value.int [u0, u1, 0, 0, 0, 0]) := Af6
        refine C.aload at_54 rfl rfl ?_
        refine C.iconst (v := (2 : Int32)) at_56 (by first | rfl | decide) ?_
        refine C.iloadN at_57 rfl ?_
        refine C.iload at_58 rfl ?_
        refine C.callS [.ref a5, .int (2 : Int32), .int p1, .int f1] [] 0 (B.1 _ (List.mem_of_getElem? (i := 1) rfl)) (B.1 _ (List.mem_of_getElem? (i := 2) rfl)) (B.1 _ (List.mem_of_getElem? (i := 3) rfl)) (B.1 _ (List.mem_of_getElem? (i := 4) rfl)) (by decide) pd__28__5b_CIIZ_29_V rfl id (c_fill B (o := 2) (cs := [u0, u1, 0, 0, 0, 0]) Ag6 (by decide) (by simp) (by simp)) at_60 rfl rfl rfl (by decide) (by decide) (by decide) (by decide) (allS (List.mem_of_getElem? (i := 0) rfl) all0) fun v7 h7 z7 K7 q7 => ?_
        obtain ⟨rfl, u2, u3, P1, Af7⟩ := q7
        show C.W h7 [a5] 1 6 (mkF K.m 63 #[.val (.int p0), .val (.int p1), .val (.int p2), .val (.int p3), .val (.int p4), .val (.int p5), .val (.int f0), .val (.int f1), .val (.int f2), .val (.ref a5), .unset, .unset, .unset, .unset, .unset, .unset] [])
        have Ag7 : Ary Z h7 a5 .char (List.map Value.int [u0, u1, u2, u3, 0, 0]) := Af7
        refine C.aload at_63 rfl rfl ?_
        refine C.iconst (v := (4 : Int32)) at_65 (by first | rfl | decide) ?_
        refine C.iloadN at_66 rfl ?_
        refine C.iload at_67 rfl ?_
        refine C.callS [.ref a5, .int (4 : Int32), .int p2, .int f2] [] 0 (B.1 _ (List.mem_of_getElem? (i := 1) rfl)) (B.1 _ (List.mem_of_getElem? (i := 2) rfl)) (B.1 _ (List.mem_of_getElem? (i := 3) rfl)) (B.1 _ (List.mem_of_getElem? (i := 4) rfl)) (by decide) pd__28__5b_CIIZ_29_V rfl id (c_fill B (o := 4) (cs := [u0, u1, u2, u3, 0, 0]) Ag7 (by decide) (by simp) (by simp)) at_69 rfl rfl rfl (by decide) (by decide) (by decide) (by decide) (allS (List.mem_of_getElem? (i := 0) rfl) all0) fun v8 h8 z8 K8 q8 => ?_
        obtain ⟨rfl, u4, u5, P2, Af8⟩ := q8
        show C.W h8 [a5] 1 6 (mkF K.m 72 #[.val (.int p0), .val (.int p1), .val (.int p2), .val (.int p3), .val (.int p4), .val (.int p5), .val (.int f0), .val (.int f1), .val (.int f2), .val (.ref a5), .unset, .unset, .unset, .unset, .unset, .unset] [])
        have Ag8 : Ary Z h8 a5 .char (List.map Value.int [u0, u1, u2, u3, u4, u5]) := Af8
        refine C.iload at_72 rfl ?_
        refine C.callS [.int f0] [] 0 (B.1 _ (List.mem_of_getElem? (i := 11) rfl)) (B.1 _ (List.mem_of_getElem? (i := 12) rfl)) (B.1 _ (List.mem_of_getElem? (i := 3) rfl)) (B.1 _ (List.mem_of_getElem? (i := 13) rfl)) (by decide) pd__28_Z_29_I rfl id (c_count B (f := f0)) at_74 rfl rfl rfl (by decide) (by decide) (by decide) (by decide) all0 fun v9 h9 z9 K9 q9 => ?_
        obtain ⟨m0, rfl, hm0, rfl⟩ := q9
        show C.W h8 [a5] 1 6 (mkF K.m 77 #[.val (.int p0), .val (.int p1), .val (.int p2), .val (.int p3), .val (.int p4), .val (.int p5), .val (.int f0), .val (.int f1), .val (.int f2), .val (.ref a5), .unset, .unset, .unset, .unset, .unset, .unset] [.int m0])
        refine C.iload at_77 rfl ?_
        refine C.callS [.int f1] [.int m0] 1 (B.1 _ (List.mem_of_getElem? (i := 11) rfl)) (B.1 _ (List.mem_of_getElem? (i := 12) rfl)) (B.1 _ (List.mem_of_getElem? (i := 3) rfl)) (B.1 _ (List.mem_of_getElem? (i := 13) rfl)) (by decide) pd__28_Z_29_I rfl id (c_count B (f := f1)) at_79 rfl rfl rfl (by decide) (by decide) (by decide) (by decide) all0 fun v10 h10 z10 K10 q10 => ?_
        obtain ⟨m1, rfl, hm1, rfl⟩ := q10
        show C.W h8 [a5] 1 6 (mkF K.m 82 #[.val (.int p0), .val (.int p1), .val (.int p2), .val (.int p3), .val (.int p4), .val (.int p5), .val (.int f0), .val (.int f1), .val (.int f2), .val (.ref a5), .unset, .unset, .unset, .unset, .unset, .unset] [.int m1, .int m0])
        refine C.iadd at_82 ?_
        refine C.iload at_83 rfl ?_
        refine C.callS [.int f2] [.int (m0 + m1)] 1 (B.1 _ (List.mem_of_getElem? (i := 11) rfl)) (B.1 _ (List.mem_of_getElem? (i := 12) rfl)) (B.1 _ (List.mem_of_getElem? (i := 3) rfl)) (B.1 _ (List.mem_of_getElem? (i := 13) rfl)) (by decide) pd__28_Z_29_I rfl id (c_count B (f := f2)) at_85 rfl rfl rfl (by decide) (by decide) (by decide) (by decide) all0 fun v11 h11 z11 K11 q11 => ?_
        obtain ⟨m2, rfl, hm2, rfl⟩ := q11
        show C.W h8 [a5] 1 6 (mkF K.m 88 #[.val (.int p0), .val (.int p1), .val (.int p2), .val (.int p3), .val (.int p4), .val (.int p5), .val (.int f0), .val (.int f1), .val (.int f2), .val (.ref a5), .unset, .unset, .unset, .unset, .unset, .unset] [.int m2, .int (m0 + m1)])
        refine C.iadd at_88 ?_
        obtain ⟨nn, e_nn⟩ : ∃ z, ((m0 + m1) + m2) = z := ⟨_, rfl⟩
        refine C.topI e_nn ?_
        have hn1 : (m0 + m1).toInt = (cnt f0 + cnt f1 : Nat) := by rw [add_int (by omega) (by omega)]; omega
        have hnn : nn.toInt = (cnt f0 + cnt f1 + cnt f2 : Nat) := by rw [← e_nn, add_int (by omega) (by omega)]; omega
        have hnp : (nn + (1 : Int32)).toInt = nn.toInt + 1 := by rw [add_int (by omega) (by omega), k1]
        have nz1 : (nn + (1 : Int32)) ≠ 0 := fun q => by rw [q] at hnp; omega
        refine C.istore #[.val (.int p0), .val (.int p1), .val (.int p2), .val (.int p3), .val (.int p4), .val (.int p5), .val (.int f0), .val (.int f1), .val (.int f2), .val (.ref a5), .val (.int nn), .unset, .unset, .unset, .unset, .unset] at_89 rfl ?_
        refine C.iload at_91 rfl ?_
        refine C.ldcInt (v := (2147483647 : Int32)) (B.1 _ (List.mem_of_getElem? (i := 14) rfl)) at_93 ?_
        refine C.iand at_95 ?_
        refine C.iload at_96 rfl ?_
        refine C.iconst (v := (1 : Int32)) at_98 (by first | rfl | decide) ?_
        refine C.iadd at_99 ?_
        refine C.irem (by assumption) at_100 ?_
        obtain ⟨st, e_st⟩ : ∃ z, ((p4 &&& (2147483647 : Int32)) % (nn + (1 : Int32))) = z := ⟨_, rfl⟩
        refine C.topI e_st ?_
        have hst := rem_pos (x := p4 &&& 2147483647) (nn.toInt + 1) (and_pos p4) hnp (by omega)
        rw [e_st] at hst
        have hnq : (nn + (1 : Int32) - st).toInt = nn.toInt + 1 - st.toInt := by rw [sub_int (by omega) (by omega), hnp]
        have nz2 : (nn + (1 : Int32) - st) ≠ 0 := fun q => by rw [q] at hnq; omega
        refine C.istore #[.val (.int p0), .val (.int p1), .val (.int p2), .val (.int p3), .val (.int p4), .val (.int p5), .val (.int f0), .val (.int f1), .val (.int f2), .val (.ref a5), .val (.int nn), .val (.int st), .unset, .unset, .unset, .unset] at_101 rfl ?_
        refine C.iload at_103 rfl ?_
        refine C.iload at_105 rfl ?_
        refine C.ldcInt (v := (2147483647 : Int32)) (B.1 _ (List.mem_of_getElem? (i := 14) rfl)) at_107 ?_
        refine C.iand at_109 ?_
        refine C.iload at_110 rfl ?_
        refine C.iconst (v := (1 : Int32)) at_112 (by first | rfl | decide) ?_
        refine C.iadd at_113 ?_
        refine C.iload at_114 rfl ?_
        refine C.isub at_116 ?_
        refine C.irem (by assumption) at_117 ?_
        obtain ⟨rr, e_rr⟩ : ∃ z, ((p5 &&& (2147483647 : Int32)) % ((nn + (1 : Int32)) - st)) = z := ⟨_, rfl⟩
        refine C.topI e_rr ?_
        have hrr := rem_pos (x := p5 &&& 2147483647) (nn.toInt + 1 - st.toInt) (and_pos p5) hnq (by omega)
        rw [e_rr] at hrr
        refine C.iadd at_118 ?_
        obtain ⟨en, e_en⟩ : ∃ z, (st + rr) = z := ⟨_, rfl⟩
        refine C.topI e_en ?_
        have hen : en.toInt = st.toInt + rr.toInt := by rw [← e_en, add_int (by omega) (by omega)]
        obtain ⟨k, ek⟩ : ∃ k : Nat, st.toInt = k := ⟨st.toInt.toNat, by omega⟩
        obtain ⟨m, em⟩ : ∃ m : Nat, rr.toInt = m := ⟨rr.toInt.toNat, by omega⟩
        have ekm : en.toInt = (k + m : Nat) := by omega
        have hkm : k + m ≤ cnt f0 + cnt f1 + cnt f2 := by omega
        have v1 := adv_offs P0 P1 P2 (k := k) (by omega)
        have v2 := adv_offs P0 P1 P2 hkm
        have v3 : ∀ t, t < k + m → adv [u0, u1, u2, u3, u4, u5] t 0 < 6 := fun t ht => by rw [adv_offs P0 P1 P2 (by omega)]; exact offs_lt (by omega)
        have v4 := offs_le (f := f0) (g := f1) (e := f2) (show k ≤ k + m by omega)
        obtain ⟨o, eo⟩ : ∃ o, offs f0 f1 f2 k = o := ⟨_, rfl⟩
        obtain ⟨o2, eo2⟩ : ∃ o, offs f0 f1 f2 (k + m) = o := ⟨_, rfl⟩
        rw [eo] at v1 v4
        rw [eo2] at v2 v4
        obtain ⟨n, rfl⟩ : ∃ n, o2 = o + n := ⟨o2 - o, by omega⟩
        have hp : ∀ c ∈ [u0, u1, u2, u3, u4, u5], 0 ≤ c.toInt ∧ c.toInt < 65536 := by
          have a0 := P0.1; have a1 := P0.2.1; have a2 := P1.1; have a3 := P1.2.1; have a4 := P2.1; have a5 := P2.2.1
          simp only [List.mem_cons, List.not_mem_nil, or_false]
          rintro c (rfl | rfl | rfl | rfl | rfl | rfl) <;> assumption
        refine C.istore #[.val (.int p0), .val (.int p1), .val (.int p2), .val (.int p3), .val (.int p4), .val (.int p5), .val (.int f0), .val (.int f1), .val (.int f2), .val (.ref a5), .val (.int nn), .val (.int st), .val (.int en), .unset, .unset, .unset] at_119 rfl ?_
        refine C.new (B.1 _ (List.mem_of_getElem? (i := 15) rfl)) (B.1 _ (List.mem_of_getElem? (i := 16) rfl)) (B.1 _ (List.mem_of_getElem? (i := 17) rfl)) at_121 (by decide) (by decide) fun h12 a13 g12 z12 o12 K12 En12 Dn12 Un12 => ?_
        show C.W h12 [a13, a5] 2 7 (mkF K.m 124 #[.val (.int p0), .val (.int p1), .val (.int p2), .val (.int p3), .val (.int p4), .val (.int p5), .val (.int f0), .val (.int f1), .val (.int f2), .val (.ref a5), .val (.int nn), .val (.int st), .val (.int en), .unset, .unset, .unset] [.ref a13])
        have G : Fld Z h12 a13 "com/example/axial/axial/DocumentText" "text" "Ljava/lang/String;" (.null) := Dn12 (Or.inr (B.1 _ (List.mem_of_getElem? (i := 76) rfl))) (ty := (.object "java/lang/String")) (by decide)
        refine C.dup rfl at_124 ?_
        refine C.new (B.1 _ (List.mem_of_getElem? (i := 18) rfl)) (B.1 _ (List.mem_of_getElem? (i := 19) rfl)) (B.1 _ (List.mem_of_getElem? (i := 20) rfl)) at_125 (by decide) (by decide) fun h14 a15 g14 z14 o14 K14 En14 Dn14 Un14 => ?_
        show C.W h14 [a15, a13, a5] 3 11 (mkF K.m 128 #[.val (.int p0), .val (.int p1), .val (.int p2), .val (.int p3), .val (.int p4), .val (.int p5), .val (.int f0), .val (.int f1), .val (.int f2), .val (.ref a5), .val (.int nn), .val (.int st), .val (.int en), .unset, .unset, .unset] [.ref a15, .ref a13, .ref a13])
        have Fv : Fld Z h14 a15 "java/lang/String" "value" "[B" (.null) := Dn14 (Or.inr (B.1 _ (List.mem_of_getElem? (i := 65) rfl))) (ty := (.array .byte)) (by decide)
        have Fc : Fld Z h14 a15 "java/lang/String" "coder" "B" (.int 0) := Dn14 (Or.inr (B.1 _ (List.mem_of_getElem? (i := 63) rfl))) (ty := .byte) (by decide)
        refine C.dup rfl at_128 ?_
        refine C.aload at_129 rfl rfl ?_
        have Ag8_16 := ((Ag8.keep K12 nin0).keep K14 nin0)
        refine C.callN a15 [.ref a5] [.ref a15, .ref a13, .ref a13] 3 (B.1 _ (List.mem_of_getElem? (i := 21) rfl)) (B.1 _ (List.mem_of_getElem? (i := 22) rfl)) (B.1 _ (List.mem_of_getElem? (i := 23) rfl)) rfl (by decide) pd__28__5b_C_29_V rfl id (c_init1 B (cs := [u0, u1, u2, u3, u4, u5]) En14 Fv Fc Ag8_16 (by simp) hp (by simp)) at_131 rfl rfl rfl (by decide) (by decide) (by decide) (by decide) (allS (List.mem_of_getElem? (i := 0) rfl) all0) fun v17 h17 z17 K17 q17 => ?_
        obtain ⟨rfl, S⟩ := q17
        show C.W h17 [a15, a13, a5] 5 29 (mkF K.m 134 #[.val (.int p0), .val (.int p1), .val (.int p2), .val (.int p3), .val (.int p4), .val (.int p5), .val (.int f0), .val (.int f1), .val (.int f2), .val (.ref a5), .val (.int nn), .val (.int st), .val (.int en), .unset, .unset, .unset] [.ref a15, .ref a13, .ref a13])
        have lS := S.lt
        have En12_18 := ((En12.keep K14).keep K17)
        have G_19 := ((G.keep K14 nin0).keep K17 (ninS (neA (by omega)) nin0))
        refine C.callN a13 [.ref a15] [.ref a13] 1 (B.1 _ (List.mem_of_getElem? (i := 66) rfl)) (B.1 _ (List.mem_of_getElem? (i := 67) rfl)) (B.1 _ (List.mem_of_getElem? (i := 68) rfl)) rfl (by decide) pd__28_Ljava_2f_lang_2f_String_3b__29_V rfl id (c_dinit B En12_18 G_19) at_134 rfl rfl rfl (by decide) (by decide) (by decide) (by decide) (allS (List.mem_of_getElem? (i := 1) rfl) all0) fun v20 h20 z20 K20 q20 => ?_
        obtain ⟨rfl, Et, G2⟩ := q20
        show C.W h20 [a15, a13, a5] 5 29 (mkF K.m 137 #[.val (.int p0), .val (.int p1), .val (.int p2), .val (.int p3), .val (.int p4), .val (.int p5), .val (.int f0), .val (.int f1), .val (.int f2), .val (.ref a5), .val (.int nn), .val (.int st), .val (.int en), .unset, .unset, .unset] [.ref a13])
        have S2 := S.keepO En12_18 (B.1 _ (List.mem_of_getElem? (i := 16) rfl)) (neA (by omega)) K20
        refine C.iload at_137 rfl ?_
        refine C.iload at_139 rfl ?_
        refine C.callV a13 [.int st, .int en] [] 0 (B.1 _ (List.mem_of_getElem? (i := 77) rfl)) (B.1 _ (List.mem_of_getElem? (i := 78) rfl)) (B.1 _ (List.mem_of_getElem? (i := 80) rfl)) (B.1 _ (List.mem_of_getElem? (i := 79) rfl)) (by decide) rfl Et pd__28_II_29_Ljava_2f_lang_2f_String_3b_ rfl id (c_quote B trivial G2 S2 (by simp) ek ekm (by omega) v1 v2 (by simp; omega) (by simpa using v3)) at_141 rfl rfl rfl (by decide) (by decide) (by decide) (by decide) all0 fun v21 h21 z21 K21 q21 => ?_
        obtain ⟨y, rfl, Sy⟩ := q21
        show C.W h21 [a15, a13, a5] 8 51 (mkF K.m 144 #[.val (.int p0), .val (.int p1), .val (.int p2), .val (.int p3), .val (.int p4), .val (.int p5), .val (.int f0), .val (.int f1), .val (.int f2), .val (.ref a5), .val (.int nn), .val (.int st), .val (.int en), .unset, .unset, .unset] [.ref y])
        have Ey := Sy.exa
        obtain ⟨ds, eds⟩ : ∃ z, (List.drop o [u0, u1, u2, u3, u4, u5]).take n = z := ⟨_, rfl⟩
        have dl : ds.length = n := by rw [← eds]; exact sub_len (by simp; omega)
        have dg : ∀ t, t < ds.length → ds[t]? = [u0, u1, u2, u3, u4, u5][o + t]? := fun t ht => by rw [← eds]; exact sub_get (by omega)
        rw [eds] at Sy
        refine C.astore #[.val (.int p0), .val (.int p1), .val (.int p2), .val (.int p3), .val (.int p4), .val (.int p5), .val (.int f0), .val (.int f1), .val (.int f2), .val (.ref a5), .val (.int nn), .val (.int st), .val (.int en), .val (.ref y), .unset, .unset] at_144 rfl rfl ?_
        refine C.iload at_146 rfl ?_
        refine C.iload at_148 rfl ?_
        refine C.iload at_150 rfl ?_
        refine C.iload at_152 rfl ?_
        refine C.callS [.int st, .int f0, .int f1, .int f2] [] 0 (B.1 _ (List.mem_of_getElem? (i := 200) rfl)) (B.1 _ (List.mem_of_getElem? (i := 201) rfl)) (B.1 _ (List.mem_of_getElem? (i := 3) rfl)) (B.1 _ (List.mem_of_getElem? (i := 202) rfl)) (by decide) pd__28_IZZZ_29_I rfl id (c_off B (f := f0) (g := f1) (e := f2) ek (by omega)) at_154 rfl rfl rfl (by decide) (by decide) (by decide) (by decide) all0 fun v22 h22 z22 K22 q22 => ?_
        obtain ⟨ra, rfl, hra, rfl⟩ := q22
        show C.W h21 [a15, a13, a5] 8 51 (mkF K.m 157 #[.val (.int p0), .val (.int p1), .val (.int p2), .val (.int p3), .val (.int p4), .val (.int p5), .val (.int f0), .val (.int f1), .val (.int f2), .val (.ref a5), .val (.int nn), .val (.int st), .val (.int en), .val (.ref y), .unset, .unset] [.int ra])
        rw [eo] at hra
        refine C.istore #[.val (.int p0), .val (.int p1), .val (.int p2), .val (.int p3), .val (.int p4), .val (.int p5), .val (.int f0), .val (.int f1), .val (.int f2), .val (.ref a5), .val (.int nn), .val (.int st), .val (.int en), .val (.ref y), .val (.int ra), .unset] at_157 rfl ?_
        refine C.iload at_159 rfl ?_
        refine C.iload at_161 rfl ?_
        refine C.iload at_163 rfl ?_
        refine C.iload at_165 rfl ?_
        refine C.callS [.int en, .int f0, .int f1, .int f2] [] 0 (B.1 _ (List.mem_of_getElem? (i := 200) rfl)) (B.1 _ (List.mem_of_getElem? (i := 201) rfl)) (B.1 _ (List.mem_of_getElem? (i := 3) rfl)) (B.1 _ (List.mem_of_getElem? (i := 202) rfl)) (by decide) pd__28_IZZZ_29_I rfl id (c_off B (f := f0) (g := f1) (e := f2) ekm (by omega)) at_167 rfl rfl rfl (by decide) (by decide) (by decide) (by decide) all0 fun v23 h23 z23 K23 q23 => ?_
        obtain ⟨rb, rfl, hrb, rfl⟩ := q23
        show C.W h21 [a15, a13, a5] 8 51 (mkF K.m 170 #[.val (.int p0), .val (.int p1), .val (.int p2), .val (.int p3), .val (.int p4), .val (.int p5), .val (.int f0), .val (.int f1), .val (.int f2), .val (.ref a5), .val (.int nn), .val (.int st), .val (.int en), .val (.ref y), .val (.int ra), .unset] [.int rb])
        rw [eo2] at hrb
        have hrs : (rb - ra).toInt = n := by rw [sub_int (by omega) (by omega)]; omega
        have edl : (Int32.ofNat ds.length).toInt = ds.length := ofNat_int (by omega)
        refine C.istore #[.val (.int p0), .val (.int p1), .val (.int p2), .val (.int p3), .val (.int p4), .val (.int p5), .val (.int f0), .val (.int f1), .val (.int f2), .val (.ref a5), .val (.int nn), .val (.int st), .val (.int en), .val (.ref y), .val (.int ra), .val (.int rb)] at_170 rfl ?_
        refine C.aload at_172 rfl rfl ?_
        refine C.callV y [] [] 0 (B.1 _ (List.mem_of_getElem? (i := 203) rfl)) (B.1 _ (List.mem_of_getElem? (i := 150) rfl)) (B.1 _ (List.mem_of_getElem? (i := 151) rfl)) (B.1 _ (List.mem_of_getElem? (i := 95) rfl)) (by decide) rfl Ey pd__28__29_I rfl id (c_length B Sy) at_174 rfl rfl rfl (by decide) (by decide) (by decide) (by decide) all0 fun v24 h24 z24 K24 q24 => ?_
        obtain ⟨rfl, rfl⟩ := q24
        show C.W h21 [a15, a13, a5] 8 51 (mkF K.m 177 #[.val (.int p0), .val (.int p1), .val (.int p2), .val (.int p3), .val (.int p4), .val (.int p5), .val (.int f0), .val (.int f1), .val (.int f2), .val (.ref a5), .val (.int nn), .val (.int st), .val (.int en), .val (.ref y), .val (.int ra), .val (.int rb)] [.int (Int32.ofNat ds.length)])
        refine C.iload at_177 rfl ?_
        refine C.iload at_179 rfl ?_
        refine C.isub at_181 ?_
        refine C.icmp_ne 267 at_182 (by decide) (by decide) (fun q25 => ?_) (fun q25 => ?_)
        · exfalso; omega
        · refine C.aload at_185 rfl rfl ?_
          refine C.aload at_187 rfl rfl ?_
          refine C.iload at_189 rfl ?_
          refine C.iconst (v := (0 : Int32)) at_191 (by first | rfl | decide) ?_
          have Ag8_26 := (((Ag8_16.keep K17 (ninS (neA (by omega)) nin0)).keep K20 (ninS (neA (by omega)) nin0)).keep K21 nin0)
          refine C.callS [.ref y, .ref a5, .int ra, .int (0 : Int32)] [] 0 (B.1 _ (List.mem_of_getElem? (i := 204) rfl)) (B.1 _ (List.mem_of_getElem? (i := 205) rfl)) (B.1 _ (List.mem_of_getElem? (i := 3) rfl)) (B.1 _ (List.mem_of_getElem? (i := 206) rfl)) (by decide) pd__28_Ljava_2f_lang_2f_String_3b__5b_CII_29_Z rfl id (c_at B (k := 0) (cs := [u0, u1, u2, u3, u4, u5]) Sy Ag8_26 hra (by decide) dg (by omega) (by omega)) at_192 rfl rfl rfl (by decide) (by decide) (by decide) (by decide) all0 fun v27 h27 z27 K27 q27 => ?_
          obtain ⟨rfl, rfl⟩ := q27
          show C.W h21 [a15, a13, a5] 8 51 (mkF K.m 195 #[.val (.int p0), .val (.int p1), .val (.int p2), .val (.int p3), .val (.int p4), .val (.int p5), .val (.int f0), .val (.int f1), .val (.int f2), .val (.ref a5), .val (.int nn), .val (.int st), .val (.int en), .val (.ref y), .val (.int ra), .val (.int rb)] [.int (1 : Int32)])
          refine C.ifc_eq 267 at_195 (by decide) (by decide) (fun q28 => ?_) (fun q28 => ?_)
          · exfalso; revert q28; decide
          · refine C.aload at_198 rfl rfl ?_
            refine C.aload at_200 rfl rfl ?_
            refine C.iload at_202 rfl ?_
            refine C.iconst (v := (1 : Int32)) at_204 (by first | rfl | decide) ?_
            refine C.callS [.ref y, .ref a5, .int ra, .int (1 : Int32)] [] 0 (B.1 _ (List.mem_of_getElem? (i := 204) rfl)) (B.1 _ (List.mem_of_getElem? (i := 205) rfl)) (B.1 _ (List.mem_of_getElem? (i := 3) rfl)) (B.1 _ (List.mem_of_getElem? (i := 206) rfl)) (by decide) pd__28_Ljava_2f_lang_2f_String_3b__5b_CII_29_Z rfl id (c_at B (k := 1) (cs := [u0, u1, u2, u3, u4, u5]) Sy Ag8_26 hra (by decide) dg (by omega) (by omega)) at_205 rfl rfl rfl (by decide) (by decide) (by decide) (by decide) all0 fun v29 h29 z29 K29 q29 => ?_
            obtain ⟨rfl, rfl⟩ := q29
            show C.W h21 [a15, a13, a5] 8 51 (mkF K.m 208 #[.val (.int p0), .val (.int p1), .val (.int p2), .val (.int p3), .val (.int p4), .val (.int p5), .val (.int f0), .val (.int f1), .val (.int f2), .val (.ref a5), .val (.int nn), .val (.int st), .val (.int en), .val (.ref y), .val (.int ra), .val (.int rb)] [.int (1 : Int32)])
            refine C.ifc_eq 267 at_208 (by decide) (by decide) (fun q30 => ?_) (fun q30 => ?_)
            · exfalso; revert q30; decide
            · refine C.aload at_211 rfl rfl ?_
              refine C.aload at_213 rfl rfl ?_
              refine C.iload at_215 rfl ?_
              refine C.iconst (v := (2 : Int32)) at_217 (by first | rfl | decide) ?_
              refine C.callS [.ref y, .ref a5, .int ra, .int (2 : Int32)] [] 0 (B.1 _ (List.mem_of_getElem? (i := 204) rfl)) (B.1 _ (List.mem_of_getElem? (i := 205) rfl)) (B.1 _ (List.mem_of_getElem? (i := 3) rfl)) (B.1 _ (List.mem_of_getElem? (i := 206) rfl)) (by decide) pd__28_Ljava_2f_lang_2f_String_3b__5b_CII_29_Z rfl id (c_at B (k := 2) (cs := [u0, u1, u2, u3, u4, u5]) Sy Ag8_26 hra (by decide) dg (by omega) (by omega)) at_218 rfl rfl rfl (by decide) (by decide) (by decide) (by decide) all0 fun v31 h31 z31 K31 q31 => ?_
              obtain ⟨rfl, rfl⟩ := q31
              show C.W h21 [a15, a13, a5] 8 51 (mkF K.m 221 #[.val (.int p0), .val (.int p1), .val (.int p2), .val (.int p3), .val (.int p4), .val (.int p5), .val (.int f0), .val (.int f1), .val (.int f2), .val (.ref a5), .val (.int nn), .val (.int st), .val (.int en), .val (.ref y), .val (.int ra), .val (.int rb)] [.int (1 : Int32)])
              refine C.ifc_eq 267 at_221 (by decide) (by decide) (fun q32 => ?_) (fun q32 => ?_)
              · exfalso; revert q32; decide
              · refine C.aload at_224 rfl rfl ?_
                refine C.aload at_226 rfl rfl ?_
                refine C.iload at_228 rfl ?_
                refine C.iconst (v := (3 : Int32)) at_230 (by first | rfl | decide) ?_
                refine C.callS [.ref y, .ref a5, .int ra, .int (3 : Int32)] [] 0 (B.1 _ (List.mem_of_getElem? (i := 204) rfl)) (B.1 _ (List.mem_of_getElem? (i := 205) rfl)) (B.1 _ (List.mem_of_getElem? (i := 3) rfl)) (B.1 _ (List.mem_of_getElem? (i := 206) rfl)) (by decide) pd__28_Ljava_2f_lang_2f_String_3b__5b_CII_29_Z rfl id (c_at B (k := 3) (cs := [u0, u1, u2, u3, u4, u5]) Sy Ag8_26 hra (by decide) dg (by omega) (by omega)) at_231 rfl rfl rfl (by decide) (by decide) (by decide) (by decide) all0 fun v33 h33 z33 K33 q33 => ?_
                obtain ⟨rfl, rfl⟩ := q33
                show C.W h21 [a15, a13, a5] 8 51 (mkF K.m 234 #[.val (.int p0), .val (.int p1), .val (.int p2), .val (.int p3), .val (.int p4), .val (.int p5), .val (.int f0), .val (.int f1), .val (.int f2), .val (.ref a5), .val (.int nn), .val (.int st), .val (.int en), .val (.ref y), .val (.int ra), .val (.int rb)] [.int (1 : Int32)])
                refine C.ifc_eq 267 at_234 (by decide) (by decide) (fun q34 => ?_) (fun q34 => ?_)
                · exfalso; revert q34; decide
                · refine C.aload at_237 rfl rfl ?_
                  refine C.aload at_239 rfl rfl ?_
                  refine C.iload at_241 rfl ?_
                  refine C.iconst (v := (4 : Int32)) at_243 (by first | rfl | decide) ?_
                  refine C.callS [.ref y, .ref a5, .int ra, .int (4 : Int32)] [] 0 (B.1 _ (List.mem_of_getElem? (i := 204) rfl)) (B.1 _ (List.mem_of_getElem? (i := 205) rfl)) (B.1 _ (List.mem_of_getElem? (i := 3) rfl)) (B.1 _ (List.mem_of_getElem? (i := 206) rfl)) (by decide) pd__28_Ljava_2f_lang_2f_String_3b__5b_CII_29_Z rfl id (c_at B (k := 4) (cs := [u0, u1, u2, u3, u4, u5]) Sy Ag8_26 hra (by decide) dg (by omega) (by omega)) at_244 rfl rfl rfl (by decide) (by decide) (by decide) (by decide) all0 fun v35 h35 z35 K35 q35 => ?_
                  obtain ⟨rfl, rfl⟩ := q35
                  show C.W h21 [a15, a13, a5] 8 51 (mkF K.m 247 #[.val (.int p0), .val (.int p1), .val (.int p2), .val (.int p3), .val (.int p4), .val (.int p5), .val (.int f0), .val (.int f1), .val (.int f2), .val (.ref a5), .val (.int nn), .val (.int st), .val (.int en), .val (.ref y), .val (.int ra), .val (.int rb)] [.int (1 : Int32)])
                  refine C.ifc_eq 267 at_247 (by decide) (by decide) (fun q36 => ?_) (fun q36 => ?_)
                  · exfalso; revert q36; decide
                  · refine C.aload at_250 rfl rfl ?_
                    refine C.aload at_252 rfl rfl ?_
                    refine C.iload at_254 rfl ?_
                    refine C.iconst (v := (5 : Int32)) at_256 (by first | rfl | decide) ?_
                    refine C.callS [.ref y, .ref a5, .int ra, .int (5 : Int32)] [] 0 (B.1 _ (List.mem_of_getElem? (i := 204) rfl)) (B.1 _ (List.mem_of_getElem? (i := 205) rfl)) (B.1 _ (List.mem_of_getElem? (i := 3) rfl)) (B.1 _ (List.mem_of_getElem? (i := 206) rfl)) (by decide) pd__28_Ljava_2f_lang_2f_String_3b__5b_CII_29_Z rfl id (c_at B (k := 5) (cs := [u0, u1, u2, u3, u4, u5]) Sy Ag8_26 hra (by decide) dg (by omega) (by omega)) at_257 rfl rfl rfl (by decide) (by decide) (by decide) (by decide) all0 fun v37 h37 z37 K37 q37 => ?_
                    obtain ⟨rfl, rfl⟩ := q37
                    show C.W h21 [a15, a13, a5] 8 51 (mkF K.m 260 #[.val (.int p0), .val (.int p1), .val (.int p2), .val (.int p3), .val (.int p4), .val (.int p5), .val (.int f0), .val (.int f1), .val (.int f2), .val (.ref a5), .val (.int nn), .val (.int st), .val (.int en), .val (.ref y), .val (.int ra), .val (.int rb)] [.int (1 : Int32)])
                    refine C.ifc_eq 267 at_260 (by decide) (by decide) (fun q38 => ?_) (fun q38 => ?_)
                    · exfalso; revert q38; decide
                    · refine C.iconst (v := (1 : Int32)) at_263 (by first | rfl | decide) ?_
                      refine C.goto 268 at_264 (by decide) (by decide) ?_
                      exact C.ireturn (t := .boolean) rfl (by simp) rfl at_268 (by decide) (by decide) rfl
      refine C.ifc_eq 36 at_29 (by decide) (by decide) (fun q39 => ?_) (fun q39 => ?_)
      · refine C.iconst (v := (0 : Int32)) at_36 (by first | rfl | decide) ?_
        exact J3 _
      · refine C.iconst (v := (1 : Int32)) at_32 (by first | rfl | decide) ?_
        refine C.goto 37 at_33 (by decide) (by decide) ?_
        exact J3 _
    refine C.ifc_eq 23 at_16 (by decide) (by decide) (fun q40 => ?_) (fun q40 => ?_)
    · refine C.iconst (v := (0 : Int32)) at_23 (by first | rfl | decide) ?_
      exact J2 _
    · refine C.iconst (v := (1 : Int32)) at_19 (by first | rfl | decide) ?_
      refine C.goto 24 at_20 (by decide) (by decide) ?_
      exact J2 _
  refine C.ifc_eq 10 at_3 (by decide) (by decide) (fun q41 => ?_) (fun q41 => ?_)
  · refine C.iconst (v := (0 : Int32)) at_10 (by first | rfl | decide) ?_
    exact J1 _
  · refine C.iconst (v := (1 : Int32)) at_6 (by first | rfl | decide) ?_
    refine C.goto 11 at_7 (by decide) (by decide) ?_
    exact J1 _
set_option maxRecDepth 65536 in
set_option maxHeartbeats 40000000 in
theorem comes_1 {Post : Tables → Env → Array Value → State → Outcome → State → Prop} (hpost : ∀ tb e args s v u, (limb_1_1.after args s (.returned v) u = true ∧ limb_1_2.after args s (.returned v) u = true ∧ True) → ReturnedEndW s (.returned v) u (Jvm.fieldLocs frame_1_writes args s ++ Jvm.arrayLocs frame_1_arrays args s ++ Jvm.staticLocs frame_1_statics s) 32 2240 → Post tb e args s (.returned v) u) :
    ArmFor flags0 classFile x code maxLocals ret World_1 tables_1 room_1 Calls_1 rest_1 Pre_1 Post := by
  intro l hfl _ _ p e ha hc hk s m args below hf hA hF happ hP
  obtain ⟨hcalls, hrest, hpre⟩ := hP
  obtain ⟨-, -, -, hnamed, -, -, -, hat⟩ := (Spec.applies_iff hf).mp happ
  obtain ⟨hg, hn⟩ := and_e (Cond.before_iff.mp (show (Jvm.Cond.and given_1 narrow_1).before args s = true from hpre))
  obtain ⟨hct, r0⟩ := and_e hg
  obtain ⟨w0, w1, w2, w3, w4, w5, rfl⟩ : ∃ w0 w1 w2 w3 w4 w5 : Value, args = #[w0, w1, w2, w3, w4, w5] := by
    have hs : args.size = 6 := by simpa [Cond.value, given_1] using hct
    obtain ⟨L⟩ := args
    match L, hs with
    | [w0, w1, w2, w3, w4, w5], _ => exact ⟨w0, w1, w2, w3, w4, w5, rfl⟩
  have hw := fun d (hd : d ∈ tables_1) => atoms_spec (ws := Jvm.Cond.code x code maxLocals ret :: tables_1) hat d (List.mem_cons_of_mem _ hd)
  obtain ⟨hsets, hown0⟩ := atoms_of _ (rest_1_c_eq ▸ (show rest_1_c.before _ s = true from hrest))
  have n3 := not_v (Cond.before_iff.mp (hsets _ (List.mem_of_getElem? (i := 2) rfl)))
  obtain ⟨zc, ezc⟩ := is_v (Cond.before_iff.mp (hsets _ (List.mem_of_getElem? (i := 1) rfl)))
  have Szc : Sta s s.heap "java/lang/String" "COMPACT_STRINGS" "Z" (.int zc) := Sta.start ezc (Or.inl (hsets _ (List.mem_of_getElem? (i := 0) rfl)))
  have czc : ¬ (zc = (0 : Int32)) := gotF (Cond.eq_ints ezc (Term.int_eval (0))) n3
  obtain ⟨fm, efm, rfm⟩ := isR_v (Cond.before_iff.mp (hsets _ (List.mem_of_getElem? (i := 8) rfl)))
  have Sfm : Sta s s.heap "jdk/internal/util/Preconditions" "SIOOBE_FORMATTER" "Ljava/util/function/BiFunction;" fm := Sta.start efm (Or.inl (hsets _ (List.mem_of_getElem? (i := 7) rfl)))
  obtain ⟨g0, r1⟩ := and_e r0
  obtain ⟨i0, e0⟩ := is_v g0
  obtain rfl : w0 = (.int i0) := Option.some.inj e0
  obtain ⟨g1, r2⟩ := and_e r1
  obtain ⟨i1, e1⟩ := is_v g1
  obtain rfl : w1 = (.int i1) := Option.some.inj e1
  obtain ⟨g2, r3⟩ := and_e r2
  obtain ⟨i2, e2⟩ := is_v g2
  obtain rfl : w2 = (.int i2) := Option.some.inj e2
  obtain ⟨g3, r4⟩ := and_e r3
  obtain ⟨i3, e3⟩ := is_v g3
  obtain rfl : w3 = (.int i3) := Option.some.inj e3
  obtain ⟨g4, r5⟩ := and_e r4
  obtain ⟨i4, e4⟩ := is_v g4
  obtain rfl : w4 = (.int i4) := Option.some.inj e4
  obtain ⟨i5, e5⟩ := is_v r5
  obtain rfl : w5 = (.int i5) := Option.some.inj e5
  have Sad : Sta s s.heap "java/lang/StringUTF16" "$assertionsDisabled" "Z" (.int 1) := Sta.start (eqv_i (Term.int_eval (1)) (Cond.before_iff.mp (hsets _ (List.mem_of_getElem? (i := 12) rfl)))) (Or.inl (hsets _ (List.mem_of_getElem? (i := 11) rfl)))
  have Shi : Sta s s.heap "java/lang/StringUTF16" "HI_BYTE_SHIFT" "I" (.int 0) := Sta.start (eqv_i (Term.int_eval (0)) (Cond.before_iff.mp (hsets _ (List.mem_of_getElem? (i := 15) rfl)))) (Or.inl (hsets _ (List.mem_of_getElem? (i := 14) rfl)))
  have Slo : Sta s s.heap "java/lang/StringUTF16" "LO_BYTE_SHIFT" "I" (.int 8) := Sta.start (eqv_i (Term.int_eval (8)) (Cond.before_iff.mp (hsets _ (List.mem_of_getElem? (i := 18) rfl)))) (Or.inl (hsets _ (List.mem_of_getElem? (i := 17) rfl)))
  have B : Base s _ := ⟨hw, ⟨zc, Szc, czc⟩, ⟨fm, Sfm, rfm⟩, Sad, Shi, Slo⟩
  have hCH : CHv s EL s.vm s.heap := CHv.start (ew B) (fun p hp => hcalls.1 p hp) (hsets _ (List.mem_of_getElem? (i := 2) rfl)) (B.1 _ (List.mem_of_getElem? (i := 36) rfl)) (B.1 _ (List.mem_of_getElem? (i := 19) rfl))
  obtain ⟨n, o, h1, h2, h3, v, L, rfl, ⟨hq, -, N⟩, hC, hR⟩ := m_law (l := l) (n0 := s.heap.size) (h := s.heap) (p0 := i0) (p1 := i1) (p2 := i2) (p3 := i3) (p4 := i4) (p5 := i5) B p e ha hc hk s m _ below hf ((Spec.applies_iff_loose hf).mp happ).1 ⟨rfl, State.Warmed39.refl s, rfl, hCH, Old.start s, fun _ q => nomatch q⟩ (fun q => q.elim)
  obtain rfl := hq
  exact ⟨n, _, h1, h2, h3, hpost _ _ _ _ _ _ ⟨Cond.after_iff.mpr rfl, Cond.after_iff.mpr (eq_i res_at (Term.int_eval (1)) rfl), trivial⟩ ⟨hR.1, hR.2.1, hR.2.2.1, (hR.2.2.2.sift fun y hy => Or.inr (N y hy)).mono (by decide) (by decide)⟩⟩
theorem main_1_1 : Claimed_1_1 := comes_1 fun _ _ _ _ _ _ h hF => ⟨h.1, hF⟩
theorem main_1_2 : Claimed_1_2 := comes_1 fun _ _ _ _ _ _ h hF => ⟨h.2.1, hF⟩
end Jvm.Pilot.@@N@@
namespace Jvm.Pilot.@@N@@
open Jvm Jvm.ClassFile Sem Op Lib Jvm.Free Jvm.Stand Jvm.Pilot.@@N@@.Jvm.D
/-! MADE BY PROGRAM (witnessworld.py) out of the Statement's table words and the real class files: 25 classes; the members and pool entries that the words name. The judged class is class 1, her method 1. -/
namespace start1
open Jvm.ClassFile
def u (s : String) : CpInfo := .utf8 (stringToUtf16 s)
/-- a pool by its gaps: so many unusable entries, then the entry; so many at the end -/
def gap : Nat → List CpInfo → List CpInfo
  | 0, r => r
  | n + 1, r => .unusable :: gap n r
def poolList (es : List (Nat × CpInfo)) (last : Nat) : List CpInfo := es.foldr (fun e r => gap e.1 (e.2 :: r)) (gap last [])
def pool (es : List (Nat × CpInfo)) (last : Nat) : Array CpInfo := ⟨poolList es last⟩
def fileOf (pool : Array CpInfo) (this : Nat) (attrs : Array Attribute := #[]) (ms : Array MethodInfo := #[]) (fl : Nat := 33) (sup : Nat := 0) (ifs : Array Nat := #[]) (fds : Array FieldInfo := #[]) : ClassFile where
  minorVersion := 0
  majorVersion := 65
  constantPool := pool
  accessFlags := fl
  thisClass := this
  superClass := sup
  interfaces := ifs
  fields := fds
  methods := ms
  attributes := attrs
def plain (name : String) (sup : Option ClassId) : Class where
  name := name
  kind := .ordinary
  loader := none
  accessFlags := 33
  super := sup
  interfaces := #[]
  cf := none
  fields := #[]
  methods := #[]
  instanceTypes := #[]
  staticTypes := #[]
  resolved := #[]
  callSites := []
  init := .initialized
  statics := none
  mirror := none

def pool0 : Array CpInfo := pool [(5, u "<init>"), (0, u "()V"), (1, .class_ 10), (1, u "java/lang/Object")] 113

def k0c0 : Code := { maxStack := 0, maxLocals := 1, code := object_method_1_code, exceptionTable := #[], attributes := #[] }
def k0m0 : Method := { name := "<init>", desc := "()V", sig := { parameters := [], returnType := none }, accessFlags := 1, code := some k0c0 }
/-- java/lang/Object -/
def k0 : Class := { plain "java/lang/Object" none with
  accessFlags := 33
  interfaces := #[]
  cf := some (fileOf pool0 8 #[] #[{ accessFlags := 1, nameIndex := 5, descriptorIndex := 6, attributes := #[] }] 33 0 #[] #[])
  fields := #[]
  methods := #[k0m0]
  instanceTypes := #[]
  staticTypes := #[]
  resolved := Array.replicate 124 none
  statics := none }

def pool1 : Array CpInfo := pool [(2, .class_ 4), (1, u "java/lang/Object"), (0, u "<init>"), (0, u "()V"), (0, .methodref 8 9), (0, .class_ 10), (0, .nameAndType 11 12), (0, u "com/example/axial/axial/DocumentTextQuotePinLaw"), (0, u "fill"), (0, u "([CIIZ)V"), (0, .methodref 8 14), (0, .nameAndType 15 16), (0, u "count"), (0, u "(Z)I"), (0, .integer 2147483647), (0, .class_ 19), (0, u "com/example/axial/axial/DocumentText"), (0, .class_ 21), (0, u "java/lang/String"), (0, .methodref 20 23), (0, .nameAndType 5 24), (0, u "([C)V"), (0, .methodref 18 26), (0, .nameAndType 5 27), (0, u "(Ljava/lang/String;)V"), (0, .methodref 18 29), (0, .nameAndType 30 31), (0, u "quote"), (0, u "(II)Ljava/lang/String;"), (0, .methodref 8 33), (0, .nameAndType 34 35), (0, u "off"), (0, u "(IZZZ)I"), (0, .methodref 20 37), (0, .nameAndType 38 39), (0, u "length"), (0, u "()I"), (0, .methodref 8 41), (0, .nameAndType 42 43), (0, u "at"), (0, u "(Ljava/lang/String;[CII)Z"), (0, .integer 55296), (0, .integer 57343), (0, .integer 32768), (0, .integer 56320), (0, .integer 65535), (0, .methodref 8 50), (0, .nameAndType 51 52), (0, u "bmp"), (0, u "(I)C"), (0, .methodref 20 54), (0, .nameAndType 55 52), (0, u "charAt"), (2, u "law"), (0, u "(IIIIII)Z")] 5

def k1m0 : Method := { name := "<init>", desc := "()V", sig := { parameters := [], returnType := none }, accessFlags := 1, code := none }
def k1c1 : Code := { maxStack := 5, maxLocals := 16, code := code, exceptionTable := #[], attributes := #[] }
def k1m1 : Method := { name := "law", desc := "(IIIIII)Z", sig := { parameters := [.int, .int, .int, .int, .int, .int], returnType := some .boolean }, accessFlags := 9, code := some k1c1 }
def k1c2 : Code := { maxStack := 1, maxLocals := 1, code := method_3_code, exceptionTable := #[], attributes := #[] }
def k1m2 : Method := { name := "count", desc := "(Z)I", sig := { parameters := [.boolean], returnType := some .int }, accessFlags := 10, code := some k1c2 }
def k1c3 : Code := { maxStack := 2, maxLocals := 1, code := method_4_code, exceptionTable := #[], attributes := #[] }
def k1m3 : Method := { name := "bmp", desc := "(I)C", sig := { parameters := [.int], returnType := some .char }, accessFlags := 10, code := some k1c3 }
def k1c4 : Code := { maxStack := 5, maxLocals := 4, code := method_5_code, exceptionTable := #[], attributes := #[] }
def k1m4 : Method := { name := "fill", desc := "([CIIZ)V", sig := { parameters := [(.array .char), .int, .int, .boolean], returnType := none }, accessFlags := 10, code := some k1c4 }
def k1c5 : Code := { maxStack := 2, maxLocals := 7, code := method_6_code, exceptionTable := #[], attributes := #[] }
def k1m5 : Method := { name := "off", desc := "(IZZZ)I", sig := { parameters := [.int, .boolean, .boolean, .boolean], returnType := some .int }, accessFlags := 10, code := some k1c5 }
def k1c6 : Code := { maxStack := 4, maxLocals := 4, code := method_7_code, exceptionTable := #[], attributes := #[] }
def k1m6 : Method := { name := "at", desc := "(Ljava/lang/String;[CII)Z", sig := { parameters := [(.object "java/lang/String"), (.array .char), .int, .int], returnType := some .boolean }, accessFlags := 10, code := some k1c6 }
/-- com/example/axial/axial/DocumentTextQuotePinLaw -/
def k1 : Class := { plain "com/example/axial/axial/DocumentTextQuotePinLaw" (some 0) with
  accessFlags := 49
  interfaces := #[]
  cf := some (fileOf pool1 8 #[] #[{ accessFlags := 1, nameIndex := 5, descriptorIndex := 6, attributes := #[] }, { accessFlags := 9, nameIndex := 58, descriptorIndex := 59, attributes := #[] }, { accessFlags := 10, nameIndex := 15, descriptorIndex := 16, attributes := #[] }, { accessFlags := 10, nameIndex := 51, descriptorIndex := 52, attributes := #[] }, { accessFlags := 10, nameIndex := 11, descriptorIndex := 12, attributes := #[] }, { accessFlags := 10, nameIndex := 34, descriptorIndex := 35, attributes := #[] }, { accessFlags := 10, nameIndex := 42, descriptorIndex := 43, attributes := #[] }] 49 2 #[] #[])
  fields := #[]
  methods := #[k1m0, k1m1, k1m2, k1m3, k1m4, k1m5, k1m6]
  instanceTypes := #[]
  staticTypes := #[]
  resolved := Array.replicate 65 none
  statics := none }

def pool2 : Array CpInfo := pool [(1, .methodref 2 3), (0, .class_ 4), (0, .nameAndType 5 6), (0, u "java/lang/Object"), (0, u "<init>"), (0, u "()V"), (0, .class_ 8), (0, u "java/lang/Record")] 13

def k2c0 : Code := { maxStack := 1, maxLocals := 1, code := jdk_30_method_1_code, exceptionTable := #[], attributes := #[] }
def k2m0 : Method := { name := "<init>", desc := "()V", sig := { parameters := [], returnType := none }, accessFlags := 4, code := some k2c0 }
/-- java/lang/Record -/
def k2 : Class := { plain "java/lang/Record" (some 0) with
  accessFlags := 1057
  interfaces := #[]
  cf := some (fileOf pool2 7 #[] #[{ accessFlags := 4, nameIndex := 5, descriptorIndex := 6, attributes := #[] }] 1057 2 #[] #[])
  fields := #[]
  methods := #[k2m0]
  instanceTypes := #[]
  staticTypes := #[]
  resolved := Array.replicate 22 none
  statics := none }

def pool3 : Array CpInfo := pool [(1, .methodref 2 3), (0, .class_ 4), (0, .nameAndType 5 6), (0, u "java/lang/Record"), (0, u "<init>"), (0, u "()V"), (0, .fieldref 8 9), (0, .class_ 10), (0, .nameAndType 11 12), (0, u "com/example/axial/axial/DocumentText"), (0, u "text"), (0, u "Ljava/lang/String;"), (15, .class_ 30), (1, u "java/lang/String"), (37, u "(Ljava/lang/String;)V"), (7, u "BETWEEN_PARAGRAPHS"), (0, u "Ljava/util/regex/Pattern;"), (8, .class_ 87), (0, u "com/example/axial/axial/DocumentText$Paragraph"), (15, u "(II)I"), (0, .methodref 28 105), (0, .nameAndType 106 103), (0, u "offsetByCodePoints"), (0, .methodref 28 108), (0, .nameAndType 109 110), (0, u "substring"), (0, u "(II)Ljava/lang/String;"), (15, u "SEPARATOR_LENGTH"), (0, u "I"), (18, u "quote")] 22

def k3c0 : Code := { maxStack := 2, maxLocals := 2, code := prog_2_method_1_code, exceptionTable := #[], attributes := #[] }
def k3m0 : Method := { name := "<init>", desc := "(Ljava/lang/String;)V", sig := { parameters := [(.object "java/lang/String")], returnType := none }, accessFlags := 0, code := some k3c0 }
def k3c1 : Code := { maxStack := 6, maxLocals := 4, code := prog_2_method_5_code, exceptionTable := #[], attributes := #[] }
def k3m1 : Method := { name := "quote", desc := "(II)Ljava/lang/String;", sig := { parameters := [.int, .int], returnType := some (.object "java/lang/String") }, accessFlags := 0, code := some k3c1 }
/-- com/example/axial/axial/DocumentText -/
def k3 : Class := { plain "com/example/axial/axial/DocumentText" (some 2) with
  accessFlags := 48
  interfaces := #[]
  cf := some (fileOf pool3 8 #[.nestMembers #[86]] #[{ accessFlags := 0, nameIndex := 5, descriptorIndex := 68, attributes := #[] }, { accessFlags := 0, nameIndex := 146, descriptorIndex := 110, attributes := #[] }] 48 2 #[] #[{ accessFlags := 18, nameIndex := 11, descriptorIndex := 12, attributes := #[] }, { accessFlags := 26, nameIndex := 76, descriptorIndex := 77, attributes := #[] }, { accessFlags := 26, nameIndex := 126, descriptorIndex := 127, attributes := #[] }])
  fields := #[{ name := "text", type := (.object "java/lang/String"), accessFlags := 18, slot := 0, constantValue := 0 }, { name := "BETWEEN_PARAGRAPHS", type := (.object "java/util/regex/Pattern"), accessFlags := 26, slot := 0, constantValue := 0 }, { name := "SEPARATOR_LENGTH", type := .int, accessFlags := 26, slot := 1, constantValue := 0 }]
  methods := #[k3m0, k3m1]
  instanceTypes := #[(.object "java/lang/String")]
  staticTypes := #[(.object "java/util/regex/Pattern"), .int]
  resolved := Array.replicate 169 none
  statics := none }

def pool4 : Array CpInfo := pool [(1, .class_ 2), (0, u "java/io/Serializable"), (0, .class_ 4), (0, u "java/lang/Object")] 2

/-- java/io/Serializable -/
def k4 : Class := { plain "java/io/Serializable" (some 0) with
  accessFlags := 1537
  interfaces := #[]
  cf := some (fileOf pool4 1 #[] #[] 1537 3 #[] #[])
  fields := #[]
  methods := #[]
  instanceTypes := #[]
  staticTypes := #[]
  resolved := Array.replicate 7 none
  statics := none }

def pool5 : Array CpInfo := pool [(1, .class_ 2), (0, u "java/lang/Comparable"), (0, .class_ 4), (0, u "java/lang/Object")] 7

/-- java/lang/Comparable -/
def k5 : Class := { plain "java/lang/Comparable" (some 0) with
  accessFlags := 1537
  interfaces := #[]
  cf := some (fileOf pool5 1 #[] #[] 1537 3 #[] #[])
  fields := #[]
  methods := #[]
  instanceTypes := #[]
  staticTypes := #[]
  resolved := Array.replicate 12 none
  statics := none }

def pool6 : Array CpInfo := pool [(2, .class_ 4), (1, u "java/lang/CharSequence"), (0, u "length"), (0, u "()I"), (38, u "charAt"), (0, u "(I)C"), (0, .class_ 48), (0, u "java/lang/CharSequence$1CodePointIterator"), (10, .class_ 60), (0, u "java/lang/CharSequence$1CharIterator"), (5, .class_ 67), (0, u "java/lang/Object")] 63

def k6m0 : Method := { name := "length", desc := "()I", sig := { parameters := [], returnType := some .int }, accessFlags := 1025, code := none }
def k6m1 : Method := { name := "charAt", desc := "(I)C", sig := { parameters := [.int], returnType := some .char }, accessFlags := 1025, code := none }
/-- java/lang/CharSequence -/
def k6 : Class := { plain "java/lang/CharSequence" (some 0) with
  accessFlags := 1537
  interfaces := #[]
  cf := some (fileOf pool6 2 #[.nestMembers #[47, 59]] #[{ accessFlags := 1025, nameIndex := 5, descriptorIndex := 6, attributes := #[] }, { accessFlags := 1025, nameIndex := 45, descriptorIndex := 46, attributes := #[] }] 1537 66 #[] #[])
  fields := #[]
  methods := #[k6m0, k6m1]
  instanceTypes := #[]
  staticTypes := #[]
  resolved := Array.replicate 131 none
  statics := none }

def pool7 : Array CpInfo := pool [(1, .class_ 2), (0, u "java/lang/constant/Constable"), (0, .class_ 4), (0, u "java/lang/Object")] 6

/-- java/lang/constant/Constable -/
def k7 : Class := { plain "java/lang/constant/Constable" (some 0) with
  accessFlags := 1537
  interfaces := #[]
  cf := some (fileOf pool7 1 #[] #[] 1537 3 #[] #[])
  fields := #[]
  methods := #[]
  instanceTypes := #[]
  staticTypes := #[]
  resolved := Array.replicate 11 none
  statics := none }

def pool8 : Array CpInfo := pool [(1, .class_ 2), (0, u "java/lang/constant/ConstantDesc"), (0, .class_ 4), (0, u "java/lang/Object")] 32

/-- java/lang/constant/ConstantDesc -/
def k8 : Class := { plain "java/lang/constant/ConstantDesc" (some 0) with
  accessFlags := 1537
  interfaces := #[]
  cf := some (fileOf pool8 1 #[] #[] 1537 3 #[] #[])
  fields := #[]
  methods := #[]
  instanceTypes := #[]
  staticTypes := #[]
  resolved := Array.replicate 37 none
  statics := none }

def pool9 : Array CpInfo := pool [(1, .methodref 2 3), (0, .class_ 4), (0, .nameAndType 5 6), (0, u "java/lang/Object"), (0, u "<init>"), (0, u "()V"), (2, .fieldref 10 11), (0, .class_ 12), (0, .nameAndType 13 14), (0, u "java/lang/String"), (0, u "value"), (0, u "[B"), (0, .fieldref 10 16), (0, .nameAndType 17 18), (0, u "coder"), (0, u "B"), (2, u "hash"), (0, u "I"), (2, u "hashIsZero"), (0, u "Z"), (0, .methodref 10 28), (0, .nameAndType 5 29), (0, u "([CIILjava/lang/Void;)V"), (6, u "checkBoundsOffCount"), (0, u "(III)I"), (0, .fieldref 10 39), (0, .nameAndType 40 26), (0, u "COMPACT_STRINGS"), (1, .class_ 44), (1, u "java/lang/StringUTF16"), (0, u "compress"), (1, .methodref 42 48), (0, .nameAndType 49 50), (0, u "coderFromArrayLen"), (0, u "([BI)B"), (56, .class_ 109), (1, u "java/lang/StringLatin1"), (32, u "()Z"), (34, .methodref 42 178), (0, .nameAndType 45 179), (0, u "([CII)[B"), (31, u "([BB)V"), (122, u "()I"), (0, .methodref 10 336), (0, .nameAndType 17 337), (0, u "()B"), (25, u "([BI)C"), (1, .class_ 367), (1, u "java/lang/Character"), (23, u "(II)V"), (35, u "(I)C"), (64, .methodref 10 493), (0, .nameAndType 494 142), (0, u "isLatin1"), (0, .methodref 107 496), (0, .nameAndType 497 363), (0, u "charAt"), (0, .methodref 42 496), (2, u "checkIndex"), (3, .methodref 10 506), (0, .nameAndType 507 334), (0, u "length"), (5, u "checkFromToIndex"), (3, .methodref 365 518), (0, .nameAndType 519 520), (0, u "offsetByCodePoints"), (0, u "(Ljava/lang/CharSequence;II)I"), (0, .methodref 10 522), (0, .nameAndType 523 524), (0, u "checkBoundsBeginEnd"), (0, u "(III)V"), (50, .class_ 576), (0, u "java/lang/CharSequence"), (22, u "CASE_INSENSITIVE_ORDER"), (0, u "Ljava/util/Comparator;"), (35, u "(II)I"), (46, u "substring"), (0, u "(II)Ljava/lang/String;"), (0, .methodref 107 686), (0, .nameAndType 687 688), (0, u "newString"), (0, u "([BII)Ljava/lang/String;"), (0, .methodref 42 686), (320, u "([C)V"), (42, .fieldref 1054 1055), (0, .class_ 1056), (0, .nameAndType 1057 1058), (0, u "jdk/internal/util/Preconditions"), (0, u "SIOOBE_FORMATTER"), (0, u "Ljava/util/function/BiFunction;"), (0, .methodref 1054 1060), (0, .nameAndType 501 1061), (0, u "(IILjava/util/function/BiFunction;)I"), (0, .methodref 1054 1063), (0, .nameAndType 513 1064), (0, u "(IIILjava/util/function/BiFunction;)I"), (0, .methodref 1054 1066), (0, .nameAndType 1067 1064), (0, u "checkFromIndexSize"), (33, u "serialPersistentFields"), (0, u "[Ljava/io/ObjectStreamField;"), (0, .class_ 1104), (0, u "java/lang/String$CaseInsensitiveComparator"), (1, .class_ 1107), (0, u "java/io/Serializable"), (0, .class_ 1109), (0, u "java/lang/Comparable"), (0, .class_ 1111), (0, u "java/lang/constant/Constable"), (0, .class_ 1113), (0, u "java/lang/constant/ConstantDesc"), (2, u "serialVersionUID"), (0, u "J"), (3, u "REPL"), (0, u "C"), (2, u "LATIN1"), (1, u "UTF16")] 323

def k9m0 : Method := { name := "<init>", desc := "()V", sig := { parameters := [], returnType := none }, accessFlags := 1, code := none }
def k9c1 : Code := { maxStack := 5, maxLocals := 2, code := jdk_42_method_3_code, exceptionTable := #[], attributes := #[] }
def k9m1 : Method := { name := "<init>", desc := "([C)V", sig := { parameters := [(.array .char)], returnType := none }, accessFlags := 1, code := some k9c1 }
def k9c2 : Code := { maxStack := 2, maxLocals := 1, code := jdk_42_method_54_code, exceptionTable := #[], attributes := #[] }
def k9m2 : Method := { name := "length", desc := "()I", sig := { parameters := [], returnType := some .int }, accessFlags := 1, code := some k9c2 }
def k9c3 : Code := { maxStack := 2, maxLocals := 2, code := jdk_42_method_56_code, exceptionTable := #[], attributes := #[] }
def k9m3 : Method := { name := "charAt", desc := "(I)C", sig := { parameters := [.int], returnType := some .char }, accessFlags := 1, code := some k9c3 }
def k9c4 : Code := { maxStack := 3, maxLocals := 3, code := jdk_42_method_60_code, exceptionTable := #[], attributes := #[] }
def k9m4 : Method := { name := "offsetByCodePoints", desc := "(II)I", sig := { parameters := [.int, .int], returnType := some .int }, accessFlags := 1, code := some k9c4 }
def k9c5 : Code := { maxStack := 3, maxLocals := 5, code := jdk_42_method_92_code, exceptionTable := #[], attributes := #[] }
def k9m5 : Method := { name := "substring", desc := "(II)Ljava/lang/String;", sig := { parameters := [.int, .int], returnType := some (.object "java/lang/String") }, accessFlags := 1, code := some k9c5 }
def k9c6 : Code := { maxStack := 4, maxLocals := 6, code := jdk_42_method_149_code, exceptionTable := #[], attributes := #[] }
def k9m6 : Method := { name := "<init>", desc := "([CIILjava/lang/Void;)V", sig := { parameters := [(.array .char), .int, .int, (.object "java/lang/Void")], returnType := none }, accessFlags := 2, code := some k9c6 }
def k9c7 : Code := { maxStack := 2, maxLocals := 3, code := jdk_42_method_151_code, exceptionTable := #[], attributes := #[] }
def k9m7 : Method := { name := "<init>", desc := "([BB)V", sig := { parameters := [(.array .byte), .byte], returnType := none }, accessFlags := 0, code := some k9c7 }
def k9c8 : Code := { maxStack := 1, maxLocals := 1, code := jdk_42_method_152_code, exceptionTable := #[], attributes := #[] }
def k9m8 : Method := { name := "coder", desc := "()B", sig := { parameters := [], returnType := some .byte }, accessFlags := 0, code := some k9c8 }
def k9c9 : Code := { maxStack := 1, maxLocals := 1, code := jdk_42_method_154_code, exceptionTable := #[], attributes := #[] }
def k9m9 : Method := { name := "isLatin1", desc := "()Z", sig := { parameters := [], returnType := some .boolean }, accessFlags := 0, code := some k9c9 }
def k9c10 : Code := { maxStack := 3, maxLocals := 2, code := jdk_42_method_155_code, exceptionTable := #[], attributes := #[] }
def k9m10 : Method := { name := "checkIndex", desc := "(II)V", sig := { parameters := [.int, .int], returnType := none }, accessFlags := 8, code := some k9c10 }
def k9c11 : Code := { maxStack := 4, maxLocals := 3, code := jdk_42_method_157_code, exceptionTable := #[], attributes := #[] }
def k9m11 : Method := { name := "checkBoundsOffCount", desc := "(III)I", sig := { parameters := [.int, .int, .int], returnType := some .int }, accessFlags := 8, code := some k9c11 }
def k9c12 : Code := { maxStack := 4, maxLocals := 3, code := jdk_42_method_158_code, exceptionTable := #[], attributes := #[] }
def k9m12 : Method := { name := "checkBoundsBeginEnd", desc := "(III)V", sig := { parameters := [.int, .int, .int], returnType := none }, accessFlags := 8, code := some k9c12 }
/-- java/lang/String -/
def k9 : Class := { plain "java/lang/String" (some 0) with
  accessFlags := 49
  interfaces := #[4, 5, 6, 7, 8]
  cf := some (fileOf pool9 10 #[.nestMembers #[1103]] #[{ accessFlags := 1, nameIndex := 5, descriptorIndex := 6, attributes := #[] }, { accessFlags := 1, nameIndex := 5, descriptorIndex := 1010, attributes := #[] }, { accessFlags := 1, nameIndex := 507, descriptorIndex := 334, attributes := #[] }, { accessFlags := 1, nameIndex := 497, descriptorIndex := 427, attributes := #[] }, { accessFlags := 1, nameIndex := 519, descriptorIndex := 636, attributes := #[] }, { accessFlags := 1, nameIndex := 683, descriptorIndex := 684, attributes := #[] }, { accessFlags := 2, nameIndex := 5, descriptorIndex := 29, attributes := #[] }, { accessFlags := 0, nameIndex := 5, descriptorIndex := 211, attributes := #[] }, { accessFlags := 0, nameIndex := 17, descriptorIndex := 337, attributes := #[] }, { accessFlags := 0, nameIndex := 494, descriptorIndex := 142, attributes := #[] }, { accessFlags := 8, nameIndex := 501, descriptorIndex := 391, attributes := #[] }, { accessFlags := 8, nameIndex := 36, descriptorIndex := 37, attributes := #[] }, { accessFlags := 8, nameIndex := 523, descriptorIndex := 524, attributes := #[] }] 49 2 #[1106, 1108, 575, 1110, 1112] #[{ accessFlags := 18, nameIndex := 13, descriptorIndex := 14, attributes := #[] }, { accessFlags := 18, nameIndex := 17, descriptorIndex := 18, attributes := #[] }, { accessFlags := 2, nameIndex := 21, descriptorIndex := 22, attributes := #[] }, { accessFlags := 2, nameIndex := 25, descriptorIndex := 26, attributes := #[] }, { accessFlags := 26, nameIndex := 1116, descriptorIndex := 1117, attributes := #[] }, { accessFlags := 24, nameIndex := 40, descriptorIndex := 26, attributes := #[] }, { accessFlags := 26, nameIndex := 1101, descriptorIndex := 1102, attributes := #[] }, { accessFlags := 26, nameIndex := 1121, descriptorIndex := 1122, attributes := #[] }, { accessFlags := 25, nameIndex := 599, descriptorIndex := 600, attributes := #[] }, { accessFlags := 24, nameIndex := 1125, descriptorIndex := 18, attributes := #[] }, { accessFlags := 24, nameIndex := 1127, descriptorIndex := 18, attributes := #[] }])
  fields := #[{ name := "value", type := (.array .byte), accessFlags := 18, slot := 0, constantValue := 0 }, { name := "coder", type := .byte, accessFlags := 18, slot := 1, constantValue := 0 }, { name := "hash", type := .int, accessFlags := 2, slot := 2, constantValue := 0 }, { name := "hashIsZero", type := .boolean, accessFlags := 2, slot := 3, constantValue := 0 }, { name := "serialVersionUID", type := .long, accessFlags := 26, slot := 0, constantValue := 0 }, { name := "COMPACT_STRINGS", type := .boolean, accessFlags := 24, slot := 1, constantValue := 0 }, { name := "serialPersistentFields", type := (.array (.object "java/io/ObjectStreamField")), accessFlags := 26, slot := 2, constantValue := 0 }, { name := "REPL", type := .char, accessFlags := 26, slot := 3, constantValue := 0 }, { name := "CASE_INSENSITIVE_ORDER", type := (.object "java/util/Comparator"), accessFlags := 25, slot := 4, constantValue := 0 }, { name := "LATIN1", type := .byte, accessFlags := 24, slot := 5, constantValue := 0 }, { name := "UTF16", type := .byte, accessFlags := 24, slot := 6, constantValue := 0 }]
  methods := #[k9m0, k9m1, k9m2, k9m3, k9m4, k9m5, k9m6, k9m7, k9m8, k9m9, k9m10, k9m11, k9m12]
  instanceTypes := #[(.array .byte), .byte, .int, .boolean]
  staticTypes := #[.long, .boolean, (.array (.object "java/io/ObjectStreamField")), .char, (.object "java/util/Comparator"), .byte, .byte]
  resolved := Array.replicate 1451 none
  statics := some 0 }

def pool10 : Array CpInfo := pool [(3, .class_ 4), (0, u "java/lang/String"), (1, .class_ 8), (1, u "java/lang/Object"), (0, u "<init>"), (0, u "()V"), (0, .methodref 12 13), (0, .class_ 14), (0, .nameAndType 15 16), (0, u "java/lang/StringUTF16"), (0, u "newBytesLength"), (0, u "(I)I"), (3, .integer 1073741823), (23, .fieldref 12 45), (0, .nameAndType 46 47), (0, u "$assertionsDisabled"), (0, u "Z"), (0, .methodref 12 49), (0, .nameAndType 50 51), (0, u "length"), (0, u "([B)I"), (7, .fieldref 12 60), (0, .nameAndType 61 62), (0, u "HI_BYTE_SHIFT"), (0, u "I"), (0, .fieldref 12 64), (0, .nameAndType 65 62), (0, u "LO_BYTE_SHIFT"), (1, .methodref 12 68), (0, .nameAndType 69 70), (0, u "checkIndex"), (0, u "(I[B)V"), (0, .methodref 12 72), (0, .nameAndType 73 74), (0, u "getChar"), (0, u "([BI)C"), (24, u "(II[B)V"), (7, .methodref 12 108), (0, .nameAndType 109 110), (0, u "newBytesFor"), (0, u "(I)[B"), (0, .methodref 12 112), (0, .nameAndType 113 114), (0, u "putChar"), (0, u "([BII)V"), (0, .methodref 12 116), (0, .nameAndType 117 118), (0, u "compress"), (0, u "([CI[BII)I"), (0, .methodref 12 120), (0, .nameAndType 121 122), (0, u "toBytes"), (0, u "([CII)[B"), (0, .methodref 12 124), (0, .nameAndType 117 125), (0, u "([BI[BII)I"), (0, .methodref 127 128), (0, .class_ 129), (0, .nameAndType 130 131), (0, u "java/util/Arrays"), (0, u "copyOfRange"), (0, u "([BII)[B"), (41, .methodref 12 174), (0, .nameAndType 175 99), (0, u "checkBoundsOffCount"), (75, .fieldref 3 252), (0, .nameAndType 253 47), (0, u "COMPACT_STRINGS"), (3, .methodref 12 258), (0, .nameAndType 117 131), (0, .methodref 12 260), (0, .nameAndType 261 262), (0, u "coderFromArrayLen"), (0, u "([BI)B"), (0, .methodref 3 264), (0, .nameAndType 9 265), (0, u "([BB)V"), (15, u "(III)I"), (13, .string 296), (0, u ""), (30, u "newString"), (0, u "([BII)Ljava/lang/String;"), (40, .class_ 371), (1, u "java/lang/StringUTF16$LinesSpliterator"), (20, u "charAt"), (21, .methodref 3 415), (0, .nameAndType 69 416), (0, u "(II)V"), (2, .methodref 3 420), (0, .nameAndType 175 281), (9, u "MAX_LENGTH"), (196, .class_ 628), (0, u "java/lang/StringUTF16$CodePointsSpliterator"), (0, .class_ 630), (0, u "java/lang/StringUTF16$CharsSpliterator")] 4

def k10m0 : Method := { name := "<init>", desc := "()V", sig := { parameters := [], returnType := none }, accessFlags := 0, code := none }
def k10c1 : Code := { maxStack := 1, maxLocals := 1, code := jdk_52_method_2_code, exceptionTable := #[], attributes := #[] }
def k10m1 : Method := { name := "newBytesFor", desc := "(I)[B", sig := { parameters := [.int], returnType := some (.array .byte) }, accessFlags := 9, code := some k10c1 }
def k10c2 : Code := { maxStack := 4, maxLocals := 1, code := jdk_52_method_3_code, exceptionTable := #[], attributes := #[] }
def k10m2 : Method := { name := "newBytesLength", desc := "(I)I", sig := { parameters := [.int], returnType := some .int }, accessFlags := 9, code := some k10c2 }
def k10c3 : Code := { maxStack := 4, maxLocals := 3, code := jdk_52_method_4_code, exceptionTable := #[], attributes := #[] }
def k10m3 : Method := { name := "putChar", desc := "([BII)V", sig := { parameters := [(.array .byte), .int, .int], returnType := none }, accessFlags := 8, code := some k10c3 }
def k10c4 : Code := { maxStack := 3, maxLocals := 2, code := jdk_52_method_5_code, exceptionTable := #[], attributes := #[] }
def k10m4 : Method := { name := "getChar", desc := "([BI)C", sig := { parameters := [(.array .byte), .int], returnType := some .char }, accessFlags := 8, code := some k10c4 }
def k10c5 : Code := { maxStack := 2, maxLocals := 1, code := jdk_52_method_6_code, exceptionTable := #[], attributes := #[] }
def k10m5 : Method := { name := "length", desc := "([B)I", sig := { parameters := [(.array .byte)], returnType := some .int }, accessFlags := 9, code := some k10c5 }
def k10c6 : Code := { maxStack := 4, maxLocals := 5, code := jdk_52_method_14_code, exceptionTable := #[], attributes := #[] }
def k10m6 : Method := { name := "toBytes", desc := "([CII)[B", sig := { parameters := [(.array .char), .int, .int], returnType := some (.array .byte) }, accessFlags := 9, code := some k10c6 }
def k10c7 : Code := { maxStack := 2, maxLocals := 2, code := jdk_52_method_15_code, exceptionTable := #[], attributes := #[] }
def k10m7 : Method := { name := "coderFromArrayLen", desc := "([BI)B", sig := { parameters := [(.array .byte), .int], returnType := some .byte }, accessFlags := 8, code := some k10c7 }
def k10c8 : Code := { maxStack := 5, maxLocals := 6, code := jdk_52_method_16_code, exceptionTable := #[], attributes := #[] }
def k10m8 : Method := { name := "compress", desc := "([CII)[B", sig := { parameters := [(.array .char), .int, .int], returnType := some (.array .byte) }, accessFlags := 9, code := some k10c8 }
def k10c9 : Code := { maxStack := 5, maxLocals := 6, code := jdk_52_method_17_code, exceptionTable := #[], attributes := #[] }
def k10m9 : Method := { name := "compress", desc := "([BII)[B", sig := { parameters := [(.array .byte), .int, .int], returnType := some (.array .byte) }, accessFlags := 9, code := some k10c9 }
def k10c10 : Code := { maxStack := 3, maxLocals := 7, code := jdk_52_method_21_code, exceptionTable := #[], attributes := #[] }
def k10m10 : Method := { name := "compress", desc := "([CI[BII)I", sig := { parameters := [(.array .char), .int, (.array .byte), .int, .int], returnType := some .int }, accessFlags := 9, code := some k10c10 }
def k10c11 : Code := { maxStack := 3, maxLocals := 7, code := jdk_52_method_22_code, exceptionTable := #[], attributes := #[] }
def k10m11 : Method := { name := "compress", desc := "([BI[BII)I", sig := { parameters := [(.array .byte), .int, (.array .byte), .int, .int], returnType := some .int }, accessFlags := 9, code := some k10c11 }
def k10c12 : Code := { maxStack := 6, maxLocals := 5, code := jdk_52_method_69_code, exceptionTable := #[], attributes := #[] }
def k10m12 : Method := { name := "newString", desc := "([BII)Ljava/lang/String;", sig := { parameters := [(.array .byte), .int, .int], returnType := some (.object "java/lang/String") }, accessFlags := 9, code := some k10c12 }
def k10c13 : Code := { maxStack := 2, maxLocals := 2, code := jdk_52_method_83_code, exceptionTable := #[], attributes := #[] }
def k10m13 : Method := { name := "charAt", desc := "([BI)C", sig := { parameters := [(.array .byte), .int], returnType := some .char }, accessFlags := 9, code := some k10c13 }
def k10c14 : Code := { maxStack := 2, maxLocals := 2, code := jdk_52_method_91_code, exceptionTable := #[], attributes := #[] }
def k10m14 : Method := { name := "checkIndex", desc := "(I[B)V", sig := { parameters := [.int, (.array .byte)], returnType := none }, accessFlags := 9, code := some k10c14 }
def k10c15 : Code := { maxStack := 3, maxLocals := 3, code := jdk_52_method_94_code, exceptionTable := #[], attributes := #[] }
def k10m15 : Method := { name := "checkBoundsOffCount", desc := "(II[B)V", sig := { parameters := [.int, .int, (.array .byte)], returnType := none }, accessFlags := 9, code := some k10c15 }
/-- java/lang/StringUTF16 -/
def k10 : Class := { plain "java/lang/StringUTF16" (some 0) with
  accessFlags := 48
  interfaces := #[]
  cf := some (fileOf pool10 12 #[.nestMembers #[627, 629, 369]] #[{ accessFlags := 0, nameIndex := 9, descriptorIndex := 10, attributes := #[] }, { accessFlags := 9, nameIndex := 109, descriptorIndex := 110, attributes := #[] }, { accessFlags := 9, nameIndex := 15, descriptorIndex := 16, attributes := #[] }, { accessFlags := 8, nameIndex := 113, descriptorIndex := 114, attributes := #[] }, { accessFlags := 8, nameIndex := 73, descriptorIndex := 74, attributes := #[] }, { accessFlags := 9, nameIndex := 50, descriptorIndex := 51, attributes := #[] }, { accessFlags := 9, nameIndex := 121, descriptorIndex := 122, attributes := #[] }, { accessFlags := 8, nameIndex := 261, descriptorIndex := 262, attributes := #[] }, { accessFlags := 9, nameIndex := 117, descriptorIndex := 122, attributes := #[] }, { accessFlags := 9, nameIndex := 117, descriptorIndex := 131, attributes := #[] }, { accessFlags := 9, nameIndex := 117, descriptorIndex := 118, attributes := #[] }, { accessFlags := 9, nameIndex := 117, descriptorIndex := 125, attributes := #[] }, { accessFlags := 9, nameIndex := 327, descriptorIndex := 328, attributes := #[] }, { accessFlags := 9, nameIndex := 392, descriptorIndex := 74, attributes := #[] }, { accessFlags := 9, nameIndex := 69, descriptorIndex := 70, attributes := #[] }, { accessFlags := 9, nameIndex := 175, descriptorIndex := 99, attributes := #[] }] 48 6 #[] #[{ accessFlags := 26, nameIndex := 61, descriptorIndex := 62, attributes := #[] }, { accessFlags := 26, nameIndex := 65, descriptorIndex := 62, attributes := #[] }, { accessFlags := 24, nameIndex := 430, descriptorIndex := 62, attributes := #[] }, { accessFlags := 4120, nameIndex := 46, descriptorIndex := 47, attributes := #[] }])
  fields := #[{ name := "HI_BYTE_SHIFT", type := .int, accessFlags := 26, slot := 0, constantValue := 0 }, { name := "LO_BYTE_SHIFT", type := .int, accessFlags := 26, slot := 1, constantValue := 0 }, { name := "MAX_LENGTH", type := .int, accessFlags := 24, slot := 2, constantValue := 0 }, { name := "$assertionsDisabled", type := .boolean, accessFlags := 4120, slot := 3, constantValue := 0 }]
  methods := #[k10m0, k10m1, k10m2, k10m3, k10m4, k10m5, k10m6, k10m7, k10m8, k10m9, k10m10, k10m11, k10m12, k10m13, k10m14, k10m15]
  instanceTypes := #[]
  staticTypes := #[.int, .int, .int, .boolean]
  resolved := Array.replicate 635 none
  statics := some 1 }

def pool11 : Array CpInfo := pool [(1, .class_ 2), (0, u "java/lang/Character"), (18, u "value"), (0, u "C"), (19, .class_ 44), (1, u "java/lang/Object"), (3, .class_ 50), (1, u "java/lang/Character$CharacterCache"), (24, .integer 55296), (0, .integer 56320), (0, .integer 57344), (0, .methodref 1 79), (0, .nameAndType 80 81), (0, u "isHighSurrogate"), (0, u "(C)Z"), (0, .methodref 1 83), (0, .nameAndType 84 81), (0, u "isLowSurrogate"), (1, .interfaceMethodref 87 88), (0, .class_ 89), (0, .nameAndType 90 91), (0, u "java/lang/CharSequence"), (0, u "charAt"), (0, u "(I)C"), (0, .interfaceMethodref 87 93), (0, .nameAndType 94 95), (0, u "length"), (0, u "()I"), (188, u "$assertionsDisabled"), (0, u "Z"), (21, .class_ 309), (1, u "java/lang/Character$UnicodeBlock"), (73, u "TYPE"), (0, u "Ljava/lang/Class;"), (0, .class_ 386), (0, u "java/io/Serializable"), (0, .class_ 388), (0, u "java/lang/Comparable"), (0, .class_ 390), (0, u "java/lang/constant/Constable"), (0, u "MIN_RADIX"), (0, u "I"), (2, u "MAX_RADIX"), (1, u "MIN_VALUE"), (1, u "MAX_VALUE"), (3, u "UNASSIGNED"), (0, u "B"), (0, u "UPPERCASE_LETTER"), (1, u "LOWERCASE_LETTER"), (0, u "TITLECASE_LETTER"), (1, u "MODIFIER_LETTER"), (1, u "OTHER_LETTER"), (1, u "NON_SPACING_MARK"), (1, u "ENCLOSING_MARK"), (1, u "COMBINING_SPACING_MARK"), (1, u "DECIMAL_DIGIT_NUMBER"), (1, u "LETTER_NUMBER"), (1, u "OTHER_NUMBER"), (1, u "SPACE_SEPARATOR"), (1, u "LINE_SEPARATOR"), (1, u "PARAGRAPH_SEPARATOR"), (1, u "CONTROL"), (1, u "FORMAT"), (1, u "PRIVATE_USE"), (1, u "SURROGATE"), (1, u "DASH_PUNCTUATION"), (1, u "START_PUNCTUATION"), (1, u "END_PUNCTUATION"), (1, u "CONNECTOR_PUNCTUATION"), (1, u "OTHER_PUNCTUATION"), (1, u "MATH_SYMBOL"), (1, u "CURRENCY_SYMBOL"), (1, u "MODIFIER_SYMBOL"), (1, u "OTHER_SYMBOL"), (1, u "INITIAL_QUOTE_PUNCTUATION"), (1, u "FINAL_QUOTE_PUNCTUATION"), (1, u "ERROR"), (1, u "DIRECTIONALITY_UNDEFINED"), (0, u "DIRECTIONALITY_LEFT_TO_RIGHT"), (0, u "DIRECTIONALITY_RIGHT_TO_LEFT"), (0, u "DIRECTIONALITY_RIGHT_TO_LEFT_ARABIC"), (0, u "DIRECTIONALITY_EUROPEAN_NUMBER"), (0, u "DIRECTIONALITY_EUROPEAN_NUMBER_SEPARATOR"), (0, u "DIRECTIONALITY_EUROPEAN_NUMBER_TERMINATOR"), (0, u "DIRECTIONALITY_ARABIC_NUMBER"), (0, u "DIRECTIONALITY_COMMON_NUMBER_SEPARATOR"), (0, u "DIRECTIONALITY_NONSPACING_MARK"), (0, u "DIRECTIONALITY_BOUNDARY_NEUTRAL"), (0, u "DIRECTIONALITY_PARAGRAPH_SEPARATOR"), (0, u "DIRECTIONALITY_SEGMENT_SEPARATOR"), (0, u "DIRECTIONALITY_WHITESPACE"), (0, u "DIRECTIONALITY_OTHER_NEUTRALS"), (0, u "DIRECTIONALITY_LEFT_TO_RIGHT_EMBEDDING"), (0, u "DIRECTIONALITY_LEFT_TO_RIGHT_OVERRIDE"), (0, u "DIRECTIONALITY_RIGHT_TO_LEFT_EMBEDDING"), (0, u "DIRECTIONALITY_RIGHT_TO_LEFT_OVERRIDE"), (1, u "DIRECTIONALITY_POP_DIRECTIONAL_FORMAT"), (0, u "DIRECTIONALITY_LEFT_TO_RIGHT_ISOLATE"), (0, u "DIRECTIONALITY_RIGHT_TO_LEFT_ISOLATE"), (0, u "DIRECTIONALITY_FIRST_STRONG_ISOLATE"), (0, u "DIRECTIONALITY_POP_DIRECTIONAL_ISOLATE"), (0, u "MIN_HIGH_SURROGATE"), (0, u "MAX_HIGH_SURROGATE"), (1, u "MIN_LOW_SURROGATE"), (0, u "MAX_LOW_SURROGATE"), (1, u "MIN_SURROGATE"), (0, u "MAX_SURROGATE"), (0, u "MIN_SUPPLEMENTARY_CODE_POINT"), (0, u "MIN_CODE_POINT"), (0, u "MAX_CODE_POINT"), (1, u "serialVersionUID"), (0, u "J"), (2, u "SIZE"), (0, u "BYTES"), (49, u "(Ljava/lang/CharSequence;II)I"), (6, u "offsetByCodePoints"), (31, .class_ 596), (0, u "java/lang/Character$UnicodeScript"), (0, .class_ 598), (0, u "java/lang/Character$Subset")] 5

def k11c0 : Code := { maxStack := 2, maxLocals := 1, code := jdk_89_method_14_code, exceptionTable := #[], attributes := #[] }
def k11m0 : Method := { name := "isHighSurrogate", desc := "(C)Z", sig := { parameters := [.char], returnType := some .boolean }, accessFlags := 9, code := some k11c0 }
def k11c1 : Code := { maxStack := 2, maxLocals := 1, code := jdk_89_method_15_code, exceptionTable := #[], attributes := #[] }
def k11m1 : Method := { name := "isLowSurrogate", desc := "(C)Z", sig := { parameters := [.char], returnType := some .boolean }, accessFlags := 9, code := some k11c1 }
def k11c2 : Code := { maxStack := 3, maxLocals := 6, code := jdk_89_method_36_code, exceptionTable := #[], attributes := #[] }
def k11m2 : Method := { name := "offsetByCodePoints", desc := "(Ljava/lang/CharSequence;II)I", sig := { parameters := [(.object "java/lang/CharSequence"), .int, .int], returnType := some .int }, accessFlags := 9, code := some k11c2 }
/-- java/lang/Character -/
def k11 : Class := { plain "java/lang/Character" (some 0) with
  accessFlags := 49
  interfaces := #[4, 5, 7]
  cf := some (fileOf pool11 1 #[.nestMembers #[48, 595, 307, 597]] #[{ accessFlags := 9, nameIndex := 80, descriptorIndex := 81, attributes := #[] }, { accessFlags := 9, nameIndex := 84, descriptorIndex := 81, attributes := #[] }, { accessFlags := 9, nameIndex := 563, descriptorIndex := 556, attributes := #[] }] 49 42 #[385, 387, 389] #[{ accessFlags := 25, nameIndex := 391, descriptorIndex := 392, attributes := #[] }, { accessFlags := 25, nameIndex := 395, descriptorIndex := 392, attributes := #[] }, { accessFlags := 25, nameIndex := 397, descriptorIndex := 22, attributes := #[] }, { accessFlags := 25, nameIndex := 399, descriptorIndex := 22, attributes := #[] }, { accessFlags := 25, nameIndex := 383, descriptorIndex := 384, attributes := #[] }, { accessFlags := 25, nameIndex := 403, descriptorIndex := 404, attributes := #[] }, { accessFlags := 25, nameIndex := 405, descriptorIndex := 404, attributes := #[] }, { accessFlags := 25, nameIndex := 407, descriptorIndex := 404, attributes := #[] }, { accessFlags := 25, nameIndex := 408, descriptorIndex := 404, attributes := #[] }, { accessFlags := 25, nameIndex := 410, descriptorIndex := 404, attributes := #[] }, { accessFlags := 25, nameIndex := 412, descriptorIndex := 404, attributes := #[] }, { accessFlags := 25, nameIndex := 414, descriptorIndex := 404, attributes := #[] }, { accessFlags := 25, nameIndex := 416, descriptorIndex := 404, attributes := #[] }, { accessFlags := 25, nameIndex := 418, descriptorIndex := 404, attributes := #[] }, { accessFlags := 25, nameIndex := 420, descriptorIndex := 404, attributes := #[] }, { accessFlags := 25, nameIndex := 422, descriptorIndex := 404, attributes := #[] }, { accessFlags := 25, nameIndex := 424, descriptorIndex := 404, attributes := #[] }, { accessFlags := 25, nameIndex := 426, descriptorIndex := 404, attributes := #[] }, { accessFlags := 25, nameIndex := 428, descriptorIndex := 404, attributes := #[] }, { accessFlags := 25, nameIndex := 430, descriptorIndex := 404, attributes := #[] }, { accessFlags := 25, nameIndex := 432, descriptorIndex := 404, attributes := #[] }, { accessFlags := 25, nameIndex := 434, descriptorIndex := 404, attributes := #[] }, { accessFlags := 25, nameIndex := 436, descriptorIndex := 404, attributes := #[] }, { accessFlags := 25, nameIndex := 438, descriptorIndex := 404, attributes := #[] }, { accessFlags := 25, nameIndex := 440, descriptorIndex := 404, attributes := #[] }, { accessFlags := 25, nameIndex := 442, descriptorIndex := 404, attributes := #[] }, { accessFlags := 25, nameIndex := 444, descriptorIndex := 404, attributes := #[] }, { accessFlags := 25, nameIndex := 446, descriptorIndex := 404, attributes := #[] }, { accessFlags := 25, nameIndex := 448, descriptorIndex := 404, attributes := #[] }, { accessFlags := 25, nameIndex := 450, descriptorIndex := 404, attributes := #[] }, { accessFlags := 25, nameIndex := 452, descriptorIndex := 404, attributes := #[] }, { accessFlags := 25, nameIndex := 454, descriptorIndex := 404, attributes := #[] }, { accessFlags := 25, nameIndex := 456, descriptorIndex := 404, attributes := #[] }, { accessFlags := 25, nameIndex := 458, descriptorIndex := 404, attributes := #[] }, { accessFlags := 25, nameIndex := 460, descriptorIndex := 404, attributes := #[] }, { accessFlags := 24, nameIndex := 462, descriptorIndex := 392, attributes := #[] }, { accessFlags := 25, nameIndex := 464, descriptorIndex := 404, attributes := #[] }, { accessFlags := 25, nameIndex := 465, descriptorIndex := 404, attributes := #[] }, { accessFlags := 25, nameIndex := 466, descriptorIndex := 404, attributes := #[] }, { accessFlags := 25, nameIndex := 467, descriptorIndex := 404, attributes := #[] }, { accessFlags := 25, nameIndex := 468, descriptorIndex := 404, attributes := #[] }, { accessFlags := 25, nameIndex := 469, descriptorIndex := 404, attributes := #[] }, { accessFlags := 25, nameIndex := 470, descriptorIndex := 404, attributes := #[] }, { accessFlags := 25, nameIndex := 471, descriptorIndex := 404, attributes := #[] }, { accessFlags := 25, nameIndex := 472, descriptorIndex := 404, attributes := #[] }, { accessFlags := 25, nameIndex := 473, descriptorIndex := 404, attributes := #[] }, { accessFlags := 25, nameIndex := 474, descriptorIndex := 404, attributes := #[] }, { accessFlags := 25, nameIndex := 475, descriptorIndex := 404, attributes := #[] }, { accessFlags := 25, nameIndex := 476, descriptorIndex := 404, attributes := #[] }, { accessFlags := 25, nameIndex := 477, descriptorIndex := 404, attributes := #[] }, { accessFlags := 25, nameIndex := 478, descriptorIndex := 404, attributes := #[] }, { accessFlags := 25, nameIndex := 479, descriptorIndex := 404, attributes := #[] }, { accessFlags := 25, nameIndex := 480, descriptorIndex := 404, attributes := #[] }, { accessFlags := 25, nameIndex := 481, descriptorIndex := 404, attributes := #[] }, { accessFlags := 25, nameIndex := 482, descriptorIndex := 404, attributes := #[] }, { accessFlags := 25, nameIndex := 484, descriptorIndex := 404, attributes := #[] }, { accessFlags := 25, nameIndex := 485, descriptorIndex := 404, attributes := #[] }, { accessFlags := 25, nameIndex := 486, descriptorIndex := 404, attributes := #[] }, { accessFlags := 25, nameIndex := 487, descriptorIndex := 404, attributes := #[] }, { accessFlags := 25, nameIndex := 488, descriptorIndex := 404, attributes := #[] }, { accessFlags := 25, nameIndex := 489, descriptorIndex := 22, attributes := #[] }, { accessFlags := 25, nameIndex := 490, descriptorIndex := 22, attributes := #[] }, { accessFlags := 25, nameIndex := 492, descriptorIndex := 22, attributes := #[] }, { accessFlags := 25, nameIndex := 493, descriptorIndex := 22, attributes := #[] }, { accessFlags := 25, nameIndex := 495, descriptorIndex := 22, attributes := #[] }, { accessFlags := 25, nameIndex := 496, descriptorIndex := 22, attributes := #[] }, { accessFlags := 25, nameIndex := 497, descriptorIndex := 392, attributes := #[] }, { accessFlags := 25, nameIndex := 498, descriptorIndex := 392, attributes := #[] }, { accessFlags := 25, nameIndex := 499, descriptorIndex := 392, attributes := #[] }, { accessFlags := 18, nameIndex := 21, descriptorIndex := 22, attributes := #[] }, { accessFlags := 26, nameIndex := 501, descriptorIndex := 502, attributes := #[] }, { accessFlags := 25, nameIndex := 505, descriptorIndex := 392, attributes := #[] }, { accessFlags := 25, nameIndex := 506, descriptorIndex := 392, attributes := #[] }, { accessFlags := 4120, nameIndex := 284, descriptorIndex := 285, attributes := #[] }])
  fields := #[{ name := "MIN_RADIX", type := .int, accessFlags := 25, slot := 0, constantValue := 0 }, { name := "MAX_RADIX", type := .int, accessFlags := 25, slot := 1, constantValue := 0 }, { name := "MIN_VALUE", type := .char, accessFlags := 25, slot := 2, constantValue := 0 }, { name := "MAX_VALUE", type := .char, accessFlags := 25, slot := 3, constantValue := 0 }, { name := "TYPE", type := (.object "java/lang/Class"), accessFlags := 25, slot := 4, constantValue := 0 }, { name := "UNASSIGNED", type := .byte, accessFlags := 25, slot := 5, constantValue := 0 }, { name := "UPPERCASE_LETTER", type := .byte, accessFlags := 25, slot := 6, constantValue := 0 }, { name := "LOWERCASE_LETTER", type := .byte, accessFlags := 25, slot := 7, constantValue := 0 }, { name := "TITLECASE_LETTER", type := .byte, accessFlags := 25, slot := 8, constantValue := 0 }, { name := "MODIFIER_LETTER", type := .byte, accessFlags := 25, slot := 9, constantValue := 0 }, { name := "OTHER_LETTER", type := .byte, accessFlags := 25, slot := 10, constantValue := 0 }, { name := "NON_SPACING_MARK", type := .byte, accessFlags := 25, slot := 11, constantValue := 0 }, { name := "ENCLOSING_MARK", type := .byte, accessFlags := 25, slot := 12, constantValue := 0 }, { name := "COMBINING_SPACING_MARK", type := .byte, accessFlags := 25, slot := 13, constantValue := 0 }, { name := "DECIMAL_DIGIT_NUMBER", type := .byte, accessFlags := 25, slot := 14, constantValue := 0 }, { name := "LETTER_NUMBER", type := .byte, accessFlags := 25, slot := 15, constantValue := 0 }, { name := "OTHER_NUMBER", type := .byte, accessFlags := 25, slot := 16, constantValue := 0 }, { name := "SPACE_SEPARATOR", type := .byte, accessFlags := 25, slot := 17, constantValue := 0 }, { name := "LINE_SEPARATOR", type := .byte, accessFlags := 25, slot := 18, constantValue := 0 }, { name := "PARAGRAPH_SEPARATOR", type := .byte, accessFlags := 25, slot := 19, constantValue := 0 }, { name := "CONTROL", type := .byte, accessFlags := 25, slot := 20, constantValue := 0 }, { name := "FORMAT", type := .byte, accessFlags := 25, slot := 21, constantValue := 0 }, { name := "PRIVATE_USE", type := .byte, accessFlags := 25, slot := 22, constantValue := 0 }, { name := "SURROGATE", type := .byte, accessFlags := 25, slot := 23, constantValue := 0 }, { name := "DASH_PUNCTUATION", type := .byte, accessFlags := 25, slot := 24, constantValue := 0 }, { name := "START_PUNCTUATION", type := .byte, accessFlags := 25, slot := 25, constantValue := 0 }, { name := "END_PUNCTUATION", type := .byte, accessFlags := 25, slot := 26, constantValue := 0 }, { name := "CONNECTOR_PUNCTUATION", type := .byte, accessFlags := 25, slot := 27, constantValue := 0 }, { name := "OTHER_PUNCTUATION", type := .byte, accessFlags := 25, slot := 28, constantValue := 0 }, { name := "MATH_SYMBOL", type := .byte, accessFlags := 25, slot := 29, constantValue := 0 }, { name := "CURRENCY_SYMBOL", type := .byte, accessFlags := 25, slot := 30, constantValue := 0 }, { name := "MODIFIER_SYMBOL", type := .byte, accessFlags := 25, slot := 31, constantValue := 0 }, { name := "OTHER_SYMBOL", type := .byte, accessFlags := 25, slot := 32, constantValue := 0 }, { name := "INITIAL_QUOTE_PUNCTUATION", type := .byte, accessFlags := 25, slot := 33, constantValue := 0 }, { name := "FINAL_QUOTE_PUNCTUATION", type := .byte, accessFlags := 25, slot := 34, constantValue := 0 }, { name := "ERROR", type := .int, accessFlags := 24, slot := 35, constantValue := 0 }, { name := "DIRECTIONALITY_UNDEFINED", type := .byte, accessFlags := 25, slot := 36, constantValue := 0 }, { name := "DIRECTIONALITY_LEFT_TO_RIGHT", type := .byte, accessFlags := 25, slot := 37, constantValue := 0 }, { name := "DIRECTIONALITY_RIGHT_TO_LEFT", type := .byte, accessFlags := 25, slot := 38, constantValue := 0 }, { name := "DIRECTIONALITY_RIGHT_TO_LEFT_ARABIC", type := .byte, accessFlags := 25, slot := 39, constantValue := 0 }, { name := "DIRECTIONALITY_EUROPEAN_NUMBER", type := .byte, accessFlags := 25, slot := 40, constantValue := 0 }, { name := "DIRECTIONALITY_EUROPEAN_NUMBER_SEPARATOR", type := .byte, accessFlags := 25, slot := 41, constantValue := 0 }, { name := "DIRECTIONALITY_EUROPEAN_NUMBER_TERMINATOR", type := .byte, accessFlags := 25, slot := 42, constantValue := 0 }, { name := "DIRECTIONALITY_ARABIC_NUMBER", type := .byte, accessFlags := 25, slot := 43, constantValue := 0 }, { name := "DIRECTIONALITY_COMMON_NUMBER_SEPARATOR", type := .byte, accessFlags := 25, slot := 44, constantValue := 0 }, { name := "DIRECTIONALITY_NONSPACING_MARK", type := .byte, accessFlags := 25, slot := 45, constantValue := 0 }, { name := "DIRECTIONALITY_BOUNDARY_NEUTRAL", type := .byte, accessFlags := 25, slot := 46, constantValue := 0 }, { name := "DIRECTIONALITY_PARAGRAPH_SEPARATOR", type := .byte, accessFlags := 25, slot := 47, constantValue := 0 }, { name := "DIRECTIONALITY_SEGMENT_SEPARATOR", type := .byte, accessFlags := 25, slot := 48, constantValue := 0 }, { name := "DIRECTIONALITY_WHITESPACE", type := .byte, accessFlags := 25, slot := 49, constantValue := 0 }, { name := "DIRECTIONALITY_OTHER_NEUTRALS", type := .byte, accessFlags := 25, slot := 50, constantValue := 0 }, { name := "DIRECTIONALITY_LEFT_TO_RIGHT_EMBEDDING", type := .byte, accessFlags := 25, slot := 51, constantValue := 0 }, { name := "DIRECTIONALITY_LEFT_TO_RIGHT_OVERRIDE", type := .byte, accessFlags := 25, slot := 52, constantValue := 0 }, { name := "DIRECTIONALITY_RIGHT_TO_LEFT_EMBEDDING", type := .byte, accessFlags := 25, slot := 53, constantValue := 0 }, { name := "DIRECTIONALITY_RIGHT_TO_LEFT_OVERRIDE", type := .byte, accessFlags := 25, slot := 54, constantValue := 0 }, { name := "DIRECTIONALITY_POP_DIRECTIONAL_FORMAT", type := .byte, accessFlags := 25, slot := 55, constantValue := 0 }, { name := "DIRECTIONALITY_LEFT_TO_RIGHT_ISOLATE", type := .byte, accessFlags := 25, slot := 56, constantValue := 0 }, { name := "DIRECTIONALITY_RIGHT_TO_LEFT_ISOLATE", type := .byte, accessFlags := 25, slot := 57, constantValue := 0 }, { name := "DIRECTIONALITY_FIRST_STRONG_ISOLATE", type := .byte, accessFlags := 25, slot := 58, constantValue := 0 }, { name := "DIRECTIONALITY_POP_DIRECTIONAL_ISOLATE", type := .byte, accessFlags := 25, slot := 59, constantValue := 0 }, { name := "MIN_HIGH_SURROGATE", type := .char, accessFlags := 25, slot := 60, constantValue := 0 }, { name := "MAX_HIGH_SURROGATE", type := .char, accessFlags := 25, slot := 61, constantValue := 0 }, { name := "MIN_LOW_SURROGATE", type := .char, accessFlags := 25, slot := 62, constantValue := 0 }, { name := "MAX_LOW_SURROGATE", type := .char, accessFlags := 25, slot := 63, constantValue := 0 }, { name := "MIN_SURROGATE", type := .char, accessFlags := 25, slot := 64, constantValue := 0 }, { name := "MAX_SURROGATE", type := .char, accessFlags := 25, slot := 65, constantValue := 0 }, { name := "MIN_SUPPLEMENTARY_CODE_POINT", type := .int, accessFlags := 25, slot := 66, constantValue := 0 }, { name := "MIN_CODE_POINT", type := .int, accessFlags := 25, slot := 67, constantValue := 0 }, { name := "MAX_CODE_POINT", type := .int, accessFlags := 25, slot := 68, constantValue := 0 }, { name := "value", type := .char, accessFlags := 18, slot := 0, constantValue := 0 }, { name := "serialVersionUID", type := .long, accessFlags := 26, slot := 69, constantValue := 0 }, { name := "SIZE", type := .int, accessFlags := 25, slot := 70, constantValue := 0 }, { name := "BYTES", type := .int, accessFlags := 25, slot := 71, constantValue := 0 }, { name := "$assertionsDisabled", type := .boolean, accessFlags := 4120, slot := 72, constantValue := 0 }]
  methods := #[k11m0, k11m1, k11m2]
  instanceTypes := #[.char]
  staticTypes := #[.int, .int, .char, .char, (.object "java/lang/Class"), .byte, .byte, .byte, .byte, .byte, .byte, .byte, .byte, .byte, .byte, .byte, .byte, .byte, .byte, .byte, .byte, .byte, .byte, .byte, .byte, .byte, .byte, .byte, .byte, .byte, .byte, .byte, .byte, .byte, .byte, .int, .byte, .byte, .byte, .byte, .byte, .byte, .byte, .byte, .byte, .byte, .byte, .byte, .byte, .byte, .byte, .byte, .byte, .byte, .byte, .byte, .byte, .byte, .byte, .byte, .char, .char, .char, .char, .char, .char, .int, .int, .int, .long, .int, .int, .boolean]
  resolved := Array.replicate 604 none
  statics := none }

def pool12 : Array CpInfo := pool [(2, .class_ 4), (1, u "java/lang/Object"), (0, u "<init>"), (0, u "()V"), (17, .class_ 26), (1, u "jdk/internal/util/Preconditions"), (6, u "checkIndex"), (13, u "checkFromToIndex"), (1, u "checkFromIndexSize"), (5, .class_ 56), (0, u "jdk/internal/util/Preconditions$4"), (57, .class_ 115), (0, u "jdk/internal/util/Preconditions$1"), (7, u "SIOOBE_FORMATTER"), (0, u "Ljava/util/function/BiFunction;"), (0, .class_ 126), (0, u "jdk/internal/util/Preconditions$2"), (3, u "AIOOBE_FORMATTER"), (0, .class_ 132), (0, u "jdk/internal/util/Preconditions$3"), (3, u "IOOBE_FORMATTER"), (41, u "(IILjava/util/function/BiFunction;)I"), (4, u "(IIILjava/util/function/BiFunction;)I")] 10

def k12m0 : Method := { name := "<init>", desc := "()V", sig := { parameters := [], returnType := none }, accessFlags := 1, code := none }
def k12c1 : Code := { maxStack := 3, maxLocals := 3, code := jdk_41_method_11_code, exceptionTable := #[], attributes := #[] }
def k12m1 : Method := { name := "checkIndex", desc := "(IILjava/util/function/BiFunction;)I", sig := { parameters := [.int, .int, (.object "java/util/function/BiFunction")], returnType := some .int }, accessFlags := 9, code := some k12c1 }
def k12c2 : Code := { maxStack := 4, maxLocals := 4, code := jdk_41_method_12_code, exceptionTable := #[], attributes := #[] }
def k12m2 : Method := { name := "checkFromToIndex", desc := "(IIILjava/util/function/BiFunction;)I", sig := { parameters := [.int, .int, .int, (.object "java/util/function/BiFunction")], returnType := some .int }, accessFlags := 9, code := some k12c2 }
def k12c3 : Code := { maxStack := 4, maxLocals := 4, code := jdk_41_method_13_code, exceptionTable := #[], attributes := #[] }
def k12m3 : Method := { name := "checkFromIndexSize", desc := "(IIILjava/util/function/BiFunction;)I", sig := { parameters := [.int, .int, .int, (.object "java/util/function/BiFunction")], returnType := some .int }, accessFlags := 9, code := some k12c3 }
/-- jdk/internal/util/Preconditions -/
def k12 : Class := { plain "jdk/internal/util/Preconditions" (some 0) with
  accessFlags := 33
  interfaces := #[]
  cf := some (fileOf pool12 24 #[.nestMembers #[55, 131, 125, 114]] #[{ accessFlags := 1, nameIndex := 5, descriptorIndex := 6, attributes := #[] }, { accessFlags := 9, nameIndex := 33, descriptorIndex := 178, attributes := #[] }, { accessFlags := 9, nameIndex := 47, descriptorIndex := 183, attributes := #[] }, { accessFlags := 9, nameIndex := 49, descriptorIndex := 183, attributes := #[] }] 33 2 #[] #[{ accessFlags := 25, nameIndex := 123, descriptorIndex := 124, attributes := #[] }, { accessFlags := 25, nameIndex := 130, descriptorIndex := 124, attributes := #[] }, { accessFlags := 25, nameIndex := 136, descriptorIndex := 124, attributes := #[] }])
  fields := #[{ name := "SIOOBE_FORMATTER", type := (.object "java/util/function/BiFunction"), accessFlags := 25, slot := 0, constantValue := 0 }, { name := "AIOOBE_FORMATTER", type := (.object "java/util/function/BiFunction"), accessFlags := 25, slot := 1, constantValue := 0 }, { name := "IOOBE_FORMATTER", type := (.object "java/util/function/BiFunction"), accessFlags := 25, slot := 2, constantValue := 0 }]
  methods := #[k12m0, k12m1, k12m2, k12m3]
  instanceTypes := #[]
  staticTypes := #[(.object "java/util/function/BiFunction"), (.object "java/util/function/BiFunction"), (.object "java/util/function/BiFunction")]
  resolved := Array.replicate 194 none
  statics := some 2 }

def pool13 : Array CpInfo := pool [(2, .class_ 4), (1, u "java/lang/Object"), (0, u "<init>"), (0, u "()V"), (7, .class_ 16), (1, u "java/util/Arrays"), (57, .class_ 76), (1, u "java/util/Arrays$NaturalOrder"), (36, .class_ 115), (1, u "java/util/Arrays$LegacyMergeSort"), (1, u "Z"), (21, u "copyOfRange"), (10, .methodref 151 152), (0, .class_ 153), (0, .nameAndType 154 155), (0, u "java/lang/System"), (0, u "arraycopy"), (0, u "(Ljava/lang/Object;ILjava/lang/Object;II)V"), (148, .methodref 305 306), (0, .class_ 307), (0, .nameAndType 308 309), (0, u "java/lang/Math"), (0, u "min"), (0, u "(II)I"), (29, .methodref 14 340), (0, .nameAndType 341 342), (0, u "copyOfRangeByte"), (0, u "([BII)[B"), (0, .methodref 14 344), (0, .nameAndType 345 346), (0, u "checkLength"), (0, u "(II)V"), (28, .class_ 376), (0, u "java/util/Arrays$ArrayList"), (68, u "$assertionsDisabled"), (269, u "MIN_ARRAY_SORT_GRAN"), (0, u "I"), (2, u "INSERTIONSORT_THRESHOLD"), (255, .class_ 976), (0, u "java/util/Arrays$ArrayItr")] 52

def k13m0 : Method := { name := "<init>", desc := "()V", sig := { parameters := [], returnType := none }, accessFlags := 2, code := none }
def k13c1 : Code := { maxStack := 4, maxLocals := 2, code := jdk_65_method_131_code, exceptionTable := #[], attributes := #[] }
def k13m1 : Method := { name := "checkLength", desc := "(II)V", sig := { parameters := [.int, .int], returnType := none }, accessFlags := 10, code := some k13c1 }
def k13c2 : Code := { maxStack := 3, maxLocals := 3, code := jdk_65_method_132_code, exceptionTable := #[], attributes := #[] }
def k13m2 : Method := { name := "copyOfRange", desc := "([BII)[B", sig := { parameters := [(.array .byte), .int, .int], returnType := some (.array .byte) }, accessFlags := 9, code := some k13c2 }
def k13c3 : Code := { maxStack := 6, maxLocals := 5, code := jdk_65_method_133_code, exceptionTable := #[], attributes := #[] }
def k13m3 : Method := { name := "copyOfRangeByte", desc := "([BII)[B", sig := { parameters := [(.array .byte), .int, .int], returnType := some (.array .byte) }, accessFlags := 10, code := some k13c3 }
/-- java/util/Arrays -/
def k13 : Class := { plain "java/util/Arrays" (some 0) with
  accessFlags := 49
  interfaces := #[]
  cf := some (fileOf pool13 14 #[.nestMembers #[975, 375, 113, 74]] #[{ accessFlags := 2, nameIndex := 5, descriptorIndex := 6, attributes := #[] }, { accessFlags := 10, nameIndex := 345, descriptorIndex := 346, attributes := #[] }, { accessFlags := 9, nameIndex := 139, descriptorIndex := 342, attributes := #[] }, { accessFlags := 10, nameIndex := 341, descriptorIndex := 342, attributes := #[] }] 49 2 #[] #[{ accessFlags := 26, nameIndex := 715, descriptorIndex := 716, attributes := #[] }, { accessFlags := 26, nameIndex := 719, descriptorIndex := 716, attributes := #[] }, { accessFlags := 4120, nameIndex := 445, descriptorIndex := 117, attributes := #[] }])
  fields := #[{ name := "MIN_ARRAY_SORT_GRAN", type := .int, accessFlags := 26, slot := 0, constantValue := 0 }, { name := "INSERTIONSORT_THRESHOLD", type := .int, accessFlags := 26, slot := 1, constantValue := 0 }, { name := "$assertionsDisabled", type := .boolean, accessFlags := 4120, slot := 2, constantValue := 0 }]
  methods := #[k13m0, k13m1, k13m2, k13m3]
  instanceTypes := #[]
  staticTypes := #[.int, .int, .boolean]
  resolved := Array.replicate 1029 none
  statics := none }

def pool14 : Array CpInfo := pool [(1, .class_ 2), (0, u "java/lang/Math"), (1, .class_ 6), (1, u "java/lang/Object"), (0, u "<init>"), (0, u "()V"), (89, .class_ 100), (1, u "java/lang/Math$RandomNumberGeneratorHolder"), (71, u "negativeZeroFloatBits"), (0, u "J"), (2, u "negativeZeroDoubleBits"), (24, u "min"), (43, u "$assertionsDisabled"), (0, u "Z"), (88, u "(II)I"), (2, u "twoToTheDoubleScaleDown"), (0, u "D"), (4, u "twoToTheDoubleScaleUp"), (9, u "E"), (3, u "PI"), (2, u "TAU"), (2, u "DEGREES_TO_RADIANS"), (0, u "RADIANS_TO_DEGREES")] 94

def k14m0 : Method := { name := "<init>", desc := "()V", sig := { parameters := [], returnType := none }, accessFlags := 2, code := none }
def k14c1 : Code := { maxStack := 2, maxLocals := 2, code := jdk_29_method_69_code, exceptionTable := #[], attributes := #[] }
def k14m1 : Method := { name := "min", desc := "(II)I", sig := { parameters := [.int, .int], returnType := some .int }, accessFlags := 9, code := some k14c1 }
/-- java/lang/Math -/
def k14 : Class := { plain "java/lang/Math" (some 0) with
  accessFlags := 49
  interfaces := #[]
  cf := some (fileOf pool14 1 #[.nestMembers #[98]] #[{ accessFlags := 2, nameIndex := 7, descriptorIndex := 8, attributes := #[] }, { accessFlags := 9, nameIndex := 201, descriptorIndex := 335, attributes := #[] }] 49 4 #[] #[{ accessFlags := 25, nameIndex := 354, descriptorIndex := 339, attributes := #[] }, { accessFlags := 25, nameIndex := 358, descriptorIndex := 339, attributes := #[] }, { accessFlags := 25, nameIndex := 361, descriptorIndex := 339, attributes := #[] }, { accessFlags := 26, nameIndex := 364, descriptorIndex := 339, attributes := #[] }, { accessFlags := 26, nameIndex := 365, descriptorIndex := 339, attributes := #[] }, { accessFlags := 26, nameIndex := 172, descriptorIndex := 173, attributes := #[] }, { accessFlags := 26, nameIndex := 176, descriptorIndex := 173, attributes := #[] }, { accessFlags := 8, nameIndex := 344, descriptorIndex := 339, attributes := #[] }, { accessFlags := 8, nameIndex := 338, descriptorIndex := 339, attributes := #[] }, { accessFlags := 4120, nameIndex := 245, descriptorIndex := 246, attributes := #[] }])
  fields := #[{ name := "E", type := .double, accessFlags := 25, slot := 0, constantValue := 0 }, { name := "PI", type := .double, accessFlags := 25, slot := 1, constantValue := 0 }, { name := "TAU", type := .double, accessFlags := 25, slot := 2, constantValue := 0 }, { name := "DEGREES_TO_RADIANS", type := .double, accessFlags := 26, slot := 3, constantValue := 0 }, { name := "RADIANS_TO_DEGREES", type := .double, accessFlags := 26, slot := 4, constantValue := 0 }, { name := "negativeZeroFloatBits", type := .long, accessFlags := 26, slot := 5, constantValue := 0 }, { name := "negativeZeroDoubleBits", type := .long, accessFlags := 26, slot := 6, constantValue := 0 }, { name := "twoToTheDoubleScaleUp", type := .double, accessFlags := 8, slot := 7, constantValue := 0 }, { name := "twoToTheDoubleScaleDown", type := .double, accessFlags := 8, slot := 8, constantValue := 0 }, { name := "$assertionsDisabled", type := .boolean, accessFlags := 4120, slot := 9, constantValue := 0 }]
  methods := #[k14m0, k14m1]
  instanceTypes := #[]
  staticTypes := #[.double, .double, .double, .double, .double, .long, .long, .double, .double, .boolean]
  resolved := Array.replicate 460 none
  statics := none }

def pool15 : Array CpInfo := pool [(2, .class_ 4), (1, u "java/lang/Object"), (0, u "<init>"), (0, u "()V"), (1, .class_ 10), (1, u "java/lang/System"), (0, u "allowSecurityManager"), (0, u "I"), (16, u "cons"), (0, u "Ljava/io/Console;"), (77, .class_ 110), (1, u "java/lang/System$CallersHolder"), (43, u "initialErrStream"), (0, u "Ljava/io/PrintStream;"), (19, u "security"), (0, u "Ljava/lang/SecurityManager;"), (31, .class_ 209), (0, u "java/lang/System$1"), (7, u "props"), (0, u "Ljava/util/Properties;"), (2, u "lineSeparator"), (0, u "Ljava/lang/String;"), (96, .class_ 321), (1, u "java/lang/System$LoggerFinder"), (5, .class_ 328), (0, u "java/lang/System$Logger"), (67, u "err"), (2, u "out"), (91, u "notSupportedJnuEncoding"), (15, u "in"), (17, u "initialIn"), (0, u "Ljava/io/InputStream;"), (35, u "bootLayer"), (0, u "Ljava/lang/ModuleLayer;"), (99, .class_ 664), (0, u "java/lang/System$2"), (9, u "NEVER"), (2, u "MAYBE"), (49, u "arraycopy"), (0, u "(Ljava/lang/Object;ILjava/lang/Object;II)V"), (72, .class_ 802), (0, u "java/lang/System$Logger$Level")] 31

def k15m0 : Method := { name := "<init>", desc := "()V", sig := { parameters := [], returnType := none }, accessFlags := 2, code := none }
def k15m1 : Method := { name := "arraycopy", desc := "(Ljava/lang/Object;ILjava/lang/Object;II)V", sig := { parameters := [(.object "java/lang/Object"), .int, (.object "java/lang/Object"), .int, .int], returnType := none }, accessFlags := 265, code := none }
/-- java/lang/System -/
def k15 : Class := { plain "java/lang/System" (some 0) with
  accessFlags := 49
  interfaces := #[]
  cf := some (fileOf pool15 8 #[.nestMembers #[319, 327, 801, 108, 663, 208]] #[{ accessFlags := 2, nameIndex := 5, descriptorIndex := 6, attributes := #[] }, { accessFlags := 265, nameIndex := 727, descriptorIndex := 728, attributes := #[] }] 49 2 #[] #[{ accessFlags := 25, nameIndex := 507, descriptorIndex := 526, attributes := #[] }, { accessFlags := 25, nameIndex := 399, descriptorIndex := 155, attributes := #[] }, { accessFlags := 25, nameIndex := 396, descriptorIndex := 155, attributes := #[] }, { accessFlags := 10, nameIndex := 525, descriptorIndex := 526, attributes := #[] }, { accessFlags := 26, nameIndex := 674, descriptorIndex := 12, attributes := #[] }, { accessFlags := 26, nameIndex := 677, descriptorIndex := 12, attributes := #[] }, { accessFlags := 10, nameIndex := 11, descriptorIndex := 12, attributes := #[] }, { accessFlags := 74, nameIndex := 175, descriptorIndex := 176, attributes := #[] }, { accessFlags := 10, nameIndex := 491, descriptorIndex := 222, attributes := #[] }, { accessFlags := 74, nameIndex := 29, descriptorIndex := 30, attributes := #[] }, { accessFlags := 74, nameIndex := 154, descriptorIndex := 155, attributes := #[] }, { accessFlags := 10, nameIndex := 217, descriptorIndex := 218, attributes := #[] }, { accessFlags := 10, nameIndex := 221, descriptorIndex := 222, attributes := #[] }, { accessFlags := 8, nameIndex := 562, descriptorIndex := 563, attributes := #[] }])
  fields := #[{ name := "in", type := (.object "java/io/InputStream"), accessFlags := 25, slot := 0, constantValue := 0 }, { name := "out", type := (.object "java/io/PrintStream"), accessFlags := 25, slot := 1, constantValue := 0 }, { name := "err", type := (.object "java/io/PrintStream"), accessFlags := 25, slot := 2, constantValue := 0 }, { name := "initialIn", type := (.object "java/io/InputStream"), accessFlags := 10, slot := 3, constantValue := 0 }, { name := "NEVER", type := .int, accessFlags := 26, slot := 4, constantValue := 0 }, { name := "MAYBE", type := .int, accessFlags := 26, slot := 5, constantValue := 0 }, { name := "allowSecurityManager", type := .int, accessFlags := 10, slot := 6, constantValue := 0 }, { name := "security", type := (.object "java/lang/SecurityManager"), accessFlags := 74, slot := 7, constantValue := 0 }, { name := "notSupportedJnuEncoding", type := (.object "java/lang/String"), accessFlags := 10, slot := 8, constantValue := 0 }, { name := "cons", type := (.object "java/io/Console"), accessFlags := 74, slot := 9, constantValue := 0 }, { name := "initialErrStream", type := (.object "java/io/PrintStream"), accessFlags := 74, slot := 10, constantValue := 0 }, { name := "props", type := (.object "java/util/Properties"), accessFlags := 10, slot := 11, constantValue := 0 }, { name := "lineSeparator", type := (.object "java/lang/String"), accessFlags := 10, slot := 12, constantValue := 0 }, { name := "bootLayer", type := (.object "java/lang/ModuleLayer"), accessFlags := 8, slot := 13, constantValue := 0 }]
  methods := #[k15m0, k15m1]
  instanceTypes := #[]
  staticTypes := #[(.object "java/io/InputStream"), (.object "java/io/PrintStream"), (.object "java/io/PrintStream"), (.object "java/io/InputStream"), .int, .int, .int, (.object "java/lang/SecurityManager"), (.object "java/lang/String"), (.object "java/io/Console"), (.object "java/io/PrintStream"), (.object "java/util/Properties"), (.object "java/lang/String"), (.object "java/lang/ModuleLayer")]
  resolved := Array.replicate 834 none
  statics := none }

def pool16 : Array CpInfo := pool [(1, .class_ 2), (0, u "java/lang/String"), (1, .class_ 6), (1, u "java/lang/Object"), (0, u "<init>"), (0, u "()V"), (0, .methodref 1 10), (0, .nameAndType 11 12), (0, u "checkIndex"), (0, u "(II)V"), (1, .class_ 16), (1, u "java/lang/StringLatin1"), (36, u "([BI)C"), (58, .methodref 1 113), (0, .nameAndType 7 114), (0, u "([BB)V"), (6, u "$assertionsDisabled"), (0, u "Z"), (8, .class_ 133), (1, u "java/util/Arrays"), (17, .string 152), (0, u ""), (43, u "newString"), (0, u "([BII)Ljava/lang/String;"), (23, .class_ 223), (1, u "java/lang/StringLatin1$LinesSpliterator"), (8, .methodref 131 233), (0, .nameAndType 234 235), (0, u "copyOfRange"), (0, u "([BII)[B"), (16, u "charAt"), (137, .class_ 391), (0, u "java/lang/StringLatin1$CharsSpliterator")] 3

def k16m0 : Method := { name := "<init>", desc := "()V", sig := { parameters := [], returnType := none }, accessFlags := 0, code := none }
def k16c1 : Code := { maxStack := 2, maxLocals := 2, code := jdk_43_method_2_code, exceptionTable := #[], attributes := #[] }
def k16m1 : Method := { name := "charAt", desc := "([BI)C", sig := { parameters := [(.array .byte), .int], returnType := some .char }, accessFlags := 9, code := some k16c1 }
def k16c2 : Code := { maxStack := 6, maxLocals := 3, code := jdk_43_method_47_code, exceptionTable := #[], attributes := #[] }
def k16m2 : Method := { name := "newString", desc := "([BII)Ljava/lang/String;", sig := { parameters := [(.array .byte), .int, .int], returnType := some (.object "java/lang/String") }, accessFlags := 9, code := some k16c2 }
/-- java/lang/StringLatin1 -/
def k16 : Class := { plain "java/lang/StringLatin1" (some 0) with
  accessFlags := 48
  interfaces := #[]
  cf := some (fileOf pool16 14 #[.nestMembers #[390, 221]] #[{ accessFlags := 0, nameIndex := 7, descriptorIndex := 8, attributes := #[] }, { accessFlags := 9, nameIndex := 252, descriptorIndex := 53, attributes := #[] }, { accessFlags := 9, nameIndex := 196, descriptorIndex := 197, attributes := #[] }] 48 4 #[] #[{ accessFlags := 4120, nameIndex := 121, descriptorIndex := 122, attributes := #[] }])
  fields := #[{ name := "$assertionsDisabled", type := .boolean, accessFlags := 4120, slot := 0, constantValue := 0 }]
  methods := #[k16m0, k16m1, k16m2]
  instanceTypes := #[]
  staticTypes := #[.boolean]
  resolved := Array.replicate 395 none
  statics := none }

def pool17 : Array CpInfo := pool [(9, u "<init>"), (6, .class_ 18), (1, u "java/lang/Object"), (0, u "()V"), (1, .class_ 23), (1, u "jdk/internal/util/ArraysSupport"), (0, u "LOG2_ARRAY_LONG_INDEX_SCALE"), (0, u "I"), (2, u "U"), (0, u "Ljdk/internal/misc/Unsafe;"), (8, u "BIG_ENDIAN"), (0, u "Z"), (8, u "LOG2_BYTE_BIT_SIZE"), (4, u "LOG2_ARRAY_INT_INDEX_SCALE"), (54, u "JLA"), (0, u "Ljdk/internal/access/JavaLangAccess;"), (11, u "LOG2_ARRAY_BOOLEAN_INDEX_SCALE"), (9, u "LOG2_ARRAY_BYTE_INDEX_SCALE"), (5, u "LOG2_ARRAY_CHAR_INDEX_SCALE"), (5, u "LOG2_ARRAY_SHORT_INDEX_SCALE"), (18, u "LOG2_ARRAY_FLOAT_INDEX_SCALE"), (24, u "LOG2_ARRAY_DOUBLE_INDEX_SCALE"), (89, u "T_BOOLEAN"), (2, u "T_CHAR"), (1, u "T_FLOAT"), (1, u "T_DOUBLE"), (1, u "T_BYTE"), (1, u "T_SHORT"), (1, u "T_INT"), (1, u "T_LONG"), (1, u "SOFT_MAX_ARRAY_LENGTH")] 83

def k17m0 : Method := { name := "<init>", desc := "()V", sig := { parameters := [], returnType := none }, accessFlags := 2, code := none }
/-- jdk/internal/util/ArraysSupport -/
def k17 : Class := { plain "jdk/internal/util/ArraysSupport" (some 0) with
  accessFlags := 33
  interfaces := #[]
  cf := some (fileOf pool17 21 #[] #[{ accessFlags := 2, nameIndex := 9, descriptorIndex := 19, attributes := #[] }] 33 16 #[] #[{ accessFlags := 24, nameIndex := 28, descriptorIndex := 29, attributes := #[] }, { accessFlags := 26, nameIndex := 38, descriptorIndex := 39, attributes := #[] }, { accessFlags := 25, nameIndex := 121, descriptorIndex := 25, attributes := #[] }, { accessFlags := 25, nameIndex := 131, descriptorIndex := 25, attributes := #[] }, { accessFlags := 25, nameIndex := 137, descriptorIndex := 25, attributes := #[] }, { accessFlags := 25, nameIndex := 143, descriptorIndex := 25, attributes := #[] }, { accessFlags := 25, nameIndex := 53, descriptorIndex := 25, attributes := #[] }, { accessFlags := 25, nameIndex := 24, descriptorIndex := 25, attributes := #[] }, { accessFlags := 25, nameIndex := 162, descriptorIndex := 25, attributes := #[] }, { accessFlags := 25, nameIndex := 187, descriptorIndex := 25, attributes := #[] }, { accessFlags := 26, nameIndex := 48, descriptorIndex := 25, attributes := #[] }, { accessFlags := 25, nameIndex := 277, descriptorIndex := 25, attributes := #[] }, { accessFlags := 25, nameIndex := 280, descriptorIndex := 25, attributes := #[] }, { accessFlags := 25, nameIndex := 282, descriptorIndex := 25, attributes := #[] }, { accessFlags := 25, nameIndex := 284, descriptorIndex := 25, attributes := #[] }, { accessFlags := 25, nameIndex := 286, descriptorIndex := 25, attributes := #[] }, { accessFlags := 25, nameIndex := 288, descriptorIndex := 25, attributes := #[] }, { accessFlags := 25, nameIndex := 290, descriptorIndex := 25, attributes := #[] }, { accessFlags := 25, nameIndex := 292, descriptorIndex := 25, attributes := #[] }, { accessFlags := 26, nameIndex := 108, descriptorIndex := 109, attributes := #[] }, { accessFlags := 25, nameIndex := 294, descriptorIndex := 25, attributes := #[] }])
  fields := #[{ name := "U", type := (.object "jdk/internal/misc/Unsafe"), accessFlags := 24, slot := 0, constantValue := 0 }, { name := "BIG_ENDIAN", type := .boolean, accessFlags := 26, slot := 1, constantValue := 0 }, { name := "LOG2_ARRAY_BOOLEAN_INDEX_SCALE", type := .int, accessFlags := 25, slot := 2, constantValue := 0 }, { name := "LOG2_ARRAY_BYTE_INDEX_SCALE", type := .int, accessFlags := 25, slot := 3, constantValue := 0 }, { name := "LOG2_ARRAY_CHAR_INDEX_SCALE", type := .int, accessFlags := 25, slot := 4, constantValue := 0 }, { name := "LOG2_ARRAY_SHORT_INDEX_SCALE", type := .int, accessFlags := 25, slot := 5, constantValue := 0 }, { name := "LOG2_ARRAY_INT_INDEX_SCALE", type := .int, accessFlags := 25, slot := 6, constantValue := 0 }, { name := "LOG2_ARRAY_LONG_INDEX_SCALE", type := .int, accessFlags := 25, slot := 7, constantValue := 0 }, { name := "LOG2_ARRAY_FLOAT_INDEX_SCALE", type := .int, accessFlags := 25, slot := 8, constantValue := 0 }, { name := "LOG2_ARRAY_DOUBLE_INDEX_SCALE", type := .int, accessFlags := 25, slot := 9, constantValue := 0 }, { name := "LOG2_BYTE_BIT_SIZE", type := .int, accessFlags := 26, slot := 10, constantValue := 0 }, { name := "T_BOOLEAN", type := .int, accessFlags := 25, slot := 11, constantValue := 0 }, { name := "T_CHAR", type := .int, accessFlags := 25, slot := 12, constantValue := 0 }, { name := "T_FLOAT", type := .int, accessFlags := 25, slot := 13, constantValue := 0 }, { name := "T_DOUBLE", type := .int, accessFlags := 25, slot := 14, constantValue := 0 }, { name := "T_BYTE", type := .int, accessFlags := 25, slot := 15, constantValue := 0 }, { name := "T_SHORT", type := .int, accessFlags := 25, slot := 16, constantValue := 0 }, { name := "T_INT", type := .int, accessFlags := 25, slot := 17, constantValue := 0 }, { name := "T_LONG", type := .int, accessFlags := 25, slot := 18, constantValue := 0 }, { name := "JLA", type := (.object "jdk/internal/access/JavaLangAccess"), accessFlags := 26, slot := 19, constantValue := 0 }, { name := "SOFT_MAX_ARRAY_LENGTH", type := .int, accessFlags := 25, slot := 20, constantValue := 0 }]
  methods := #[k17m0]
  instanceTypes := #[]
  staticTypes := #[(.object "jdk/internal/misc/Unsafe"), .boolean, .int, .int, .int, .int, .int, .int, .int, .int, .int, .int, .int, .int, .int, .int, .int, .int, .int, (.object "jdk/internal/access/JavaLangAccess"), .int]
  resolved := Array.replicate 378 none
  statics := none }

def pool18 : Array CpInfo := pool [(1, u "java/lang/Cloneable"), (0, .class_ 1), (0, u "java/lang/Object"), (0, .class_ 3)] 3

/-- java/lang/Cloneable -/
def k18 : Class := { plain "java/lang/Cloneable" (some 0) with
  accessFlags := 1537
  interfaces := #[]
  cf := some (fileOf pool18 2 #[] #[] 1537 4 #[] #[])
  fields := #[]
  methods := #[]
  instanceTypes := #[]
  staticTypes := #[]
  resolved := Array.replicate 8 none
  statics := none }

/-- the primitive byte -/
def k19 : Class := { plain "byte" none with kind := .primitive 'B', accessFlags := 0x411 }
/-- [B -/
def k20 : Class := { plain "[B" (some 0) with kind := .array 19 .byte, interfaces := #[18, 4], accessFlags := 1041 }

/-- the primitive char -/
def k21 : Class := { plain "char" none with kind := .primitive 'C', accessFlags := 0x411 }
/-- [C -/
def k22 : Class := { plain "[C" (some 0) with kind := .array 21 .char, interfaces := #[18, 4], accessFlags := 1041 }

/-- the primitive int -/
def k23 : Class := { plain "int" none with kind := .primitive 'I', accessFlags := 0x411 }
/-- [I -/
def k24 : Class := { plain "[I" (some 0) with kind := .array 23 .int, interfaces := #[18, 4], accessFlags := 1041 }

def heap : Heap := #[{ cls := 9, slots := #[.long 0, .int 1, .null, .int 0, .null, .int 0, .int 0], vm := .statics 9 },
  { cls := 10, slots := #[.int 0, .int 8, .int 0, .int 1], vm := .statics 10 },
  { cls := 12, slots := #[.null, .null, .null], vm := .statics 12 }]
def classes : Array Class := #[k0, k1, k2, k3, k4, k5, k6, k7, k8, k9, k10, k11, k12, k13, k14, k15, k16, k17, k18, k19, k20, k21, k22, k23, k24]
def interned : List (Array UInt16 × Addr) := []
def slotsUsed : Nat := 14
def theMethod : MethodId := ⟨1, 1⟩
def args0 : Array Value := #[.int 7, .int 5, .int 6, .int 2, .int 1, .int 3]
def aboutOver (below : List Frame) : State where
  vm := { classes := classes, interned := interned.toArray }
  heap := heap
  slotsUsed := slotsUsed
  threads := #[{ frames := .invoking theMethod args0 :: below }]
def below0 : List Frame := [.native { method := ⟨0, 0⟩, args := #[] }]
def about1 : State := aboutOver below0
def p0 : Program := .bare "" "" ""
def e0 : Env := launch0.env 0 0 0
theorem w_frames : about1.frames = Frame.invoking theMethod args0 :: below0 := rfl
set_option maxRecDepth 65536 in
theorem w_args : argsFit about1.vm theMethod args0 = true := by decide +kernel
set_option maxRecDepth 65536 in
theorem w_heap : heapFits about1 = true := by decide +kernel
set_option maxRecDepth 65536 in
theorem w_runnable : about1.curStatus? = some .runnable := by decide +kernel
set_option maxRecDepth 65536 in
theorem w_alone : about1.alone = true := by decide +kernel
set_option maxRecDepth 65536 in
theorem w_named : about1.methodNamed? x = some theMethod := by decide +kernel
set_option maxRecDepth 65536 in
theorem w_hears : about1.hears theMethod below0 = true := by decide +kernel
set_option maxRecDepth 65536 in
theorem w_ripe : about1.ripe theMethod args0 below0 = true := by decide +kernel
theorem w_running : about1.status = .running := rfl
set_option maxRecDepth 65536 in
theorem w_room : about1.hasRoom e0.platform room_1 = true :=
  launch0.hasRoom_least _ room_1 (by decide +kernel) (by decide +kernel) (by decide +kernel) (by decide +kernel) (by decide +kernel) (by decide +kernel)
theorem allAtoms_all (ts : List Jvm.Cond) (a : Array Jvm.Value) (st : Jvm.State) : (allAtoms ts).before a st = ts.all (fun c => c.before a st) := by
  induction ts with
  | nil => rfl
  | cons c t ih =>
    show (Jvm.Cond.and c (allAtoms t)).before a st = _
    rw [Jvm.Cond.before_and, ih, List.all_cons]
def words1 : List Jvm.Cond := Jvm.Cond.code x code maxLocals ret :: tables_1
/-- a 'code' word, met by the world's own term for the bytes: nothing is compared byte by byte -/
theorem code_word {y : MethodName} {bytes : ByteArray} {mx : Nat} {rt : Option FieldType} {a : Array Value} {s : State} {m : MethodId} {meth : Method} {c : Code} (h1 : s.methodNamed? y = some m) (h2 : s.vm.method? m = some meth) (h3 : meth.code = some c) (h4 : c.code = bytes)
    (h5 : (c.maxLocals == mx && c.exceptionTable.isEmpty && decide (c.maxStack ≤ mostOperands) && decide (meth.sig.returnType = rt) && !meth.locks && decide (parseMethodDescriptor y.desc = some meth.sig)) = true) : (Jvm.Cond.code y bytes mx rt).before a s = true := by
  simp only [Bool.and_eq_true, beq_iff_eq, Bool.not_eq_true', decide_eq_true_eq] at h5
  obtain ⟨⟨⟨⟨⟨g1, g2⟩, g3⟩, g4⟩, g5⟩, g6⟩ := h5
  simp [Cond.before, Cond.holds, Cond.value, h1, h2, h3, h4, g1, g2, g3, g4, g5, g6]
def isCode : Jvm.Cond → Bool
  | .code _ _ _ _ => true
  | _ => false
theorem all_split {L : List Jvm.Cond} {P : Jvm.Cond → Bool} (h1 : L.all (fun c => isCode c || P c) = true) (h2 : ∀ c ∈ L.filter isCode, P c = true) : L.all P = true := by
  refine List.all_eq_true.mpr fun c hc => ?_
  have h := List.all_eq_true.mp h1 c hc
  rcases Bool.eq_false_or_eq_true (isCode c) with hi | hi
  · exact h2 c (List.mem_filter.mpr ⟨hc, hi⟩)
  · simpa [hi] using h
set_option maxRecDepth 65536 in
theorem w_c0 : (Jvm.Cond.code x code maxLocals ret).before args0 about1 = true := code_word (m := ⟨1, 1⟩) (meth := k1m1) (c := k1c1) (by decide +kernel) rfl rfl rfl (by decide +kernel)
set_option maxRecDepth 65536 in
theorem w_c1 : (Jvm.Cond.code ({ cls := "com/example/axial/axial/DocumentTextQuotePinLaw", name := "fill", desc := "([CIIZ)V" } : Jvm.MethodName) method_5_code (4 : Nat) (Option.none : Option Jvm.ClassFile.FieldType)).before args0 about1 = true := code_word (m := ⟨1, 4⟩) (meth := k1m4) (c := k1c4) (by decide +kernel) rfl rfl rfl (by decide +kernel)
set_option maxRecDepth 65536 in
theorem w_c2 : (Jvm.Cond.code ({ cls := "com/example/axial/axial/DocumentTextQuotePinLaw", name := "bmp", desc := "(I)C" } : Jvm.MethodName) method_4_code (1 : Nat) (Option.some Jvm.ClassFile.FieldType.char)).before args0 about1 = true := code_word (m := ⟨1, 3⟩) (meth := k1m3) (c := k1c3) (by decide +kernel) rfl rfl rfl (by decide +kernel)
set_option maxRecDepth 65536 in
theorem w_c3 : (Jvm.Cond.code ({ cls := "com/example/axial/axial/DocumentTextQuotePinLaw", name := "count", desc := "(Z)I" } : Jvm.MethodName) method_3_code (1 : Nat) (Option.some Jvm.ClassFile.FieldType.int)).before args0 about1 = true := code_word (m := ⟨1, 2⟩) (meth := k1m2) (c := k1c2) (by decide +kernel) rfl rfl rfl (by decide +kernel)
set_option maxRecDepth 65536 in
theorem w_c4 : (Jvm.Cond.code ({ cls := "java/lang/String", name := "<init>", desc := "([C)V" } : Jvm.MethodName) jdk_42_method_3_code (2 : Nat) (Option.none : Option Jvm.ClassFile.FieldType)).before args0 about1 = true := code_word (m := ⟨9, 1⟩) (meth := k9m1) (c := k9c1) (by decide +kernel) rfl rfl rfl (by decide +kernel)
set_option maxRecDepth 65536 in
theorem w_c5 : (Jvm.Cond.code ({ cls := "java/lang/String", name := "<init>", desc := "([CIILjava/lang/Void;)V" } : Jvm.MethodName) jdk_42_method_149_code (6 : Nat) (Option.none : Option Jvm.ClassFile.FieldType)).before args0 about1 = true := code_word (m := ⟨9, 6⟩) (meth := k9m6) (c := k9c6) (by decide +kernel) rfl rfl rfl (by decide +kernel)
set_option maxRecDepth 65536 in
theorem w_c6 : (Jvm.Cond.code ({ cls := "java/lang/Object", name := "<init>", desc := "()V" } : Jvm.MethodName) object_method_1_code (1 : Nat) (Option.none : Option Jvm.ClassFile.FieldType)).before args0 about1 = true := code_word (m := ⟨0, 0⟩) (meth := k0m0) (c := k0c0) (by decide +kernel) rfl rfl rfl (by decide +kernel)
set_option maxRecDepth 65536 in
theorem w_c7 : (Jvm.Cond.code ({ cls := "java/lang/StringUTF16", name := "compress", desc := "([CII)[B" } : Jvm.MethodName) jdk_52_method_16_code (6 : Nat) (Option.some (Jvm.ClassFile.FieldType.array Jvm.ClassFile.FieldType.byte))).before args0 about1 = true := code_word (m := ⟨10, 8⟩) (meth := k10m8) (c := k10c8) (by decide +kernel) rfl rfl rfl (by decide +kernel)
set_option maxRecDepth 65536 in
theorem w_c8 : (Jvm.Cond.code ({ cls := "java/lang/StringUTF16", name := "compress", desc := "([CI[BII)I" } : Jvm.MethodName) jdk_52_method_21_code (7 : Nat) (Option.some Jvm.ClassFile.FieldType.int)).before args0 about1 = true := code_word (m := ⟨10, 10⟩) (meth := k10m10) (c := k10c10) (by decide +kernel) rfl rfl rfl (by decide +kernel)
set_option maxRecDepth 65536 in
theorem w_c9 : (Jvm.Cond.code ({ cls := "java/lang/StringUTF16", name := "toBytes", desc := "([CII)[B" } : Jvm.MethodName) jdk_52_method_14_code (5 : Nat) (Option.some (Jvm.ClassFile.FieldType.array Jvm.ClassFile.FieldType.byte))).before args0 about1 = true := code_word (m := ⟨10, 6⟩) (meth := k10m6) (c := k10c6) (by decide +kernel) rfl rfl rfl (by decide +kernel)
set_option maxRecDepth 65536 in
theorem w_c10 : (Jvm.Cond.code ({ cls := "java/lang/StringUTF16", name := "newBytesFor", desc := "(I)[B" } : Jvm.MethodName) jdk_52_method_2_code (1 : Nat) (Option.some (Jvm.ClassFile.FieldType.array Jvm.ClassFile.FieldType.byte))).before args0 about1 = true := code_word (m := ⟨10, 1⟩) (meth := k10m1) (c := k10c1) (by decide +kernel) rfl rfl rfl (by decide +kernel)
set_option maxRecDepth 65536 in
theorem w_c11 : (Jvm.Cond.code ({ cls := "java/lang/StringUTF16", name := "newBytesLength", desc := "(I)I" } : Jvm.MethodName) jdk_52_method_3_code (1 : Nat) (Option.some Jvm.ClassFile.FieldType.int)).before args0 about1 = true := code_word (m := ⟨10, 2⟩) (meth := k10m2) (c := k10c2) (by decide +kernel) rfl rfl rfl (by decide +kernel)
set_option maxRecDepth 65536 in
theorem w_c12 : (Jvm.Cond.code ({ cls := "java/lang/StringUTF16", name := "putChar", desc := "([BII)V" } : Jvm.MethodName) jdk_52_method_4_code (3 : Nat) (Option.none : Option Jvm.ClassFile.FieldType)).before args0 about1 = true := code_word (m := ⟨10, 3⟩) (meth := k10m3) (c := k10c3) (by decide +kernel) rfl rfl rfl (by decide +kernel)
set_option maxRecDepth 65536 in
theorem w_c13 : (Jvm.Cond.code ({ cls := "java/lang/StringUTF16", name := "getChar", desc := "([BI)C" } : Jvm.MethodName) jdk_52_method_5_code (2 : Nat) (Option.some Jvm.ClassFile.FieldType.char)).before args0 about1 = true := code_word (m := ⟨10, 4⟩) (meth := k10m4) (c := k10c4) (by decide +kernel) rfl rfl rfl (by decide +kernel)
set_option maxRecDepth 65536 in
theorem w_c14 : (Jvm.Cond.code ({ cls := "java/lang/StringUTF16", name := "coderFromArrayLen", desc := "([BI)B" } : Jvm.MethodName) jdk_52_method_15_code (2 : Nat) (Option.some Jvm.ClassFile.FieldType.byte)).before args0 about1 = true := code_word (m := ⟨10, 7⟩) (meth := k10m7) (c := k10c7) (by decide +kernel) rfl rfl rfl (by decide +kernel)
set_option maxRecDepth 65536 in
theorem w_c15 : (Jvm.Cond.code ({ cls := "com/example/axial/axial/DocumentText", name := "<init>", desc := "(Ljava/lang/String;)V" } : Jvm.MethodName) prog_2_method_1_code (2 : Nat) (Option.none : Option Jvm.ClassFile.FieldType)).before args0 about1 = true := code_word (m := ⟨3, 0⟩) (meth := k3m0) (c := k3c0) (by decide +kernel) rfl rfl rfl (by decide +kernel)
set_option maxRecDepth 65536 in
theorem w_c16 : (Jvm.Cond.code ({ cls := "java/lang/Record", name := "<init>", desc := "()V" } : Jvm.MethodName) jdk_30_method_1_code (1 : Nat) (Option.none : Option Jvm.ClassFile.FieldType)).before args0 about1 = true := code_word (m := ⟨2, 0⟩) (meth := k2m0) (c := k2c0) (by decide +kernel) rfl rfl rfl (by decide +kernel)
set_option maxRecDepth 65536 in
theorem w_c17 : (Jvm.Cond.code ({ cls := "com/example/axial/axial/DocumentText", name := "quote", desc := "(II)Ljava/lang/String;" } : Jvm.MethodName) prog_2_method_5_code (4 : Nat) (Option.some (Jvm.ClassFile.FieldType.object "java/lang/String"))).before args0 about1 = true := code_word (m := ⟨3, 1⟩) (meth := k3m1) (c := k3c1) (by decide +kernel) rfl rfl rfl (by decide +kernel)
set_option maxRecDepth 65536 in
theorem w_c18 : (Jvm.Cond.code ({ cls := "java/lang/String", name := "offsetByCodePoints", desc := "(II)I" } : Jvm.MethodName) jdk_42_method_60_code (3 : Nat) (Option.some Jvm.ClassFile.FieldType.int)).before args0 about1 = true := code_word (m := ⟨9, 4⟩) (meth := k9m4) (c := k9c4) (by decide +kernel) rfl rfl rfl (by decide +kernel)
set_option maxRecDepth 65536 in
theorem w_c19 : (Jvm.Cond.code ({ cls := "java/lang/Character", name := "offsetByCodePoints", desc := "(Ljava/lang/CharSequence;II)I" } : Jvm.MethodName) jdk_89_method_36_code (6 : Nat) (Option.some Jvm.ClassFile.FieldType.int)).before args0 about1 = true := code_word (m := ⟨11, 2⟩) (meth := k11m2) (c := k11c2) (by decide +kernel) rfl rfl rfl (by decide +kernel)
set_option maxRecDepth 65536 in
theorem w_c20 : (Jvm.Cond.code ({ cls := "java/lang/String", name := "length", desc := "()I" } : Jvm.MethodName) jdk_42_method_54_code (1 : Nat) (Option.some Jvm.ClassFile.FieldType.int)).before args0 about1 = true := code_word (m := ⟨9, 2⟩) (meth := k9m2) (c := k9c2) (by decide +kernel) rfl rfl rfl (by decide +kernel)
set_option maxRecDepth 65536 in
theorem w_c21 : (Jvm.Cond.code ({ cls := "java/lang/String", name := "coder", desc := "()B" } : Jvm.MethodName) jdk_42_method_152_code (1 : Nat) (Option.some Jvm.ClassFile.FieldType.byte)).before args0 about1 = true := code_word (m := ⟨9, 8⟩) (meth := k9m8) (c := k9c8) (by decide +kernel) rfl rfl rfl (by decide +kernel)
set_option maxRecDepth 65536 in
theorem w_c22 : (Jvm.Cond.code ({ cls := "java/lang/String", name := "charAt", desc := "(I)C" } : Jvm.MethodName) jdk_42_method_56_code (2 : Nat) (Option.some Jvm.ClassFile.FieldType.char)).before args0 about1 = true := code_word (m := ⟨9, 3⟩) (meth := k9m3) (c := k9c3) (by decide +kernel) rfl rfl rfl (by decide +kernel)
set_option maxRecDepth 65536 in
theorem w_c23 : (Jvm.Cond.code ({ cls := "java/lang/String", name := "isLatin1", desc := "()Z" } : Jvm.MethodName) jdk_42_method_154_code (1 : Nat) (Option.some Jvm.ClassFile.FieldType.boolean)).before args0 about1 = true := code_word (m := ⟨9, 9⟩) (meth := k9m9) (c := k9c9) (by decide +kernel) rfl rfl rfl (by decide +kernel)
set_option maxRecDepth 65536 in
theorem w_c24 : (Jvm.Cond.code ({ cls := "java/lang/StringUTF16", name := "charAt", desc := "([BI)C" } : Jvm.MethodName) jdk_52_method_83_code (2 : Nat) (Option.some Jvm.ClassFile.FieldType.char)).before args0 about1 = true := code_word (m := ⟨10, 13⟩) (meth := k10m13) (c := k10c13) (by decide +kernel) rfl rfl rfl (by decide +kernel)
set_option maxRecDepth 65536 in
theorem w_c25 : (Jvm.Cond.code ({ cls := "java/lang/StringUTF16", name := "checkIndex", desc := "(I[B)V" } : Jvm.MethodName) jdk_52_method_91_code (2 : Nat) (Option.none : Option Jvm.ClassFile.FieldType)).before args0 about1 = true := code_word (m := ⟨10, 14⟩) (meth := k10m14) (c := k10c14) (by decide +kernel) rfl rfl rfl (by decide +kernel)
set_option maxRecDepth 65536 in
theorem w_c26 : (Jvm.Cond.code ({ cls := "java/lang/StringUTF16", name := "length", desc := "([B)I" } : Jvm.MethodName) jdk_52_method_6_code (1 : Nat) (Option.some Jvm.ClassFile.FieldType.int)).before args0 about1 = true := code_word (m := ⟨10, 5⟩) (meth := k10m5) (c := k10c5) (by decide +kernel) rfl rfl rfl (by decide +kernel)
set_option maxRecDepth 65536 in
theorem w_c27 : (Jvm.Cond.code ({ cls := "java/lang/String", name := "checkIndex", desc := "(II)V" } : Jvm.MethodName) jdk_42_method_155_code (2 : Nat) (Option.none : Option Jvm.ClassFile.FieldType)).before args0 about1 = true := code_word (m := ⟨9, 10⟩) (meth := k9m10) (c := k9c10) (by decide +kernel) rfl rfl rfl (by decide +kernel)
set_option maxRecDepth 65536 in
theorem w_c28 : (Jvm.Cond.code ({ cls := "jdk/internal/util/Preconditions", name := "checkIndex", desc := "(IILjava/util/function/BiFunction;)I" } : Jvm.MethodName) jdk_41_method_11_code (3 : Nat) (Option.some Jvm.ClassFile.FieldType.int)).before args0 about1 = true := code_word (m := ⟨12, 1⟩) (meth := k12m1) (c := k12c1) (by decide +kernel) rfl rfl rfl (by decide +kernel)
set_option maxRecDepth 65536 in
theorem w_c29 : (Jvm.Cond.code ({ cls := "java/lang/Character", name := "isHighSurrogate", desc := "(C)Z" } : Jvm.MethodName) jdk_89_method_14_code (1 : Nat) (Option.some Jvm.ClassFile.FieldType.boolean)).before args0 about1 = true := code_word (m := ⟨11, 0⟩) (meth := k11m0) (c := k11c0) (by decide +kernel) rfl rfl rfl (by decide +kernel)
set_option maxRecDepth 65536 in
theorem w_c30 : (Jvm.Cond.code ({ cls := "java/lang/Character", name := "isLowSurrogate", desc := "(C)Z" } : Jvm.MethodName) jdk_89_method_15_code (1 : Nat) (Option.some Jvm.ClassFile.FieldType.boolean)).before args0 about1 = true := code_word (m := ⟨11, 1⟩) (meth := k11m1) (c := k11c1) (by decide +kernel) rfl rfl rfl (by decide +kernel)
set_option maxRecDepth 65536 in
theorem w_c31 : (Jvm.Cond.code ({ cls := "java/lang/String", name := "substring", desc := "(II)Ljava/lang/String;" } : Jvm.MethodName) jdk_42_method_92_code (5 : Nat) (Option.some (Jvm.ClassFile.FieldType.object "java/lang/String"))).before args0 about1 = true := code_word (m := ⟨9, 5⟩) (meth := k9m5) (c := k9c5) (by decide +kernel) rfl rfl rfl (by decide +kernel)
set_option maxRecDepth 65536 in
theorem w_c32 : (Jvm.Cond.code ({ cls := "java/lang/String", name := "checkBoundsBeginEnd", desc := "(III)V" } : Jvm.MethodName) jdk_42_method_158_code (3 : Nat) (Option.none : Option Jvm.ClassFile.FieldType)).before args0 about1 = true := code_word (m := ⟨9, 12⟩) (meth := k9m12) (c := k9c12) (by decide +kernel) rfl rfl rfl (by decide +kernel)
set_option maxRecDepth 65536 in
theorem w_c33 : (Jvm.Cond.code ({ cls := "jdk/internal/util/Preconditions", name := "checkFromToIndex", desc := "(IIILjava/util/function/BiFunction;)I" } : Jvm.MethodName) jdk_41_method_12_code (4 : Nat) (Option.some Jvm.ClassFile.FieldType.int)).before args0 about1 = true := code_word (m := ⟨12, 2⟩) (meth := k12m2) (c := k12c2) (by decide +kernel) rfl rfl rfl (by decide +kernel)
set_option maxRecDepth 65536 in
theorem w_c34 : (Jvm.Cond.code ({ cls := "java/lang/StringUTF16", name := "newString", desc := "([BII)Ljava/lang/String;" } : Jvm.MethodName) jdk_52_method_69_code (5 : Nat) (Option.some (Jvm.ClassFile.FieldType.object "java/lang/String"))).before args0 about1 = true := code_word (m := ⟨10, 12⟩) (meth := k10m12) (c := k10c12) (by decide +kernel) rfl rfl rfl (by decide +kernel)
set_option maxRecDepth 65536 in
theorem w_c35 : (Jvm.Cond.code ({ cls := "java/lang/StringUTF16", name := "compress", desc := "([BII)[B" } : Jvm.MethodName) jdk_52_method_17_code (6 : Nat) (Option.some (Jvm.ClassFile.FieldType.array Jvm.ClassFile.FieldType.byte))).before args0 about1 = true := code_word (m := ⟨10, 9⟩) (meth := k10m9) (c := k10c9) (by decide +kernel) rfl rfl rfl (by decide +kernel)
set_option maxRecDepth 65536 in
theorem w_c36 : (Jvm.Cond.code ({ cls := "java/lang/StringUTF16", name := "compress", desc := "([BI[BII)I" } : Jvm.MethodName) jdk_52_method_22_code (7 : Nat) (Option.some Jvm.ClassFile.FieldType.int)).before args0 about1 = true := code_word (m := ⟨10, 11⟩) (meth := k10m11) (c := k10c11) (by decide +kernel) rfl rfl rfl (by decide +kernel)
set_option maxRecDepth 65536 in
theorem w_c37 : (Jvm.Cond.code ({ cls := "java/lang/StringUTF16", name := "checkBoundsOffCount", desc := "(II[B)V" } : Jvm.MethodName) jdk_52_method_94_code (3 : Nat) (Option.none : Option Jvm.ClassFile.FieldType)).before args0 about1 = true := code_word (m := ⟨10, 15⟩) (meth := k10m15) (c := k10c15) (by decide +kernel) rfl rfl rfl (by decide +kernel)
set_option maxRecDepth 65536 in
theorem w_c38 : (Jvm.Cond.code ({ cls := "java/lang/String", name := "checkBoundsOffCount", desc := "(III)I" } : Jvm.MethodName) jdk_42_method_157_code (3 : Nat) (Option.some Jvm.ClassFile.FieldType.int)).before args0 about1 = true := code_word (m := ⟨9, 11⟩) (meth := k9m11) (c := k9c11) (by decide +kernel) rfl rfl rfl (by decide +kernel)
set_option maxRecDepth 65536 in
theorem w_c39 : (Jvm.Cond.code ({ cls := "jdk/internal/util/Preconditions", name := "checkFromIndexSize", desc := "(IIILjava/util/function/BiFunction;)I" } : Jvm.MethodName) jdk_41_method_13_code (4 : Nat) (Option.some Jvm.ClassFile.FieldType.int)).before args0 about1 = true := code_word (m := ⟨12, 3⟩) (meth := k12m3) (c := k12c3) (by decide +kernel) rfl rfl rfl (by decide +kernel)
set_option maxRecDepth 65536 in
theorem w_c40 : (Jvm.Cond.code ({ cls := "java/util/Arrays", name := "copyOfRange", desc := "([BII)[B" } : Jvm.MethodName) jdk_65_method_132_code (3 : Nat) (Option.some (Jvm.ClassFile.FieldType.array Jvm.ClassFile.FieldType.byte))).before args0 about1 = true := code_word (m := ⟨13, 2⟩) (meth := k13m2) (c := k13c2) (by decide +kernel) rfl rfl rfl (by decide +kernel)
set_option maxRecDepth 65536 in
theorem w_c41 : (Jvm.Cond.code ({ cls := "java/util/Arrays", name := "copyOfRangeByte", desc := "([BII)[B" } : Jvm.MethodName) jdk_65_method_133_code (5 : Nat) (Option.some (Jvm.ClassFile.FieldType.array Jvm.ClassFile.FieldType.byte))).before args0 about1 = true := code_word (m := ⟨13, 3⟩) (meth := k13m3) (c := k13c3) (by decide +kernel) rfl rfl rfl (by decide +kernel)
set_option maxRecDepth 65536 in
theorem w_c42 : (Jvm.Cond.code ({ cls := "java/util/Arrays", name := "checkLength", desc := "(II)V" } : Jvm.MethodName) jdk_65_method_131_code (2 : Nat) (Option.none : Option Jvm.ClassFile.FieldType)).before args0 about1 = true := code_word (m := ⟨13, 1⟩) (meth := k13m1) (c := k13c1) (by decide +kernel) rfl rfl rfl (by decide +kernel)
set_option maxRecDepth 65536 in
theorem w_c43 : (Jvm.Cond.code ({ cls := "java/lang/Math", name := "min", desc := "(II)I" } : Jvm.MethodName) jdk_29_method_69_code (2 : Nat) (Option.some Jvm.ClassFile.FieldType.int)).before args0 about1 = true := code_word (m := ⟨14, 1⟩) (meth := k14m1) (c := k14c1) (by decide +kernel) rfl rfl rfl (by decide +kernel)
set_option maxRecDepth 65536 in
theorem w_c44 : (Jvm.Cond.code ({ cls := "java/lang/String", name := "<init>", desc := "([BB)V" } : Jvm.MethodName) jdk_42_method_151_code (3 : Nat) (Option.none : Option Jvm.ClassFile.FieldType)).before args0 about1 = true := code_word (m := ⟨9, 7⟩) (meth := k9m7) (c := k9c7) (by decide +kernel) rfl rfl rfl (by decide +kernel)
set_option maxRecDepth 65536 in
theorem w_c45 : (Jvm.Cond.code ({ cls := "com/example/axial/axial/DocumentTextQuotePinLaw", name := "off", desc := "(IZZZ)I" } : Jvm.MethodName) method_6_code (7 : Nat) (Option.some Jvm.ClassFile.FieldType.int)).before args0 about1 = true := code_word (m := ⟨1, 5⟩) (meth := k1m5) (c := k1c5) (by decide +kernel) rfl rfl rfl (by decide +kernel)
set_option maxRecDepth 65536 in
theorem w_c46 : (Jvm.Cond.code ({ cls := "com/example/axial/axial/DocumentTextQuotePinLaw", name := "at", desc := "(Ljava/lang/String;[CII)Z" } : Jvm.MethodName) method_7_code (4 : Nat) (Option.some Jvm.ClassFile.FieldType.boolean)).before args0 about1 = true := code_word (m := ⟨1, 6⟩) (meth := k1m6) (c := k1c6) (by decide +kernel) rfl rfl rfl (by decide +kernel)
set_option maxRecDepth 65536 in
theorem w_c47 : (Jvm.Cond.code ({ cls := "java/lang/StringLatin1", name := "charAt", desc := "([BI)C" } : Jvm.MethodName) jdk_43_method_2_code (2 : Nat) (Option.some Jvm.ClassFile.FieldType.char)).before args0 about1 = true := code_word (m := ⟨16, 1⟩) (meth := k16m1) (c := k16c1) (by decide +kernel) rfl rfl rfl (by decide +kernel)
set_option maxRecDepth 65536 in
theorem w_c48 : (Jvm.Cond.code ({ cls := "java/lang/StringLatin1", name := "newString", desc := "([BII)Ljava/lang/String;" } : Jvm.MethodName) jdk_43_method_47_code (3 : Nat) (Option.some (Jvm.ClassFile.FieldType.object "java/lang/String"))).before args0 about1 = true := code_word (m := ⟨16, 2⟩) (meth := k16m2) (c := k16c2) (by decide +kernel) rfl rfl rfl (by decide +kernel)
def codes1 : List Jvm.Cond := [Jvm.Cond.code x code maxLocals ret, Jvm.Cond.code ({ cls := "com/example/axial/axial/DocumentTextQuotePinLaw", name := "fill", desc := "([CIIZ)V" } : Jvm.MethodName) method_5_code (4 : Nat) (Option.none : Option Jvm.ClassFile.FieldType), Jvm.Cond.code ({ cls := "com/example/axial/axial/DocumentTextQuotePinLaw", name := "bmp", desc := "(I)C" } : Jvm.MethodName) method_4_code (1 : Nat) (Option.some Jvm.ClassFile.FieldType.char), Jvm.Cond.code ({ cls := "com/example/axial/axial/DocumentTextQuotePinLaw", name := "count", desc := "(Z)I" } : Jvm.MethodName) method_3_code (1 : Nat) (Option.some Jvm.ClassFile.FieldType.int), Jvm.Cond.code ({ cls := "java/lang/String", name := "<init>", desc := "([C)V" } : Jvm.MethodName) jdk_42_method_3_code (2 : Nat) (Option.none : Option Jvm.ClassFile.FieldType), Jvm.Cond.code ({ cls := "java/lang/String", name := "<init>", desc := "([CIILjava/lang/Void;)V" } : Jvm.MethodName) jdk_42_method_149_code (6 : Nat) (Option.none : Option Jvm.ClassFile.FieldType), Jvm.Cond.code ({ cls := "java/lang/Object", name := "<init>", desc := "()V" } : Jvm.MethodName) object_method_1_code (1 : Nat) (Option.none : Option Jvm.ClassFile.FieldType), Jvm.Cond.code ({ cls := "java/lang/StringUTF16", name := "compress", desc := "([CII)[B" } : Jvm.MethodName) jdk_52_method_16_code (6 : Nat) (Option.some (Jvm.ClassFile.FieldType.array Jvm.ClassFile.FieldType.byte)), Jvm.Cond.code ({ cls := "java/lang/StringUTF16", name := "compress", desc := "([CI[BII)I" } : Jvm.MethodName) jdk_52_method_21_code (7 : Nat) (Option.some Jvm.ClassFile.FieldType.int), Jvm.Cond.code ({ cls := "java/lang/StringUTF16", name := "toBytes", desc := "([CII)[B" } : Jvm.MethodName) jdk_52_method_14_code (5 : Nat) (Option.some (Jvm.ClassFile.FieldType.array Jvm.ClassFile.FieldType.byte)), Jvm.Cond.code ({ cls := "java/lang/StringUTF16", name := "newBytesFor", desc := "(I)[B" } : Jvm.MethodName) jdk_52_method_2_code (1 : Nat) (Option.some (Jvm.ClassFile.FieldType.array Jvm.ClassFile.FieldType.byte)), Jvm.Cond.code ({ cls := "java/lang/StringUTF16", name := "newBytesLength", desc := "(I)I" } : Jvm.MethodName) jdk_52_method_3_code (1 : Nat) (Option.some Jvm.ClassFile.FieldType.int), Jvm.Cond.code ({ cls := "java/lang/StringUTF16", name := "putChar", desc := "([BII)V" } : Jvm.MethodName) jdk_52_method_4_code (3 : Nat) (Option.none : Option Jvm.ClassFile.FieldType), Jvm.Cond.code ({ cls := "java/lang/StringUTF16", name := "getChar", desc := "([BI)C" } : Jvm.MethodName) jdk_52_method_5_code (2 : Nat) (Option.some Jvm.ClassFile.FieldType.char), Jvm.Cond.code ({ cls := "java/lang/StringUTF16", name := "coderFromArrayLen", desc := "([BI)B" } : Jvm.MethodName) jdk_52_method_15_code (2 : Nat) (Option.some Jvm.ClassFile.FieldType.byte), Jvm.Cond.code ({ cls := "com/example/axial/axial/DocumentText", name := "<init>", desc := "(Ljava/lang/String;)V" } : Jvm.MethodName) prog_2_method_1_code (2 : Nat) (Option.none : Option Jvm.ClassFile.FieldType), Jvm.Cond.code ({ cls := "java/lang/Record", name := "<init>", desc := "()V" } : Jvm.MethodName) jdk_30_method_1_code (1 : Nat) (Option.none : Option Jvm.ClassFile.FieldType), Jvm.Cond.code ({ cls := "com/example/axial/axial/DocumentText", name := "quote", desc := "(II)Ljava/lang/String;" } : Jvm.MethodName) prog_2_method_5_code (4 : Nat) (Option.some (Jvm.ClassFile.FieldType.object "java/lang/String")), Jvm.Cond.code ({ cls := "java/lang/String", name := "offsetByCodePoints", desc := "(II)I" } : Jvm.MethodName) jdk_42_method_60_code (3 : Nat) (Option.some Jvm.ClassFile.FieldType.int), Jvm.Cond.code ({ cls := "java/lang/Character", name := "offsetByCodePoints", desc := "(Ljava/lang/CharSequence;II)I" } : Jvm.MethodName) jdk_89_method_36_code (6 : Nat) (Option.some Jvm.ClassFile.FieldType.int), Jvm.Cond.code ({ cls := "java/lang/String", name := "length", desc := "()I" } : Jvm.MethodName) jdk_42_method_54_code (1 : Nat) (Option.some Jvm.ClassFile.FieldType.int), Jvm.Cond.code ({ cls := "java/lang/String", name := "coder", desc := "()B" } : Jvm.MethodName) jdk_42_method_152_code (1 : Nat) (Option.some Jvm.ClassFile.FieldType.byte), Jvm.Cond.code ({ cls := "java/lang/String", name := "charAt", desc := "(I)C" } : Jvm.MethodName) jdk_42_method_56_code (2 : Nat) (Option.some Jvm.ClassFile.FieldType.char), Jvm.Cond.code ({ cls := "java/lang/String", name := "isLatin1", desc := "()Z" } : Jvm.MethodName) jdk_42_method_154_code (1 : Nat) (Option.some Jvm.ClassFile.FieldType.boolean), Jvm.Cond.code ({ cls := "java/lang/StringUTF16", name := "charAt", desc := "([BI)C" } : Jvm.MethodName) jdk_52_method_83_code (2 : Nat) (Option.some Jvm.ClassFile.FieldType.char), Jvm.Cond.code ({ cls := "java/lang/StringUTF16", name := "checkIndex", desc := "(I[B)V" } : Jvm.MethodName) jdk_52_method_91_code (2 : Nat) (Option.none : Option Jvm.ClassFile.FieldType), Jvm.Cond.code ({ cls := "java/lang/StringUTF16", name := "length", desc := "([B)I" } : Jvm.MethodName) jdk_52_method_6_code (1 : Nat) (Option.some Jvm.ClassFile.FieldType.int), Jvm.Cond.code ({ cls := "java/lang/String", name := "checkIndex", desc := "(II)V" } : Jvm.MethodName) jdk_42_method_155_code (2 : Nat) (Option.none : Option Jvm.ClassFile.FieldType), Jvm.Cond.code ({ cls := "jdk/internal/util/Preconditions", name := "checkIndex", desc := "(IILjava/util/function/BiFunction;)I" } : Jvm.MethodName) jdk_41_method_11_code (3 : Nat) (Option.some Jvm.ClassFile.FieldType.int), Jvm.Cond.code ({ cls := "java/lang/Character", name := "isHighSurrogate", desc := "(C)Z" } : Jvm.MethodName) jdk_89_method_14_code (1 : Nat) (Option.some Jvm.ClassFile.FieldType.boolean), Jvm.Cond.code ({ cls := "java/lang/Character", name := "isLowSurrogate", desc := "(C)Z" } : Jvm.MethodName) jdk_89_method_15_code (1 : Nat) (Option.some Jvm.ClassFile.FieldType.boolean), Jvm.Cond.code ({ cls := "java/lang/String", name := "substring", desc := "(II)Ljava/lang/String;" } : Jvm.MethodName) jdk_42_method_92_code (5 : Nat) (Option.some (Jvm.ClassFile.FieldType.object "java/lang/String")), Jvm.Cond.code ({ cls := "java/lang/String", name := "checkBoundsBeginEnd", desc := "(III)V" } : Jvm.MethodName) jdk_42_method_158_code (3 : Nat) (Option.none : Option Jvm.ClassFile.FieldType), Jvm.Cond.code ({ cls := "jdk/internal/util/Preconditions", name := "checkFromToIndex", desc := "(IIILjava/util/function/BiFunction;)I" } : Jvm.MethodName) jdk_41_method_12_code (4 : Nat) (Option.some Jvm.ClassFile.FieldType.int), Jvm.Cond.code ({ cls := "java/lang/StringUTF16", name := "newString", desc := "([BII)Ljava/lang/String;" } : Jvm.MethodName) jdk_52_method_69_code (5 : Nat) (Option.some (Jvm.ClassFile.FieldType.object "java/lang/String")), Jvm.Cond.code ({ cls := "java/lang/StringUTF16", name := "compress", desc := "([BII)[B" } : Jvm.MethodName) jdk_52_method_17_code (6 : Nat) (Option.some (Jvm.ClassFile.FieldType.array Jvm.ClassFile.FieldType.byte)), Jvm.Cond.code ({ cls := "java/lang/StringUTF16", name := "compress", desc := "([BI[BII)I" } : Jvm.MethodName) jdk_52_method_22_code (7 : Nat) (Option.some Jvm.ClassFile.FieldType.int), Jvm.Cond.code ({ cls := "java/lang/StringUTF16", name := "checkBoundsOffCount", desc := "(II[B)V" } : Jvm.MethodName) jdk_52_method_94_code (3 : Nat) (Option.none : Option Jvm.ClassFile.FieldType), Jvm.Cond.code ({ cls := "java/lang/String", name := "checkBoundsOffCount", desc := "(III)I" } : Jvm.MethodName) jdk_42_method_157_code (3 : Nat) (Option.some Jvm.ClassFile.FieldType.int), Jvm.Cond.code ({ cls := "jdk/internal/util/Preconditions", name := "checkFromIndexSize", desc := "(IIILjava/util/function/BiFunction;)I" } : Jvm.MethodName) jdk_41_method_13_code (4 : Nat) (Option.some Jvm.ClassFile.FieldType.int), Jvm.Cond.code ({ cls := "java/util/Arrays", name := "copyOfRange", desc := "([BII)[B" } : Jvm.MethodName) jdk_65_method_132_code (3 : Nat) (Option.some (Jvm.ClassFile.FieldType.array Jvm.ClassFile.FieldType.byte)), Jvm.Cond.code ({ cls := "java/util/Arrays", name := "copyOfRangeByte", desc := "([BII)[B" } : Jvm.MethodName) jdk_65_method_133_code (5 : Nat) (Option.some (Jvm.ClassFile.FieldType.array Jvm.ClassFile.FieldType.byte)), Jvm.Cond.code ({ cls := "java/util/Arrays", name := "checkLength", desc := "(II)V" } : Jvm.MethodName) jdk_65_method_131_code (2 : Nat) (Option.none : Option Jvm.ClassFile.FieldType), Jvm.Cond.code ({ cls := "java/lang/Math", name := "min", desc := "(II)I" } : Jvm.MethodName) jdk_29_method_69_code (2 : Nat) (Option.some Jvm.ClassFile.FieldType.int), Jvm.Cond.code ({ cls := "java/lang/String", name := "<init>", desc := "([BB)V" } : Jvm.MethodName) jdk_42_method_151_code (3 : Nat) (Option.none : Option Jvm.ClassFile.FieldType), Jvm.Cond.code ({ cls := "com/example/axial/axial/DocumentTextQuotePinLaw", name := "off", desc := "(IZZZ)I" } : Jvm.MethodName) method_6_code (7 : Nat) (Option.some Jvm.ClassFile.FieldType.int), Jvm.Cond.code ({ cls := "com/example/axial/axial/DocumentTextQuotePinLaw", name := "at", desc := "(Ljava/lang/String;[CII)Z" } : Jvm.MethodName) method_7_code (4 : Nat) (Option.some Jvm.ClassFile.FieldType.boolean), Jvm.Cond.code ({ cls := "java/lang/StringLatin1", name := "charAt", desc := "([BI)C" } : Jvm.MethodName) jdk_43_method_2_code (2 : Nat) (Option.some Jvm.ClassFile.FieldType.char), Jvm.Cond.code ({ cls := "java/lang/StringLatin1", name := "newString", desc := "([BII)Ljava/lang/String;" } : Jvm.MethodName) jdk_43_method_47_code (3 : Nat) (Option.some (Jvm.ClassFile.FieldType.object "java/lang/String"))]
set_option maxRecDepth 65536 in
theorem codes_eq : words1.filter isCode = codes1 := rfl
theorem w_codes : ∀ c ∈ words1.filter isCode, c.before args0 about1 = true := by
  rw [codes_eq]
  intro c hc
  simp only [codes1, List.mem_cons, List.not_mem_nil, or_false] at hc
  rcases hc with rfl | rfl | rfl | rfl | rfl | rfl | rfl | rfl | rfl | rfl | rfl | rfl | rfl | rfl | rfl | rfl | rfl | rfl | rfl | rfl | rfl | rfl | rfl | rfl | rfl | rfl | rfl | rfl | rfl | rfl | rfl | rfl | rfl | rfl | rfl | rfl | rfl | rfl | rfl | rfl | rfl | rfl | rfl | rfl | rfl | rfl | rfl | rfl | rfl
  · exact w_c0
  · exact w_c1
  · exact w_c2
  · exact w_c3
  · exact w_c4
  · exact w_c5
  · exact w_c6
  · exact w_c7
  · exact w_c8
  · exact w_c9
  · exact w_c10
  · exact w_c11
  · exact w_c12
  · exact w_c13
  · exact w_c14
  · exact w_c15
  · exact w_c16
  · exact w_c17
  · exact w_c18
  · exact w_c19
  · exact w_c20
  · exact w_c21
  · exact w_c22
  · exact w_c23
  · exact w_c24
  · exact w_c25
  · exact w_c26
  · exact w_c27
  · exact w_c28
  · exact w_c29
  · exact w_c30
  · exact w_c31
  · exact w_c32
  · exact w_c33
  · exact w_c34
  · exact w_c35
  · exact w_c36
  · exact w_c37
  · exact w_c38
  · exact w_c39
  · exact w_c40
  · exact w_c41
  · exact w_c42
  · exact w_c43
  · exact w_c44
  · exact w_c45
  · exact w_c46
  · exact w_c47
  · exact w_c48
set_option maxRecDepth 65536 in
theorem w_t1 : (words1.take 24).all (fun c => isCode c || c.before args0 about1) = true := by decide +kernel
set_option maxRecDepth 65536 in
theorem w_t2 : ((words1.drop 24).take 24).all (fun c => isCode c || c.before args0 about1) = true := by decide +kernel
set_option maxRecDepth 65536 in
theorem w_t3 : (((words1.drop 24).drop 24).take 24).all (fun c => isCode c || c.before args0 about1) = true := by decide +kernel
set_option maxRecDepth 65536 in
theorem w_t4 : ((((words1.drop 24).drop 24).drop 24).take 24).all (fun c => isCode c || c.before args0 about1) = true := by decide +kernel
set_option maxRecDepth 65536 in
theorem w_t5 : (((((words1.drop 24).drop 24).drop 24).drop 24).take 24).all (fun c => isCode c || c.before args0 about1) = true := by decide +kernel
set_option maxRecDepth 65536 in
theorem w_t6 : ((((((words1.drop 24).drop 24).drop 24).drop 24).drop 24).take 24).all (fun c => isCode c || c.before args0 about1) = true := by decide +kernel
set_option maxRecDepth 65536 in
theorem w_t7 : (((((((words1.drop 24).drop 24).drop 24).drop 24).drop 24).drop 24).take 24).all (fun c => isCode c || c.before args0 about1) = true := by decide +kernel
set_option maxRecDepth 65536 in
theorem w_t8 : ((((((((words1.drop 24).drop 24).drop 24).drop 24).drop 24).drop 24).drop 24).take 24).all (fun c => isCode c || c.before args0 about1) = true := by decide +kernel
set_option maxRecDepth 65536 in
theorem w_t9 : (((((((((words1.drop 24).drop 24).drop 24).drop 24).drop 24).drop 24).drop 24).drop 24).take 24).all (fun c => isCode c || c.before args0 about1) = true := by decide +kernel
set_option maxRecDepth 65536 in
theorem w_t10 : (((((((((words1.drop 24).drop 24).drop 24).drop 24).drop 24).drop 24).drop 24).drop 24).drop 24).all (fun c => isCode c || c.before args0 about1) = true := by decide +kernel
theorem w_tables : (allAtoms (Jvm.Cond.code x code maxLocals ret :: tables_1)).before args0 about1 = true := by
  rw [allAtoms_all]
  show words1.all (fun c => c.before args0 about1) = true
  refine all_split ?_ w_codes
  rw [← List.take_append_drop 24 words1, List.all_append, w_t1, ← List.take_append_drop 24 (words1.drop 24), List.all_append, w_t2, ← List.take_append_drop 24 ((words1.drop 24).drop 24), List.all_append, w_t3, ← List.take_append_drop 24 (((words1.drop 24).drop 24).drop 24), List.all_append, w_t4, ← List.take_append_drop 24 ((((words1.drop 24).drop 24).drop 24).drop 24), List.all_append, w_t5, ← List.take_append_drop 24 (((((words1.drop 24).drop 24).drop 24).drop 24).drop 24), List.all_append, w_t6, ← List.take_append_drop 24 ((((((words1.drop 24).drop 24).drop 24).drop 24).drop 24).drop 24), List.all_append, w_t7, ← List.take_append_drop 24 (((((((words1.drop 24).drop 24).drop 24).drop 24).drop 24).drop 24).drop 24), List.all_append, w_t8, ← List.take_append_drop 24 ((((((((words1.drop 24).drop 24).drop 24).drop 24).drop 24).drop 24).drop 24).drop 24), List.all_append, w_t9, w_t10]
  rfl
set_option maxRecDepth 65536 in
theorem w_rest : rest_1_c.before args0 about1 = true := by decide +kernel
set_option maxRecDepth 65536 in
theorem w_case : (Jvm.Cond.and given_1 narrow_1).before args0 about1 = true := by decide +kernel
set_option maxRecDepth 65536 in
theorem w_consts : constsHeld consts_1 about1 := Jvm.Lit.constsHeldB_iff.mp (by decide +kernel)
theorem w_applies : (headSpec (Jvm.Cond.code x code maxLocals ret :: tables_1) room_1).applies x e0.platform about1 = true :=
  (Spec.applies_iff w_frames).mpr ⟨w_running, w_runnable, w_alone, w_named, w_hears, w_ripe, w_room, w_tables⟩
theorem atStart : AtStart classFile x code maxLocals ret World_1 tables_1 room_1 Calls_1 rest_1 Pre_1 launch0 p0 e0 about1 theMethod args0 below0 :=
  ⟨lists_1, trivial, launch0.admits_env _ _ _, launch0.least_env, fairChoices_fair.cas, fairChoices_fair.clock, w_frames, w_args, w_heap, w_applies, ⟨w_consts, trivial⟩, w_rest, w_case⟩
end start1
theorem witness_1 : WitnessClaimed_1 := ⟨start1.p0, start1.e0, start1.about1, start1.theMethod, start1.args0, start1.below0, start1.atStart⟩
end Jvm.Pilot.@@N@@
