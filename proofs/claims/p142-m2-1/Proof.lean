import JvmDerived
import JvmDerived.Pilot.@@N@@Statement
import JvmDerived.Pilot.@@N@@Code
set_option linter.unusedVariables false
set_option linter.unusedSimpArgs false
namespace Jvm.Pilot.@@N@@
namespace Own
open Jvm Jvm.ClassFile Sem Op Lib Jvm.Free Jvm.Stand Jvm.LawKit Jvm.RoadKit Bundle
/-! A small logic of walks over the library's Stand: WP says that the run from a frame returns well; one rule an instruction; a callee by Con. -/
abbrev Ctx : Type := Program × Env × Room × State × MethodId × Array Value × List Frame × Method × Code
abbrev Ctx.p (K : Ctx) : Program := K.1
abbrev Ctx.e (K : Ctx) : Env := K.2.1
abbrev Ctx.R (K : Ctx) : Room := K.2.2.1
abbrev Ctx.s (K : Ctx) : State := K.2.2.2.1
abbrev Ctx.m (K : Ctx) : MethodId := K.2.2.2.2.1
abbrev Ctx.args (K : Ctx) : Array Value := K.2.2.2.2.2.1
abbrev Ctx.below (K : Ctx) : List Frame := K.2.2.2.2.2.2.1
abbrev Ctx.meth (K : Ctx) : Method := K.2.2.2.2.2.2.2.1
abbrev Ctx.c (K : Ctx) : Code := K.2.2.2.2.2.2.2.2
/-- warmer by links alone -/
def Wm (vm vm1 : Vm) : Prop := ∀ s : State, s.vm = vm → s.WarmedH vm1
theorem Wm.refl (vm : Vm) : Wm vm vm := fun s e => by subst e; exact State.WarmedH.refl s
theorem Wm.of {s0 : State} {vm1 : Vm} (h : s0.WarmedH vm1) : Wm s0.vm vm1 := fun s e => by
  have q : s.WarmedH s0.vm := by rw [← e]; exact State.WarmedH.refl s
  exact State.WarmedH.trans q h
theorem Wm.trans {vm vm1 vm2 : Vm} (A : Wm vm vm1) (B : Wm vm1 vm2) : Wm vm vm2 := fun s e => State.WarmedH.trans (t := s.setVm vm1) (A s e) (B (s.setVm vm1) rfl)
/-- RoadKit's CHr; it: whether the walk may intern -/
def CHx (it : Prop) (Z : State) (EL : List (String × Nat)) (vm : Vm) (h : Heap) (vm1 : Vm) (h' : Heap) : Prop := CHv Z EL vm1 h' ∧ h.size ≤ h'.size ∧ (∀ y, Bk Z EL vm1 h' y → Bk Z EL vm h y ∨ (it ∧ h.size ≤ y)) ∧ (it ∨ Wm vm vm1)
section CHxs
variable {it it' : Prop} {Z : State} {EL : List (String × Nat)} {vm vm1 vm2 : Vm} {h h' h2 : Heap}
theorem CHx.refl (H : CHv Z EL vm h) : CHx it Z EL vm h vm h := ⟨H, Nat.le_refl _, fun _ q => Or.inl q, Or.inr (Wm.refl _)⟩
theorem CHx.trans (A : CHx it Z EL vm h vm1 h') (B : CHx it Z EL vm1 h' vm2 h2) : CHx it Z EL vm h vm2 h2 := ⟨B.1, Nat.le_trans A.2.1 B.2.1, fun y q => by
  rcases B.2.2.1 y q with q | q
  · exact A.2.2.1 y q
  · exact Or.inr ⟨q.1, Nat.le_trans A.2.1 q.2⟩, A.2.2.2.elim Or.inl fun a => B.2.2.2.imp id fun b => a.trans b⟩
theorem CHx.safe (A : CHx it Z EL vm h vm1 h') {x : Addr} (hx : x < h.size) (S : Safe Z EL vm h x) : Safe Z EL vm1 h' x := fun B => by
  rcases A.2.2.1 x B with q | q
  · exact S q
  · exact absurd hx (Nat.not_lt.mpr q.2)
theorem CHx.ext (E : Ext h h') (H : CHv Z EL vm h) : CHx it Z EL vm h vm h' := ⟨H.ext E, E.1, fun y q => Or.inl ((H.step fun _ _ _ q => E.2 _ _ q).2 y q), Or.inr (Wm.refl _)⟩
theorem CHx.wr {a : Addr} {sl : Nat} {v : Value} (W : Wr h h' a sl v) (S : Safe Z EL vm h a) (H : CHv Z EL vm h) : CHx it Z EL vm h vm h' := ⟨H.wr W S, Nat.le_of_eq W.size.symm, fun y q => Or.inl ((H.wrStep W S).2 y q), Or.inr (Wm.refl _)⟩
theorem CHx.mono (hi : it' → it) (A : CHx it' Z EL vm h vm1 h') : CHx it Z EL vm h vm1 h' := ⟨A.1, A.2.1, fun y q => (A.2.2.1 y q).imp id fun z => ⟨hi z.1, z.2⟩, A.2.2.2.imp hi id⟩
theorem CHx.of (hi : it) (A : CHr Z EL vm h vm1 h') : CHx it Z EL vm h vm1 h' := ⟨A.1, A.2.1, fun y q => (A.2.2 y q).imp id fun z => ⟨hi, z⟩, Or.inl hi⟩
/-- over the same heap nothing new is booked -/
theorem CHx.still (A : CHr Z EL vm h vm1 h) (w : Wm vm vm1) : CHx it Z EL vm h vm1 h := ⟨A.1, A.2.1, fun y q => Or.inl ((A.2.2 y q).elim id fun z => by
  obtain ⟨c, hc⟩ := q.there
  exact absurd (Array.getElem?_eq_some_iff.mp hc).1 (Nat.not_lt.mpr z)), Or.inr w⟩
end CHxs
/-- addresses that may be written: new since the law's start, no constant's cell -/
def Owned (Z : State) (EL : List (String × Nat)) (it : Prop) (n0 : Nat) (h0 : Heap) (ws0 : List Addr) (vm : Vm) (h : Heap) (ws : List Addr) : Prop :=
  ∀ x ∈ ws, n0 ≤ x ∧ x < h.size ∧ Safe Z EL vm h x ∧ (x ∈ ws0 ∨ h0.size ≤ x)
def Pos (l : Launch) (Z : State) (EL : List (String × Nat)) (it : Prop) (n0 : Nat) (own : String) (h0 : Heap) (ws0 : List Addr) (K : Ctx) (h : Heap) (ws : List Addr) (cells slots : Nat) (vm : Vm) (T : State) (locs : List Loc) : Prop :=
  Stand K.p l K.e K.R (K.s.setVm vm) K.m K.args K.below K.meth K.c T locs cells slots ∧ T.heap = h ∧ (∃ k, K.s.Since vm k ∧ k ≤ h.size) ∧ Z.Warmed39 vm ∧ vm.findClass own = some K.m.cls ∧
  CHx it Z EL K.s.vm h0 vm h ∧ Fr n0 locs ∧ Keep h0 h ws0 ∧ Old Z n0 h ∧ Owned Z EL it n0 h0 ws0 vm h ws
def Fine (Z : State) (EL : List (String × Nat)) (it : Prop) (n0 : Nat) (h0 : Heap) (ws0 : List Addr) (Q : Option Value → Heap → Prop) (cl sl : Nat) (s : State) (o : Outcome) (t : State) : Prop :=
  ∃ v L, o = .returned v ∧ (Q v t.heap ∧ Keep h0 t.heap ws0 ∧ Fr n0 L) ∧ CHx it Z EL s.vm h0 t.vm t.heap ∧ ReturnedEndW s o t L cl sl
def Goes (Z : State) (EL : List (String × Nat)) (it : Prop) (n0 : Nat) (h0 : Heap) (ws0 : List Addr) (Q : Option Value → Heap → Prop) (K : Ctx) (S : State) : Prop :=
  ∃ s₂ o, Steps K.p.tables K.e K.below S s₂ ∧ s₂.status = .running ∧ Ended s₂ K.below o ∧ Fine Z EL it n0 h0 ws0 Q K.R.cells K.R.slots K.s o s₂
def WP (l : Launch) (Z : State) (EL : List (String × Nat)) (it : Prop) (n0 : Nat) (own : String) (h0 : Heap) (ws0 : List Addr) (Q : Option Value → Heap → Prop) (K : Ctx) (h : Heap) (ws : List Addr) (cells slots : Nat) (g : JFrame) : Prop :=
  ∀ (vm : Vm) (T : State) (locs : List Loc), Pos l Z EL it n0 own h0 ws0 K h ws cells slots vm T locs → Goes Z EL it n0 h0 ws0 Q K (T.setTop g)
/-- what the walk knows of its own method -/
def Ok (l : Launch) (Z : State) (a0 : Array Value) (EL : List (String × Nat)) (it : Prop) (n0 : Nat) (own : String) (h0 : Heap) (ws0 : List Addr) (Q : Option Value → Heap → Prop) (code : ByteArray) (maxL : Nat) (ret : Option FieldType) (nm : String) (rm : Room) (K : Ctx) : Prop :=
  K.p.tables.exec = Jvm.exec ∧ EW Z a0 EL ∧ K.c.code = code ∧ K.c.maxLocals = maxL ∧ K.meth.sig.returnType = ret ∧ K.meth.name = nm ∧ K.meth.locks = false ∧ K.R = rm
/-- a method's law, as its body gives it -/
def Met (l : Launch) (Z : State) (EL : List (String × Nat)) (it : Prop) (n0 : Nat) (y : MethodName) (bytes : ByteArray) (maxL : Nat) (ret : Option FieldType) (rm : Room) (cs : List Jvm.Cond) (as : Array Value) (h : Heap) (ws : List Addr) (Q : Option Value → Heap → Prop) : Prop :=
  MetFree l y (head1 (Jvm.Cond.code y bytes maxL ret :: cs) rm) (fun a U => a = as ∧ Z.Warmed39 U.vm ∧ U.heap = h ∧ CHv Z EL U.vm h ∧ Old Z n0 h ∧ ∀ x ∈ ws, n0 ≤ x ∧ x < h.size ∧ Safe Z EL U.vm h x) (fun _ _ _ _ _ => True)
    (fun _ U o U' => Fine Z EL it n0 h ws Q rm.cells rm.slots U o U')
/-- a method's law, as a caller takes it -/
def Con (l : Launch) (Z : State) (a0 : Array Value) (EL : List (String × Nat)) (it : Prop) (n0 : Nat) (y : MethodName) (fr lo cl sl : Nat) (as : Array Value) (h : Heap) (ws : List Addr) (Q : Option Value → Heap → Prop) : Prop :=
  ∀ (R : Room) (p : Program) (e : Env) (below : List Frame) (s : State) (args : Array Value) (len W : Nat) (vm0 : Vm), Z.Warmed39 vm0 → EW Z a0 EL → CHv Z EL vm0 h → Old Z n0 h → (∀ x ∈ ws, n0 ≤ x ∧ x < h.size ∧ Safe Z EL vm0 h x) → fr ≤ R.frames → W + lo ≤ R.locals →
    BackS l R p e below (s.setVm vm0) args y len W (fun A a => a = as ∧ A.U.heap = h ∧ A.cells + cl ≤ R.cells ∧ A.slots + sl ≤ R.slots)
      (fun A _ v B => ∃ L, (Q v B.U.heap ∧ Keep h B.U.heap ws ∧ Fr n0 L) ∧ B.locs = A.locs ++ L ∧ B.cells = A.cells + cl ∧ B.slots = A.slots + sl ∧ CHx it Z EL vm0 h B.U.vm B.U.heap)
section Rules
variable {l : Launch} {Z : State} {a0 : Array Value} {EL : List (String × Nat)} {it : Prop} {n0 : Nat} {own : String} {h0 : Heap} {ws0 : List Addr} {Q : Option Value → Heap → Prop} {code : ByteArray} {maxL : Nat} {ret : Option FieldType} {nm : String} {rm : Room} {K : Ctx} {h : Heap} {ws : List Addr} {cells slots pc : Nat} {Ls : Array Slot} {st : List Value} {g g' : JFrame}
theorem Goes.of {S S' : State} (f : ∀ t, Steps K.p.tables K.e K.below S' t → Steps K.p.tables K.e K.below S t) (k : Goes Z EL it n0 h0 ws0 Q K S') : Goes Z EL it n0 h0 ws0 Q K S := by
  obtain ⟨s₂, o, h1, h2⟩ := k
  exact ⟨s₂, o, f _ h1, h2⟩
abbrev Ok.W (C : Ok l Z a0 EL it n0 own h0 ws0 Q code maxL ret nm rm K) (h : Heap) (ws : List Addr) (cells slots : Nat) (g : JFrame) : Prop := WP l Z EL it n0 own h0 ws0 Q K h ws cells slots g
theorem Ok.exec (C : Ok l Z a0 EL it n0 own h0 ws0 Q code maxL ret nm rm K) : K.p.tables.exec = Jvm.exec := C.1
theorem Ok.ew (C : Ok l Z a0 EL it n0 own h0 ws0 Q code maxL ret nm rm K) : EW Z a0 EL := C.2.1
theorem Ok.bytes (C : Ok l Z a0 EL it n0 own h0 ws0 Q code maxL ret nm rm K) : K.c.code = code := C.2.2.1
theorem Ok.maxl (C : Ok l Z a0 EL it n0 own h0 ws0 Q code maxL ret nm rm K) : K.c.maxLocals = maxL := C.2.2.2.1
theorem Ok.rets (C : Ok l Z a0 EL it n0 own h0 ws0 Q code maxL ret nm rm K) : K.meth.sig.returnType = ret := C.2.2.2.2.1
theorem Ok.named (C : Ok l Z a0 EL it n0 own h0 ws0 Q code maxL ret nm rm K) : K.meth.name = nm := C.2.2.2.2.2.1
theorem Ok.unlocked (C : Ok l Z a0 EL it n0 own h0 ws0 Q code maxL ret nm rm K) : K.meth.locks = false := C.2.2.2.2.2.2.1
theorem Ok.room (C : Ok l Z a0 EL it n0 own h0 ws0 Q code maxL ret nm rm K) : K.R = rm := C.2.2.2.2.2.2.2
theorem WP.step (f : ∀ vm T locs, Pos l Z EL it n0 own h0 ws0 K h ws cells slots vm T locs → ∀ t, Steps K.p.tables K.e K.below (T.setTop g') t → Steps K.p.tables K.e K.below (T.setTop g) t) (r : WP l Z EL it n0 own h0 ws0 Q K h ws cells slots g') : WP l Z EL it n0 own h0 ws0 Q K h ws cells slots g :=
  fun vm T locs P => Goes.of (f vm T locs P) (r vm T locs P)
/-- what a walk may lean on, wherever it stands -/
theorem Ok.know (C : Ok l Z a0 EL it n0 own h0 ws0 Q code maxL ret nm rm K) (r : n0 ≤ h.size → Keep h0 h ws0 → Old Z n0 h → (∀ x ∈ ws, n0 ≤ x ∧ x < h.size) → WP l Z EL it n0 own h0 ws0 Q K h ws cells slots g) : WP l Z EL it n0 own h0 ws0 Q K h ws cells slots g :=
  fun vm T locs P => r (P.2.2.2.2.2.2.2.2.1.1 ▸ P.2.2.2.2.2.2.2.2.1.2.1) P.2.2.2.2.2.2.2.1 P.2.2.2.2.2.2.2.2.1 (fun x hx => ⟨(P.2.2.2.2.2.2.2.2.2 x hx).1, (P.2.2.2.2.2.2.2.2.2 x hx).2.1⟩) vm T locs P
theorem Pos.ext {vm : Vm} {T T' : State} {locs : List Loc} {h' : Heap} {cells' slots' : Nat} (P : Pos l Z EL it n0 own h0 ws0 K h ws cells slots vm T locs) (X : Stand K.p l K.e K.R (K.s.setVm vm) K.m K.args K.below K.meth K.c T' locs cells' slots') (e : T'.heap = h') (E : Ext h h') :
    Pos l Z EL it n0 own h0 ws0 K h' ws cells' slots' vm T' locs := by
  obtain ⟨-, -, ⟨k, hS, hk⟩, hZ, hown, H, N, Kp, O, Ow⟩ := P
  exact ⟨X, e, ⟨k, hS, Nat.le_trans hk E.1⟩, hZ, hown, H.trans (CHx.ext E H.1), N, Kp.ext E, O.ext E, fun x hx => ⟨(Ow x hx).1, Nat.lt_of_lt_of_le (Ow x hx).2.1 E.1, (Ow x hx).2.2.1.ext E H.1, (Ow x hx).2.2.2⟩⟩
theorem Pos.new {vm : Vm} {T T' : State} {locs : List Loc} {h' : Heap} {cells' slots' : Nat} (P : Pos l Z EL it n0 own h0 ws0 K h ws cells slots vm T locs) (X : Stand K.p l K.e K.R (K.s.setVm vm) K.m K.args K.below K.meth K.c T' locs cells' slots') (e : T'.heap = h') (E : Ext h h') (hl : h.size < h'.size) :
    Pos l Z EL it n0 own h0 ws0 K h' (h.size :: ws) cells' slots' vm T' locs := by
  have P' := P.ext X e E
  obtain ⟨-, -, -, -, -, H, -, Kp, O, -⟩ := P
  refine ⟨P'.1, P'.2.1, P'.2.2.1, P'.2.2.2.1, P'.2.2.2.2.1, P'.2.2.2.2.2.1, P'.2.2.2.2.2.2.1, P'.2.2.2.2.2.2.2.1, P'.2.2.2.2.2.2.2.2.1, fun x hx => ?_⟩
  rcases List.mem_cons.mp hx with rfl | hx
  · exact ⟨O.1 ▸ O.2.1, hl, (Safe.new (Nat.le_refl _)).ext E H.1, Or.inr Kp.1⟩
  · exact P'.2.2.2.2.2.2.2.2.2 x hx
theorem Pos.wr {vm : Vm} {T T' : State} {locs : List Loc} {h' : Heap} {a : Nat} {sl : Nat} {v : Value} (P : Pos l Z EL it n0 own h0 ws0 K h ws cells slots vm T locs) (ha : a ∈ ws) (X : Stand K.p l K.e K.R (K.s.setVm vm) K.m K.args K.below K.meth K.c T' (locs ++ [⟨a, sl⟩]) cells slots) (e : T'.heap = h') (W : Wr h h' a sl v) :
    Pos l Z EL it n0 own h0 ws0 K h' ws cells slots vm T' (locs ++ [⟨a, sl⟩]) := by
  obtain ⟨-, -, ⟨k, hS, hk⟩, hZ, hown, H, N, Kp, O, Ow⟩ := P
  obtain ⟨q1, q2, q3, q4⟩ := Ow a ha
  exact ⟨X, e, ⟨k, hS, W.size ▸ hk⟩, hZ, hown, H.trans (CHx.wr W q3 H.1), Fr.snoc X N q1, Kp.wr W q4, O.wr W q1, fun x hx => ⟨(Ow x hx).1, W.size ▸ (Ow x hx).2.1, Safe.wr W q3 H.1 (Ow x hx).2.2.1, (Ow x hx).2.2.2⟩⟩
/-! plain steps -/
theorem Ok.aloadN (C : Ok l Z a0 EL it n0 own h0 ws0 Q code maxL ret nm rm K) {k : Fin 4} {v : Value} (hd : decode code pc = .ok (.aload_n k, 1)) (hl : Ls[k.val]? = some (.val v)) (hv : v.isRef = true) (r : WP l Z EL it n0 own h0 ws0 Q K h ws cells slots (mkF K.m (pc + 1) Ls (v :: st))) : WP l Z EL it n0 own h0 ws0 Q K h ws cells slots (mkF K.m pc Ls st) :=
  WP.step (fun _ _ _ P _ k => XS.aloadN P.1.here C.exec rfl (hb C.bytes hd) hl hv k) r
theorem Ok.aload (C : Ok l Z a0 EL it n0 own h0 ws0 Q code maxL ret nm rm K) {k : Nat} {v : Value} (hd : decode code pc = .ok (.aload k, 2)) (hl : Ls[k]? = some (.val v)) (hv : v.isRef = true) (r : WP l Z EL it n0 own h0 ws0 Q K h ws cells slots (mkF K.m (pc + 2) Ls (v :: st))) : WP l Z EL it n0 own h0 ws0 Q K h ws cells slots (mkF K.m pc Ls st) :=
  WP.step (fun _ _ _ P _ k => XS.aload P.1.here C.exec rfl (hb C.bytes hd) hl hv k) r
theorem Ok.iloadN (C : Ok l Z a0 EL it n0 own h0 ws0 Q code maxL ret nm rm K) {k : Fin 4} {v : Int32} (hd : decode code pc = .ok (.iload_n k, 1)) (hl : Ls[k.val]? = some (.val (.int v))) (r : WP l Z EL it n0 own h0 ws0 Q K h ws cells slots (mkF K.m (pc + 1) Ls (.int v :: st))) : WP l Z EL it n0 own h0 ws0 Q K h ws cells slots (mkF K.m pc Ls st) :=
  WP.step (fun _ _ _ P _ k => XS.iloadN P.1.here C.exec rfl (hb C.bytes hd) hl k) r
theorem Ok.iload (C : Ok l Z a0 EL it n0 own h0 ws0 Q code maxL ret nm rm K) {k : Nat} {v : Int32} (hd : decode code pc = .ok (.iload k, 2)) (hl : Ls[k]? = some (.val (.int v))) (r : WP l Z EL it n0 own h0 ws0 Q K h ws cells slots (mkF K.m (pc + 2) Ls (.int v :: st))) : WP l Z EL it n0 own h0 ws0 Q K h ws cells slots (mkF K.m pc Ls st) :=
  WP.step (fun _ _ _ P _ k => XS.iload P.1.here C.exec rfl (hb C.bytes hd) hl k) r
theorem Ok.lloadN (C : Ok l Z a0 EL it n0 own h0 ws0 Q code maxL ret nm rm K) {k : Fin 4} {v : Int64} (hd : decode code pc = .ok (.lload_n k, 1)) (hl : Ls[k.val]? = some (.val (.long v))) (r : WP l Z EL it n0 own h0 ws0 Q K h ws cells slots (mkF K.m (pc + 1) Ls (.long v :: st))) : WP l Z EL it n0 own h0 ws0 Q K h ws cells slots (mkF K.m pc Ls st) :=
  WP.step (fun _ _ _ P _ k => XS.lloadN P.1.here C.exec rfl (hb C.bytes hd) hl k) r
theorem Ok.lload (C : Ok l Z a0 EL it n0 own h0 ws0 Q code maxL ret nm rm K) {k : Nat} {v : Int64} (hd : decode code pc = .ok (.lload k, 2)) (hl : Ls[k]? = some (.val (.long v))) (r : WP l Z EL it n0 own h0 ws0 Q K h ws cells slots (mkF K.m (pc + 2) Ls (.long v :: st))) : WP l Z EL it n0 own h0 ws0 Q K h ws cells slots (mkF K.m pc Ls st) :=
  WP.step (fun _ _ _ P _ k => XS.lload P.1.here C.exec rfl (hb C.bytes hd) hl k) r
theorem Ok.iconst (C : Ok l Z a0 EL it n0 own h0 ws0 Q code maxL ret nm rm K) {i : Int} {v : Int32} (hd : decode code pc = .ok (.iconst i, 1)) (hv : Int32.ofInt i = v) (r : WP l Z EL it n0 own h0 ws0 Q K h ws cells slots (mkF K.m (pc + 1) Ls (.int v :: st))) : WP l Z EL it n0 own h0 ws0 Q K h ws cells slots (mkF K.m pc Ls st) := by
  subst hv; exact WP.step (fun _ _ _ P _ k => XS.iconst P.1.here C.exec rfl (hb C.bytes hd) k) r
theorem Ok.bipush (C : Ok l Z a0 EL it n0 own h0 ws0 Q code maxL ret nm rm K) {i : Int} {v : Int32} (hd : decode code pc = .ok (.bipush i, 2)) (hv : (Int8.ofInt i).toInt32 = v) (r : WP l Z EL it n0 own h0 ws0 Q K h ws cells slots (mkF K.m (pc + 2) Ls (.int v :: st))) : WP l Z EL it n0 own h0 ws0 Q K h ws cells slots (mkF K.m pc Ls st) := by
  subst hv; exact WP.step (fun _ _ _ P _ k => XS.bipush P.1.here C.exec rfl (hb C.bytes hd) k) r
theorem Ok.sipush (C : Ok l Z a0 EL it n0 own h0 ws0 Q code maxL ret nm rm K) {i : Int} {v : Int32} (hd : decode code pc = .ok (.sipush i, 3)) (hv : (Int16.ofInt i).toInt32 = v) (r : WP l Z EL it n0 own h0 ws0 Q K h ws cells slots (mkF K.m (pc + 3) Ls (.int v :: st))) : WP l Z EL it n0 own h0 ws0 Q K h ws cells slots (mkF K.m pc Ls st) := by
  subst hv; exact WP.step (fun _ _ _ P _ k => XS.sipush P.1.here C.exec rfl (hb C.bytes hd) k) r
theorem Ok.lconst (C : Ok l Z a0 EL it n0 own h0 ws0 Q code maxL ret nm rm K) {i : Fin 2} (hd : decode code pc = .ok (.lconst i, 1)) {v : Int64} (hv : Int64.ofNat i.val = v) (r : WP l Z EL it n0 own h0 ws0 Q K h ws cells slots (mkF K.m (pc + 1) Ls (.long v :: st))) : WP l Z EL it n0 own h0 ws0 Q K h ws cells slots (mkF K.m pc Ls st) := by
  subst hv; exact WP.step (fun _ _ _ P _ k => XS.lconst P.1.here C.exec rfl (hb C.bytes hd) k) r
theorem Ok.aconstNull (C : Ok l Z a0 EL it n0 own h0 ws0 Q code maxL ret nm rm K) (hd : decode code pc = .ok (.aconst_null, 1)) (r : WP l Z EL it n0 own h0 ws0 Q K h ws cells slots (mkF K.m (pc + 1) Ls (.null :: st))) : WP l Z EL it n0 own h0 ws0 Q K h ws cells slots (mkF K.m pc Ls st) :=
  WP.step (fun _ _ _ P _ k => XS.aconstNull P.1.here C.exec rfl (hb C.bytes hd) k) r
theorem Ok.ldcInt (C : Ok l Z a0 EL it n0 own h0 ws0 Q code maxL ret nm rm K) {index : Nat} {v : Int32} (w : (Jvm.Cond.constant own index v).before a0 Z = true) (hd : decode code pc = .ok (.ldc index, 2)) (r : WP l Z EL it n0 own h0 ws0 Q K h ws cells slots (mkF K.m (pc + 2) Ls (.int v :: st))) : WP l Z EL it n0 own h0 ws0 Q K h ws cells slots (mkF K.m pc Ls st) :=
  WP.step (fun _ _ _ P t k => P.1.ldcInt C.exec P.2.2.2.2.1 (mv P.2.2.2.1 w) (g := mkF K.m pc Ls st) rfl (hb C.bytes hd) t k) r
theorem Ok.ldcwInt (C : Ok l Z a0 EL it n0 own h0 ws0 Q code maxL ret nm rm K) {index : Nat} {v : Int32} (w : (Jvm.Cond.constant own index v).before a0 Z = true) (hd : decode code pc = .ok (.ldc_w index, 3)) (r : WP l Z EL it n0 own h0 ws0 Q K h ws cells slots (mkF K.m (pc + 3) Ls (.int v :: st))) : WP l Z EL it n0 own h0 ws0 Q K h ws cells slots (mkF K.m pc Ls st) :=
  WP.step (fun _ _ _ P t k => P.1.ldcwInt C.exec P.2.2.2.2.1 (mv P.2.2.2.1 w) (g := mkF K.m pc Ls st) rfl (hb C.bytes hd) t k) r
theorem Ok.ldc2Long (C : Ok l Z a0 EL it n0 own h0 ws0 Q code maxL ret nm rm K) {index : Nat} {v : Int64} (w : (Jvm.Cond.constantLong own index v).before a0 Z = true) (hd : decode code pc = .ok (.ldc2_w index, 3)) (r : WP l Z EL it n0 own h0 ws0 Q K h ws cells slots (mkF K.m (pc + 3) Ls (.long v :: st))) : WP l Z EL it n0 own h0 ws0 Q K h ws cells slots (mkF K.m pc Ls st) :=
  WP.step (fun _ _ _ P t k => P.1.ldc2Long C.exec P.2.2.2.2.1 (mv P.2.2.2.1 w) (g := mkF K.m pc Ls st) rfl (hb C.bytes hd) t k) r
theorem Ok.iadd (C : Ok l Z a0 EL it n0 own h0 ws0 Q code maxL ret nm rm K) {x y : Int32} (hd : decode code pc = .ok (.iadd, 1)) (r : WP l Z EL it n0 own h0 ws0 Q K h ws cells slots (mkF K.m (pc + 1) Ls (.int (x + y) :: st))) : WP l Z EL it n0 own h0 ws0 Q K h ws cells slots (mkF K.m pc Ls (.int y :: .int x :: st)) :=
  WP.step (fun _ _ _ P _ k => XS.iadd P.1.here C.exec rfl (hb C.bytes hd) rfl k) r
theorem Ok.isub (C : Ok l Z a0 EL it n0 own h0 ws0 Q code maxL ret nm rm K) {x y : Int32} (hd : decode code pc = .ok (.isub, 1)) (r : WP l Z EL it n0 own h0 ws0 Q K h ws cells slots (mkF K.m (pc + 1) Ls (.int (x - y) :: st))) : WP l Z EL it n0 own h0 ws0 Q K h ws cells slots (mkF K.m pc Ls (.int y :: .int x :: st)) :=
  WP.step (fun _ _ _ P _ k => XS.isub P.1.here C.exec rfl (hb C.bytes hd) rfl k) r
theorem Ok.imul (C : Ok l Z a0 EL it n0 own h0 ws0 Q code maxL ret nm rm K) {x y : Int32} (hd : decode code pc = .ok (.imul, 1)) (r : WP l Z EL it n0 own h0 ws0 Q K h ws cells slots (mkF K.m (pc + 1) Ls (.int (x * y) :: st))) : WP l Z EL it n0 own h0 ws0 Q K h ws cells slots (mkF K.m pc Ls (.int y :: .int x :: st)) :=
  WP.step (fun _ _ _ P _ k => XS.imul P.1.here C.exec rfl (hb C.bytes hd) rfl k) r
theorem Ok.iand (C : Ok l Z a0 EL it n0 own h0 ws0 Q code maxL ret nm rm K) {x y : Int32} (hd : decode code pc = .ok (.iand, 1)) (r : WP l Z EL it n0 own h0 ws0 Q K h ws cells slots (mkF K.m (pc + 1) Ls (.int (x &&& y) :: st))) : WP l Z EL it n0 own h0 ws0 Q K h ws cells slots (mkF K.m pc Ls (.int y :: .int x :: st)) :=
  WP.step (fun _ _ _ P _ k => XS.iand P.1.here C.exec rfl (hb C.bytes hd) rfl k) r
theorem Ok.ior (C : Ok l Z a0 EL it n0 own h0 ws0 Q code maxL ret nm rm K) {x y : Int32} (hd : decode code pc = .ok (.ior, 1)) (r : WP l Z EL it n0 own h0 ws0 Q K h ws cells slots (mkF K.m (pc + 1) Ls (.int (x ||| y) :: st))) : WP l Z EL it n0 own h0 ws0 Q K h ws cells slots (mkF K.m pc Ls (.int y :: .int x :: st)) :=
  WP.step (fun _ _ _ P _ k => XS.ior P.1.here C.exec rfl (hb C.bytes hd) rfl k) r
theorem Ok.ixor (C : Ok l Z a0 EL it n0 own h0 ws0 Q code maxL ret nm rm K) {x y : Int32} (hd : decode code pc = .ok (.ixor, 1)) (r : WP l Z EL it n0 own h0 ws0 Q K h ws cells slots (mkF K.m (pc + 1) Ls (.int (x ^^^ y) :: st))) : WP l Z EL it n0 own h0 ws0 Q K h ws cells slots (mkF K.m pc Ls (.int y :: .int x :: st)) :=
  WP.step (fun _ _ _ P _ k => XS.ixor P.1.here C.exec rfl (hb C.bytes hd) rfl k) r
theorem Ok.ladd (C : Ok l Z a0 EL it n0 own h0 ws0 Q code maxL ret nm rm K) {x y : Int64} (hd : decode code pc = .ok (.ladd, 1)) (r : WP l Z EL it n0 own h0 ws0 Q K h ws cells slots (mkF K.m (pc + 1) Ls (.long (x + y) :: st))) : WP l Z EL it n0 own h0 ws0 Q K h ws cells slots (mkF K.m pc Ls (.long y :: .long x :: st)) :=
  WP.step (fun _ _ _ P _ k => XS.ladd P.1.here C.exec rfl (hb C.bytes hd) rfl k) r
theorem Ok.lsub (C : Ok l Z a0 EL it n0 own h0 ws0 Q code maxL ret nm rm K) {x y : Int64} (hd : decode code pc = .ok (.lsub, 1)) (r : WP l Z EL it n0 own h0 ws0 Q K h ws cells slots (mkF K.m (pc + 1) Ls (.long (x - y) :: st))) : WP l Z EL it n0 own h0 ws0 Q K h ws cells slots (mkF K.m pc Ls (.long y :: .long x :: st)) :=
  WP.step (fun _ _ _ P _ k => XS.lsub P.1.here C.exec rfl (hb C.bytes hd) rfl k) r
theorem Ok.land (C : Ok l Z a0 EL it n0 own h0 ws0 Q code maxL ret nm rm K) {x y : Int64} (hd : decode code pc = .ok (.land, 1)) (r : WP l Z EL it n0 own h0 ws0 Q K h ws cells slots (mkF K.m (pc + 1) Ls (.long (x &&& y) :: st))) : WP l Z EL it n0 own h0 ws0 Q K h ws cells slots (mkF K.m pc Ls (.long y :: .long x :: st)) :=
  WP.step (fun _ _ _ P _ k => XS.land P.1.here C.exec rfl (hb C.bytes hd) rfl k) r
theorem Ok.lmul (C : Ok l Z a0 EL it n0 own h0 ws0 Q code maxL ret nm rm K) {x y : Int64} (hd : decode code pc = .ok (.lmul, 1)) (r : WP l Z EL it n0 own h0 ws0 Q K h ws cells slots (mkF K.m (pc + 1) Ls (.long (x * y) :: st))) : WP l Z EL it n0 own h0 ws0 Q K h ws cells slots (mkF K.m pc Ls (.long y :: .long x :: st)) :=
  WP.step (fun _ _ _ P _ k => XS.lmul P.1.here C.exec rfl (hb C.bytes hd) rfl k) r
theorem Ok.i2c (C : Ok l Z a0 EL it n0 own h0 ws0 Q code maxL ret nm rm K) {x : Int32} (hd : decode code pc = .ok (.i2c, 1)) (r : WP l Z EL it n0 own h0 ws0 Q K h ws cells slots (mkF K.m (pc + 1) Ls (.int (x.toUInt32.toUInt16.toUInt32.toInt32) :: st))) : WP l Z EL it n0 own h0 ws0 Q K h ws cells slots (mkF K.m pc Ls (.int x :: st)) :=
  WP.step (fun _ _ _ P _ k => XS.i2c P.1.here C.exec rfl (hb C.bytes hd) rfl k) r
theorem Ok.i2b (C : Ok l Z a0 EL it n0 own h0 ws0 Q code maxL ret nm rm K) {x : Int32} (hd : decode code pc = .ok (.i2b, 1)) (r : WP l Z EL it n0 own h0 ws0 Q K h ws cells slots (mkF K.m (pc + 1) Ls (.int (x.toInt8.toInt32) :: st))) : WP l Z EL it n0 own h0 ws0 Q K h ws cells slots (mkF K.m pc Ls (.int x :: st)) :=
  WP.step (fun _ _ _ P _ k => XS.i2b P.1.here C.exec rfl (hb C.bytes hd) rfl k) r
theorem Ok.i2l (C : Ok l Z a0 EL it n0 own h0 ws0 Q code maxL ret nm rm K) {x : Int32} (hd : decode code pc = .ok (.i2l, 1)) (r : WP l Z EL it n0 own h0 ws0 Q K h ws cells slots (mkF K.m (pc + 1) Ls (.long (x.toInt64) :: st))) : WP l Z EL it n0 own h0 ws0 Q K h ws cells slots (mkF K.m pc Ls (.int x :: st)) :=
  WP.step (fun _ _ _ P _ k => XS.i2l P.1.here C.exec rfl (hb C.bytes hd) rfl k) r
theorem Ok.l2i (C : Ok l Z a0 EL it n0 own h0 ws0 Q code maxL ret nm rm K) {x : Int64} (hd : decode code pc = .ok (.l2i, 1)) (r : WP l Z EL it n0 own h0 ws0 Q K h ws cells slots (mkF K.m (pc + 1) Ls (.int (x.toInt32) :: st))) : WP l Z EL it n0 own h0 ws0 Q K h ws cells slots (mkF K.m pc Ls (.long x :: st)) :=
  WP.step (fun _ _ _ P _ k => XS.l2i P.1.here C.exec rfl (hb C.bytes hd) rfl k) r
theorem Ok.ineg (C : Ok l Z a0 EL it n0 own h0 ws0 Q code maxL ret nm rm K) {x : Int32} (hd : decode code pc = .ok (.ineg, 1)) (r : WP l Z EL it n0 own h0 ws0 Q K h ws cells slots (mkF K.m (pc + 1) Ls (.int (-x) :: st))) : WP l Z EL it n0 own h0 ws0 Q K h ws cells slots (mkF K.m pc Ls (.int x :: st)) :=
  WP.step (fun _ _ _ P _ k => XS.ineg P.1.here C.exec rfl (hb C.bytes hd) rfl k) r
theorem Ok.ishl (C : Ok l Z a0 EL it n0 own h0 ws0 Q code maxL ret nm rm K) {x y : Int32} (hd : decode code pc = .ok (.ishl, 1)) (r : WP l Z EL it n0 own h0 ws0 Q K h ws cells slots (mkF K.m (pc + 1) Ls (.int (x <<< (y &&& 31)) :: st))) : WP l Z EL it n0 own h0 ws0 Q K h ws cells slots (mkF K.m pc Ls (.int y :: .int x :: st)) :=
  WP.step (fun _ _ _ P _ k => XS.ishl P.1.here C.exec rfl (hb C.bytes hd) rfl k) r
theorem Ok.ishr (C : Ok l Z a0 EL it n0 own h0 ws0 Q code maxL ret nm rm K) {x y : Int32} (hd : decode code pc = .ok (.ishr, 1)) (r : WP l Z EL it n0 own h0 ws0 Q K h ws cells slots (mkF K.m (pc + 1) Ls (.int (x >>> (y &&& 31)) :: st))) : WP l Z EL it n0 own h0 ws0 Q K h ws cells slots (mkF K.m pc Ls (.int y :: .int x :: st)) :=
  WP.step (fun _ _ _ P _ k => XS.ishr P.1.here C.exec rfl (hb C.bytes hd) rfl k) r
theorem Ok.iushr (C : Ok l Z a0 EL it n0 own h0 ws0 Q code maxL ret nm rm K) {x y : Int32} (hd : decode code pc = .ok (.iushr, 1)) (r : WP l Z EL it n0 own h0 ws0 Q K h ws cells slots (mkF K.m (pc + 1) Ls (.int (x.toUInt32 >>> (y &&& 31).toUInt32).toInt32 :: st))) : WP l Z EL it n0 own h0 ws0 Q K h ws cells slots (mkF K.m pc Ls (.int y :: .int x :: st)) :=
  WP.step (fun _ _ _ P _ k => XS.iushr P.1.here C.exec rfl (hb C.bytes hd) rfl k) r
theorem Ok.lushr (C : Ok l Z a0 EL it n0 own h0 ws0 Q code maxL ret nm rm K) {x : Int64} {y : Int32} (hd : decode code pc = .ok (.lushr, 1)) (r : WP l Z EL it n0 own h0 ws0 Q K h ws cells slots (mkF K.m (pc + 1) Ls (.long (x.toUInt64 >>> (y &&& 0x3f).toInt64.toUInt64).toInt64 :: st))) : WP l Z EL it n0 own h0 ws0 Q K h ws cells slots (mkF K.m pc Ls (.int y :: .long x :: st)) :=
  WP.step (fun _ _ _ P _ k => XS.lushr P.1.here C.exec rfl (hb C.bytes hd) rfl k) r
theorem Ok.idiv (C : Ok l Z a0 EL it n0 own h0 ws0 Q code maxL ret nm rm K) {x y : Int32} (hy : y ≠ 0) (hd : decode code pc = .ok (.idiv, 1)) (r : WP l Z EL it n0 own h0 ws0 Q K h ws cells slots (mkF K.m (pc + 1) Ls (.int (x / y) :: st))) : WP l Z EL it n0 own h0 ws0 Q K h ws cells slots (mkF K.m pc Ls (.int y :: .int x :: st)) :=
  WP.step (fun _ _ _ P _ k => XS.idiv P.1.here C.exec rfl (hb C.bytes hd) rfl hy k) r
theorem Ok.irem (C : Ok l Z a0 EL it n0 own h0 ws0 Q code maxL ret nm rm K) {x y : Int32} (hy : y ≠ 0) (hd : decode code pc = .ok (.irem, 1)) (r : WP l Z EL it n0 own h0 ws0 Q K h ws cells slots (mkF K.m (pc + 1) Ls (.int (x % y) :: st))) : WP l Z EL it n0 own h0 ws0 Q K h ws cells slots (mkF K.m pc Ls (.int y :: .int x :: st)) :=
  WP.step (fun _ _ _ P _ k => iremM P.1 C.exec (g := mkF K.m pc Ls (.int y :: .int x :: st)) rfl (hb C.bytes hd) rfl hy k) r
theorem Ok.ldiv (C : Ok l Z a0 EL it n0 own h0 ws0 Q code maxL ret nm rm K) {x y : Int64} (hy : y ≠ 0) (hd : decode code pc = .ok (.ldiv, 1)) (r : WP l Z EL it n0 own h0 ws0 Q K h ws cells slots (mkF K.m (pc + 1) Ls (.long (x / y) :: st))) : WP l Z EL it n0 own h0 ws0 Q K h ws cells slots (mkF K.m pc Ls (.long y :: .long x :: st)) :=
  WP.step (fun _ _ _ P _ k => XS.ldiv P.1.here C.exec rfl (hb C.bytes hd) rfl hy k) r
theorem Ok.lrem (C : Ok l Z a0 EL it n0 own h0 ws0 Q code maxL ret nm rm K) {x y : Int64} (hy : y ≠ 0) (hd : decode code pc = .ok (.lrem, 1)) (r : WP l Z EL it n0 own h0 ws0 Q K h ws cells slots (mkF K.m (pc + 1) Ls (.long (x % y) :: st))) : WP l Z EL it n0 own h0 ws0 Q K h ws cells slots (mkF K.m pc Ls (.long y :: .long x :: st)) :=
  WP.step (fun _ _ _ P _ k => XS.lrem P.1.here C.exec rfl (hb C.bytes hd) rfl hy (by rw [lrem_mod]; exact k)) r
theorem Ok.lcmp (C : Ok l Z a0 EL it n0 own h0 ws0 Q code maxL ret nm rm K) {x y : Int64} (hd : decode code pc = .ok (.lcmp, 1)) (r : WP l Z EL it n0 own h0 ws0 Q K h ws cells slots (mkF K.m (pc + 1) Ls (.int (lcmpW x y) :: st))) : WP l Z EL it n0 own h0 ws0 Q K h ws cells slots (mkF K.m pc Ls (.long y :: .long x :: st)) :=
  WP.step (fun _ _ _ P _ k => XS.lcmp P.1.here C.exec rfl (hb C.bytes hd) rfl k) r
theorem Ok.dup (C : Ok l Z a0 EL it n0 own h0 ws0 Q code maxL ret nm rm K) {x : Value} (hc : x.category = 1) (hd : decode code pc = .ok (.dup, 1)) (r : WP l Z EL it n0 own h0 ws0 Q K h ws cells slots (mkF K.m (pc + 1) Ls (x :: x :: st))) : WP l Z EL it n0 own h0 ws0 Q K h ws cells slots (mkF K.m pc Ls (x :: st)) :=
  WP.step (fun _ _ _ P _ k => XS.dup P.1.here C.exec rfl (hb C.bytes hd) rfl hc k) r
theorem Ok.pop (C : Ok l Z a0 EL it n0 own h0 ws0 Q code maxL ret nm rm K) {x : Value} (hc : x.category = 1) (hd : decode code pc = .ok (.pop, 1)) (r : WP l Z EL it n0 own h0 ws0 Q K h ws cells slots (mkF K.m (pc + 1) Ls st)) : WP l Z EL it n0 own h0 ws0 Q K h ws cells slots (mkF K.m pc Ls (x :: st)) :=
  WP.step (fun _ _ _ P _ k => XS.pop P.1.here C.exec rfl (hb C.bytes hd) rfl hc k) r
theorem Ok.istoreN (C : Ok l Z a0 EL it n0 own h0 ws0 Q code maxL ret nm rm K) {k : Fin 4} {x : Int32} (L' : Array Slot) (hd : decode code pc = .ok (.istore_n k, 1)) (hl : storeLocals Ls k.val (.int x) = some L') (r : WP l Z EL it n0 own h0 ws0 Q K h ws cells slots (mkF K.m (pc + 1) L' st)) : WP l Z EL it n0 own h0 ws0 Q K h ws cells slots (mkF K.m pc Ls (.int x :: st)) :=
  WP.step (fun _ _ _ P _ k => XS.istoreN P.1.here C.exec rfl (hb C.bytes hd) rfl hl k) r
theorem Ok.istore (C : Ok l Z a0 EL it n0 own h0 ws0 Q code maxL ret nm rm K) {k : Nat} {x : Int32} (L' : Array Slot) (hd : decode code pc = .ok (.istore k, 2)) (hl : storeLocals Ls k (.int x) = some L') (r : WP l Z EL it n0 own h0 ws0 Q K h ws cells slots (mkF K.m (pc + 2) L' st)) : WP l Z EL it n0 own h0 ws0 Q K h ws cells slots (mkF K.m pc Ls (.int x :: st)) :=
  WP.step (fun _ _ _ P _ k => XS.istore P.1.here C.exec rfl (hb C.bytes hd) rfl hl k) r
theorem Ok.astoreN (C : Ok l Z a0 EL it n0 own h0 ws0 Q code maxL ret nm rm K) {k : Fin 4} {x : Value} (L' : Array Slot) (hd : decode code pc = .ok (.astore_n k, 1)) (hv : x.isRef = true) (hl : storeLocals Ls k.val x = some L') (r : WP l Z EL it n0 own h0 ws0 Q K h ws cells slots (mkF K.m (pc + 1) L' st)) : WP l Z EL it n0 own h0 ws0 Q K h ws cells slots (mkF K.m pc Ls (x :: st)) :=
  WP.step (fun _ _ _ P _ k => XS.astoreN P.1.here C.exec rfl (hb C.bytes hd) rfl hv hl k) r
theorem Ok.astore (C : Ok l Z a0 EL it n0 own h0 ws0 Q code maxL ret nm rm K) {k : Nat} {x : Value} (L' : Array Slot) (hd : decode code pc = .ok (.astore k, 2)) (hv : x.isRef = true) (hl : storeLocals Ls k x = some L') (r : WP l Z EL it n0 own h0 ws0 Q K h ws cells slots (mkF K.m (pc + 2) L' st)) : WP l Z EL it n0 own h0 ws0 Q K h ws cells slots (mkF K.m pc Ls (x :: st)) :=
  WP.step (fun _ _ _ P _ k => XS.astore P.1.here C.exec rfl (hb C.bytes hd) rfl hv hl k) r
theorem Ok.lstoreN (C : Ok l Z a0 EL it n0 own h0 ws0 Q code maxL ret nm rm K) {k : Fin 4} {x : Int64} (L' : Array Slot) (hd : decode code pc = .ok (.lstore_n k, 1)) (hl : storeLocals Ls k.val (.long x) = some L') (r : WP l Z EL it n0 own h0 ws0 Q K h ws cells slots (mkF K.m (pc + 1) L' st)) : WP l Z EL it n0 own h0 ws0 Q K h ws cells slots (mkF K.m pc Ls (.long x :: st)) :=
  WP.step (fun _ _ _ P _ k => XS.lstoreN P.1.here C.exec rfl (hb C.bytes hd) rfl hl k) r
theorem Ok.lstore (C : Ok l Z a0 EL it n0 own h0 ws0 Q code maxL ret nm rm K) {k : Nat} {x : Int64} (L' : Array Slot) (hd : decode code pc = .ok (.lstore k, 2)) (hl : storeLocals Ls k (.long x) = some L') (r : WP l Z EL it n0 own h0 ws0 Q K h ws cells slots (mkF K.m (pc + 2) L' st)) : WP l Z EL it n0 own h0 ws0 Q K h ws cells slots (mkF K.m pc Ls (.long x :: st)) :=
  WP.step (fun _ _ _ P _ k => XS.lstore P.1.here C.exec rfl (hb C.bytes hd) rfl hl k) r
theorem Ok.iinc (C : Ok l Z a0 EL it n0 own h0 ws0 Q code maxL ret nm rm K) {k : Nat} {cst : Int} {x z : Int32} (L' : Array Slot) (hd : decode code pc = .ok (.iinc k cst, 3)) (hl : Ls[k]? = some (.val (.int x))) (hz : Int32.ofInt cst = z) (hl' : storeLocals Ls k (.int (x + z)) = some L') (r : WP l Z EL it n0 own h0 ws0 Q K h ws cells slots (mkF K.m (pc + 3) L' st)) : WP l Z EL it n0 own h0 ws0 Q K h ws cells slots (mkF K.m pc Ls st) := by
  subst hz; exact WP.step (fun _ _ _ P _ k => XS.iinc P.1.here C.exec rfl (hb C.bytes hd) hl hl' k) r
theorem Ok.goto (C : Ok l Z a0 EL it n0 own h0 ws0 Q code maxL ret nm rm K) {o : Int} (pc' : Nat) (hd : decode code pc = .ok (.goto o, 3)) (ho : 0 ≤ (pc : Int) + o) (hp : ((pc : Int) + o).toNat = pc') (r : WP l Z EL it n0 own h0 ws0 Q K h ws cells slots (mkF K.m pc' Ls st)) : WP l Z EL it n0 own h0 ws0 Q K h ws cells slots (mkF K.m pc Ls st) :=
  WP.step (fun _ _ _ P _ k => XS.goto P.1.here C.exec rfl rfl (hb C.bytes hd) ho hp k) r
/-! branches -/
theorem Ok.icmp (C : Ok l Z a0 EL it n0 own h0 ws0 Q code maxL ret nm rm K) {cd : ClassFile.Cond} {x y : Int32} {o : Int} (pc' : Nat) (hd : decode code pc = .ok (.if_icmp cd o, 3)) (ho : 0 ≤ (pc : Int) + o) (hp : ((pc : Int) + o).toNat = pc') (t : if_icmp.holds cd x y = true → WP l Z EL it n0 own h0 ws0 Q K h ws cells slots (mkF K.m pc' Ls st)) (f : if_icmp.holds cd x y = false → WP l Z EL it n0 own h0 ws0 Q K h ws cells slots (mkF K.m (pc + 3) Ls st)) : WP l Z EL it n0 own h0 ws0 Q K h ws cells slots (mkF K.m pc Ls (.int y :: .int x :: st)) := by
  cases q : if_icmp.holds cd x y
  · exact WP.step (fun _ _ _ P _ k => XS.icmpNo P.1.here C.exec rfl (hb C.bytes hd) rfl q k) (f q)
  · exact WP.step (fun _ _ _ P _ k => XS.icmpYes P.1.here C.exec rfl rfl (hb C.bytes hd) rfl q ho hp k) (t q)
theorem Ok.ifc (C : Ok l Z a0 EL it n0 own h0 ws0 Q code maxL ret nm rm K) {cd : ClassFile.Cond} {x : Int32} {o : Int} (pc' : Nat) (hd : decode code pc = .ok (.ifCond cd o, 3)) (ho : 0 ≤ (pc : Int) + o) (hp : ((pc : Int) + o).toNat = pc') (t : if_icmp.holds cd x 0 = true → WP l Z EL it n0 own h0 ws0 Q K h ws cells slots (mkF K.m pc' Ls st)) (f : if_icmp.holds cd x 0 = false → WP l Z EL it n0 own h0 ws0 Q K h ws cells slots (mkF K.m (pc + 3) Ls st)) : WP l Z EL it n0 own h0 ws0 Q K h ws cells slots (mkF K.m pc Ls (.int x :: st)) := by
  cases q : if_icmp.holds cd x 0
  · exact WP.step (fun _ _ _ P _ k => XS.ifNo P.1.here C.exec rfl (hb C.bytes hd) rfl (by rw [if0]; exact q) k) (f q)
  · exact WP.step (fun _ _ _ P _ k => XS.ifYes P.1.here C.exec rfl rfl (hb C.bytes hd) rfl (by rw [if0]; exact q) ho hp k) (t q)
theorem hEq (x y : Int32) : (if_icmp.holds .eq x y = true ↔ x.toInt = y.toInt) ∧ (if_icmp.holds .eq x y = false ↔ x.toInt ≠ y.toInt) := by simp [if_icmp.holds, Int32.toInt_inj]
theorem hNe (x y : Int32) : (if_icmp.holds .ne x y = true ↔ x.toInt ≠ y.toInt) ∧ (if_icmp.holds .ne x y = false ↔ x.toInt = y.toInt) := by simp [if_icmp.holds, Int32.toInt_inj]
theorem hLt (x y : Int32) : (if_icmp.holds .lt x y = true ↔ x.toInt < y.toInt) ∧ (if_icmp.holds .lt x y = false ↔ y.toInt ≤ x.toInt) := by simp [if_icmp.holds, Int32.lt_iff_toInt_lt, Int32.le_iff_toInt_le]
theorem hGe (x y : Int32) : (if_icmp.holds .ge x y = true ↔ y.toInt ≤ x.toInt) ∧ (if_icmp.holds .ge x y = false ↔ x.toInt < y.toInt) := by simp [if_icmp.holds, Int32.lt_iff_toInt_lt, Int32.le_iff_toInt_le]
theorem hGt (x y : Int32) : (if_icmp.holds .gt x y = true ↔ y.toInt < x.toInt) ∧ (if_icmp.holds .gt x y = false ↔ x.toInt ≤ y.toInt) := by simp [if_icmp.holds, Int32.lt_iff_toInt_lt, Int32.le_iff_toInt_le]
theorem hLe (x y : Int32) : (if_icmp.holds .le x y = true ↔ x.toInt ≤ y.toInt) ∧ (if_icmp.holds .le x y = false ↔ y.toInt < x.toInt) := by simp [if_icmp.holds, Int32.lt_iff_toInt_lt, Int32.le_iff_toInt_le]
theorem Ok.icmp_eq (C : Ok l Z a0 EL it n0 own h0 ws0 Q code maxL ret nm rm K) {x y : Int32} {o : Int} (pc' : Nat) (hd : decode code pc = .ok (.if_icmp .eq o, 3)) (ho : 0 ≤ (pc : Int) + o) (hp : ((pc : Int) + o).toNat = pc') (t : x.toInt = y.toInt → WP l Z EL it n0 own h0 ws0 Q K h ws cells slots (mkF K.m pc' Ls st)) (f : x.toInt ≠ y.toInt → WP l Z EL it n0 own h0 ws0 Q K h ws cells slots (mkF K.m (pc + 3) Ls st)) : WP l Z EL it n0 own h0 ws0 Q K h ws cells slots (mkF K.m pc Ls (.int y :: .int x :: st)) :=
  C.icmp pc' hd ho hp (fun q => t ((hEq x y).1.mp q)) (fun q => f ((hEq x y).2.mp q))
theorem Ok.ifc_eq (C : Ok l Z a0 EL it n0 own h0 ws0 Q code maxL ret nm rm K) {x : Int32} {o : Int} (pc' : Nat) (hd : decode code pc = .ok (.ifCond .eq o, 3)) (ho : 0 ≤ (pc : Int) + o) (hp : ((pc : Int) + o).toNat = pc') (t : x.toInt = 0 → WP l Z EL it n0 own h0 ws0 Q K h ws cells slots (mkF K.m pc' Ls st)) (f : x.toInt ≠ 0 → WP l Z EL it n0 own h0 ws0 Q K h ws cells slots (mkF K.m (pc + 3) Ls st)) : WP l Z EL it n0 own h0 ws0 Q K h ws cells slots (mkF K.m pc Ls (.int x :: st)) :=
  C.ifc pc' hd ho hp (fun q => t ((hEq x 0).1.mp q)) (fun q => f ((hEq x 0).2.mp q))
theorem Ok.icmp_ne (C : Ok l Z a0 EL it n0 own h0 ws0 Q code maxL ret nm rm K) {x y : Int32} {o : Int} (pc' : Nat) (hd : decode code pc = .ok (.if_icmp .ne o, 3)) (ho : 0 ≤ (pc : Int) + o) (hp : ((pc : Int) + o).toNat = pc') (t : x.toInt ≠ y.toInt → WP l Z EL it n0 own h0 ws0 Q K h ws cells slots (mkF K.m pc' Ls st)) (f : x.toInt = y.toInt → WP l Z EL it n0 own h0 ws0 Q K h ws cells slots (mkF K.m (pc + 3) Ls st)) : WP l Z EL it n0 own h0 ws0 Q K h ws cells slots (mkF K.m pc Ls (.int y :: .int x :: st)) :=
  C.icmp pc' hd ho hp (fun q => t ((hNe x y).1.mp q)) (fun q => f ((hNe x y).2.mp q))
theorem Ok.ifc_ne (C : Ok l Z a0 EL it n0 own h0 ws0 Q code maxL ret nm rm K) {x : Int32} {o : Int} (pc' : Nat) (hd : decode code pc = .ok (.ifCond .ne o, 3)) (ho : 0 ≤ (pc : Int) + o) (hp : ((pc : Int) + o).toNat = pc') (t : x.toInt ≠ 0 → WP l Z EL it n0 own h0 ws0 Q K h ws cells slots (mkF K.m pc' Ls st)) (f : x.toInt = 0 → WP l Z EL it n0 own h0 ws0 Q K h ws cells slots (mkF K.m (pc + 3) Ls st)) : WP l Z EL it n0 own h0 ws0 Q K h ws cells slots (mkF K.m pc Ls (.int x :: st)) :=
  C.ifc pc' hd ho hp (fun q => t ((hNe x 0).1.mp q)) (fun q => f ((hNe x 0).2.mp q))
theorem Ok.icmp_lt (C : Ok l Z a0 EL it n0 own h0 ws0 Q code maxL ret nm rm K) {x y : Int32} {o : Int} (pc' : Nat) (hd : decode code pc = .ok (.if_icmp .lt o, 3)) (ho : 0 ≤ (pc : Int) + o) (hp : ((pc : Int) + o).toNat = pc') (t : x.toInt < y.toInt → WP l Z EL it n0 own h0 ws0 Q K h ws cells slots (mkF K.m pc' Ls st)) (f : y.toInt ≤ x.toInt → WP l Z EL it n0 own h0 ws0 Q K h ws cells slots (mkF K.m (pc + 3) Ls st)) : WP l Z EL it n0 own h0 ws0 Q K h ws cells slots (mkF K.m pc Ls (.int y :: .int x :: st)) :=
  C.icmp pc' hd ho hp (fun q => t ((hLt x y).1.mp q)) (fun q => f ((hLt x y).2.mp q))
theorem Ok.ifc_lt (C : Ok l Z a0 EL it n0 own h0 ws0 Q code maxL ret nm rm K) {x : Int32} {o : Int} (pc' : Nat) (hd : decode code pc = .ok (.ifCond .lt o, 3)) (ho : 0 ≤ (pc : Int) + o) (hp : ((pc : Int) + o).toNat = pc') (t : x.toInt < 0 → WP l Z EL it n0 own h0 ws0 Q K h ws cells slots (mkF K.m pc' Ls st)) (f : 0 ≤ x.toInt → WP l Z EL it n0 own h0 ws0 Q K h ws cells slots (mkF K.m (pc + 3) Ls st)) : WP l Z EL it n0 own h0 ws0 Q K h ws cells slots (mkF K.m pc Ls (.int x :: st)) :=
  C.ifc pc' hd ho hp (fun q => t ((hLt x 0).1.mp q)) (fun q => f ((hLt x 0).2.mp q))
theorem Ok.icmp_ge (C : Ok l Z a0 EL it n0 own h0 ws0 Q code maxL ret nm rm K) {x y : Int32} {o : Int} (pc' : Nat) (hd : decode code pc = .ok (.if_icmp .ge o, 3)) (ho : 0 ≤ (pc : Int) + o) (hp : ((pc : Int) + o).toNat = pc') (t : y.toInt ≤ x.toInt → WP l Z EL it n0 own h0 ws0 Q K h ws cells slots (mkF K.m pc' Ls st)) (f : x.toInt < y.toInt → WP l Z EL it n0 own h0 ws0 Q K h ws cells slots (mkF K.m (pc + 3) Ls st)) : WP l Z EL it n0 own h0 ws0 Q K h ws cells slots (mkF K.m pc Ls (.int y :: .int x :: st)) :=
  C.icmp pc' hd ho hp (fun q => t ((hGe x y).1.mp q)) (fun q => f ((hGe x y).2.mp q))
theorem Ok.ifc_ge (C : Ok l Z a0 EL it n0 own h0 ws0 Q code maxL ret nm rm K) {x : Int32} {o : Int} (pc' : Nat) (hd : decode code pc = .ok (.ifCond .ge o, 3)) (ho : 0 ≤ (pc : Int) + o) (hp : ((pc : Int) + o).toNat = pc') (t : 0 ≤ x.toInt → WP l Z EL it n0 own h0 ws0 Q K h ws cells slots (mkF K.m pc' Ls st)) (f : x.toInt < 0 → WP l Z EL it n0 own h0 ws0 Q K h ws cells slots (mkF K.m (pc + 3) Ls st)) : WP l Z EL it n0 own h0 ws0 Q K h ws cells slots (mkF K.m pc Ls (.int x :: st)) :=
  C.ifc pc' hd ho hp (fun q => t ((hGe x 0).1.mp q)) (fun q => f ((hGe x 0).2.mp q))
theorem Ok.icmp_gt (C : Ok l Z a0 EL it n0 own h0 ws0 Q code maxL ret nm rm K) {x y : Int32} {o : Int} (pc' : Nat) (hd : decode code pc = .ok (.if_icmp .gt o, 3)) (ho : 0 ≤ (pc : Int) + o) (hp : ((pc : Int) + o).toNat = pc') (t : y.toInt < x.toInt → WP l Z EL it n0 own h0 ws0 Q K h ws cells slots (mkF K.m pc' Ls st)) (f : x.toInt ≤ y.toInt → WP l Z EL it n0 own h0 ws0 Q K h ws cells slots (mkF K.m (pc + 3) Ls st)) : WP l Z EL it n0 own h0 ws0 Q K h ws cells slots (mkF K.m pc Ls (.int y :: .int x :: st)) :=
  C.icmp pc' hd ho hp (fun q => t ((hGt x y).1.mp q)) (fun q => f ((hGt x y).2.mp q))
theorem Ok.ifc_gt (C : Ok l Z a0 EL it n0 own h0 ws0 Q code maxL ret nm rm K) {x : Int32} {o : Int} (pc' : Nat) (hd : decode code pc = .ok (.ifCond .gt o, 3)) (ho : 0 ≤ (pc : Int) + o) (hp : ((pc : Int) + o).toNat = pc') (t : 0 < x.toInt → WP l Z EL it n0 own h0 ws0 Q K h ws cells slots (mkF K.m pc' Ls st)) (f : x.toInt ≤ 0 → WP l Z EL it n0 own h0 ws0 Q K h ws cells slots (mkF K.m (pc + 3) Ls st)) : WP l Z EL it n0 own h0 ws0 Q K h ws cells slots (mkF K.m pc Ls (.int x :: st)) :=
  C.ifc pc' hd ho hp (fun q => t ((hGt x 0).1.mp q)) (fun q => f ((hGt x 0).2.mp q))
theorem Ok.icmp_le (C : Ok l Z a0 EL it n0 own h0 ws0 Q code maxL ret nm rm K) {x y : Int32} {o : Int} (pc' : Nat) (hd : decode code pc = .ok (.if_icmp .le o, 3)) (ho : 0 ≤ (pc : Int) + o) (hp : ((pc : Int) + o).toNat = pc') (t : x.toInt ≤ y.toInt → WP l Z EL it n0 own h0 ws0 Q K h ws cells slots (mkF K.m pc' Ls st)) (f : y.toInt < x.toInt → WP l Z EL it n0 own h0 ws0 Q K h ws cells slots (mkF K.m (pc + 3) Ls st)) : WP l Z EL it n0 own h0 ws0 Q K h ws cells slots (mkF K.m pc Ls (.int y :: .int x :: st)) :=
  C.icmp pc' hd ho hp (fun q => t ((hLe x y).1.mp q)) (fun q => f ((hLe x y).2.mp q))
theorem Ok.ifc_le (C : Ok l Z a0 EL it n0 own h0 ws0 Q code maxL ret nm rm K) {x : Int32} {o : Int} (pc' : Nat) (hd : decode code pc = .ok (.ifCond .le o, 3)) (ho : 0 ≤ (pc : Int) + o) (hp : ((pc : Int) + o).toNat = pc') (t : x.toInt ≤ 0 → WP l Z EL it n0 own h0 ws0 Q K h ws cells slots (mkF K.m pc' Ls st)) (f : 0 < x.toInt → WP l Z EL it n0 own h0 ws0 Q K h ws cells slots (mkF K.m (pc + 3) Ls st)) : WP l Z EL it n0 own h0 ws0 Q K h ws cells slots (mkF K.m pc Ls (.int x :: st)) :=
  C.ifc pc' hd ho hp (fun q => t ((hLe x 0).1.mp q)) (fun q => f ((hLe x 0).2.mp q))
theorem Ok.ifnullY (C : Ok l Z a0 EL it n0 own h0 ws0 Q code maxL ret nm rm K) {o : Int} (pc' : Nat) (hd : decode code pc = .ok (.ifnull o, 3)) (ho : 0 ≤ (pc : Int) + o) (hp : ((pc : Int) + o).toNat = pc') (r : WP l Z EL it n0 own h0 ws0 Q K h ws cells slots (mkF K.m pc' Ls st)) : WP l Z EL it n0 own h0 ws0 Q K h ws cells slots (mkF K.m pc Ls (.null :: st)) :=
  WP.step (fun _ _ _ P _ k => XS.ifnullYes P.1.here C.exec rfl rfl (hb C.bytes hd) rfl ho hp k) r
theorem Ok.ifnullN (C : Ok l Z a0 EL it n0 own h0 ws0 Q code maxL ret nm rm K) {o : Int} {b : Nat} (hd : decode code pc = .ok (.ifnull o, 3)) (r : WP l Z EL it n0 own h0 ws0 Q K h ws cells slots (mkF K.m (pc + 3) Ls st)) : WP l Z EL it n0 own h0 ws0 Q K h ws cells slots (mkF K.m pc Ls (.ref b :: st)) :=
  WP.step (fun _ _ _ P _ k => XS.ifnullNo P.1.here C.exec rfl (hb C.bytes hd) rfl k) r
theorem Ok.ifnonnullY (C : Ok l Z a0 EL it n0 own h0 ws0 Q code maxL ret nm rm K) {o : Int} {b : Nat} (pc' : Nat) (hd : decode code pc = .ok (.ifnonnull o, 3)) (ho : 0 ≤ (pc : Int) + o) (hp : ((pc : Int) + o).toNat = pc') (r : WP l Z EL it n0 own h0 ws0 Q K h ws cells slots (mkF K.m pc' Ls st)) : WP l Z EL it n0 own h0 ws0 Q K h ws cells slots (mkF K.m pc Ls (.ref b :: st)) :=
  WP.step (fun _ _ _ P _ k => XS.ifnonnullYes P.1.here C.exec rfl rfl (hb C.bytes hd) rfl ho hp k) r
theorem Ok.ifnonnullN (C : Ok l Z a0 EL it n0 own h0 ws0 Q code maxL ret nm rm K) {o : Int} (hd : decode code pc = .ok (.ifnonnull o, 3)) (r : WP l Z EL it n0 own h0 ws0 Q K h ws cells slots (mkF K.m (pc + 3) Ls st)) : WP l Z EL it n0 own h0 ws0 Q K h ws cells slots (mkF K.m pc Ls (.null :: st)) :=
  WP.step (fun _ _ _ P _ k => XS.ifnonnullNo P.1.here C.exec rfl (hb C.bytes hd) rfl k) r
theorem Ok.acmp (C : Ok l Z a0 EL it n0 own h0 ws0 Q code maxL ret nm rm K) {cd : ACond} {x y : Value} {o : Int} (pc' : Nat) (same : Bool) (hd : decode code pc = .ok (.if_acmp cd o, 3)) (h1 : x.isRef = true) (h2 : y.isRef = true) (hq : decide (x = y) = same) (ho : 0 ≤ (pc : Int) + o) (hp : pc' = if acV cd same = true then ((pc : Int) + o).toNat else pc + 3) (r : WP l Z EL it n0 own h0 ws0 Q K h ws cells slots (mkF K.m pc' Ls st)) : WP l Z EL it n0 own h0 ws0 Q K h ws cells slots (mkF K.m pc Ls (y :: x :: st)) :=
  WP.step (fun _ _ _ P _ k => RoadKit.acmp P.1 C.exec (g := mkF K.m pc Ls (y :: x :: st)) rfl h1 h2 rfl (hb C.bytes hd) rfl hq ho hp k) r
theorem Ok.tswIn (C : Ok l Z a0 EL it n0 own h0 ws0 Q code maxL ret nm rm K) {dflt low high : Int} {offs : Array Int} {len : Nat} {o : Int} {i : Int32} (pc' : Nat) (hd : decode code pc = .ok (.tableswitch dflt low high offs, len)) (hin : ¬ (i.toInt < low ∨ i.toInt > high)) (hoff : offs[(i.toInt - low).toNat]? = some o) (ho : 0 ≤ (pc : Int) + o) (hp : ((pc : Int) + o).toNat = pc') (r : WP l Z EL it n0 own h0 ws0 Q K h ws cells slots (mkF K.m pc' Ls st)) : WP l Z EL it n0 own h0 ws0 Q K h ws cells slots (mkF K.m pc Ls (.int i :: st)) :=
  WP.step (fun _ _ _ P _ k => XS.tswIn P.1.here C.exec rfl rfl (hb C.bytes hd) rfl hin hoff ho hp k) r
theorem Ok.tswOut (C : Ok l Z a0 EL it n0 own h0 ws0 Q code maxL ret nm rm K) {dflt low high : Int} {offs : Array Int} {len : Nat} {i : Int32} (pc' : Nat) (hd : decode code pc = .ok (.tableswitch dflt low high offs, len)) (hout : i.toInt < low ∨ i.toInt > high) (ho : 0 ≤ (pc : Int) + dflt) (hp : ((pc : Int) + dflt).toNat = pc') (r : WP l Z EL it n0 own h0 ws0 Q K h ws cells slots (mkF K.m pc' Ls st)) : WP l Z EL it n0 own h0 ws0 Q K h ws cells slots (mkF K.m pc Ls (.int i :: st)) :=
  WP.step (fun _ _ _ P _ k => XS.tswOut P.1.here C.exec rfl rfl (hb C.bytes hd) rfl hout ho hp k) r
/-! the heap -/
theorem Ok.getF (C : Ok l Z a0 EL it n0 own h0 ws0 Q code maxL ret nm rm K) {R0 O n d host : String} {index : Nat} {a : Nat} {v : Value} (w : (Jvm.Cond.fieldLink own index R0 n d).before a0 Z = true ∨ (Jvm.Cond.fieldLinkNest own index R0 n d host).before a0 Z = true) (via : Via Z R0 O n d) (F : Fld Z h a O n d v) (hd : decode code pc = .ok (.getfield index, 3))
    (r : WP l Z EL it n0 own h0 ws0 Q K h ws cells slots (mkF K.m (pc + 3) Ls (v :: st))) : WP l Z EL it n0 own h0 ws0 Q K h ws cells slots (mkF K.m pc Ls (.ref a :: st)) := by
  intro vm T locs P
  obtain ⟨T', X', e', s'⟩ := RoadKit.getF P.1 C.exec P.2.2.2.1 P.2.2.2.2.1 w via P.2.1 F (g := mkF K.m pc Ls (.ref a :: st)) rfl rfl (hb C.bytes hd)
  exact Goes.of s' (r vm T' locs ⟨X', e', P.2.2⟩)
theorem Ok.getS (C : Ok l Z a0 EL it n0 own h0 ws0 Q code maxL ret nm rm K) {R0 O n d : String} {index : Nat} {v : Value} (w : (Jvm.Cond.fieldLink own index R0 n d).before a0 Z = true) (via : Via Z R0 O n d) (F : Sta Z Z.heap O n d v) (hd : decode code pc = .ok (.getstatic index, 3))
    (r : WP l Z EL it n0 own h0 ws0 Q K h ws cells slots (mkF K.m (pc + 3) Ls (v :: st))) : WP l Z EL it n0 own h0 ws0 Q K h ws cells slots (mkF K.m pc Ls st) := by
  intro vm T locs P
  obtain ⟨T', X', e', s'⟩ := RoadKit.getS (host := "") P.1 C.exec P.2.2.2.1 P.2.2.2.2.1 w via P.2.1 (F.ext P.2.2.2.2.2.2.2.2.1.2) (g := mkF K.m pc Ls st) rfl (hb C.bytes hd)
  exact Goes.of s' (r vm T' locs ⟨X', e', P.2.2⟩)
theorem Ok.castY (C : Ok l Z a0 EL it n0 own h0 ws0 Q code maxL ret nm rm K) {J : String} {index : Nat} {a : Nat} (w : (Jvm.Cond.classLink own index J).before a0 Z = true) (F : Ins Z h a J true) (hd : decode code pc = .ok (.checkcast index, 3))
    (r : WP l Z EL it n0 own h0 ws0 Q K h ws cells slots (mkF K.m (pc + 3) Ls (.ref a :: st))) : WP l Z EL it n0 own h0 ws0 Q K h ws cells slots (mkF K.m pc Ls (.ref a :: st)) := by
  intro vm T locs P
  obtain ⟨T', X', e', s'⟩ := RoadKit.castY P.1 C.exec P.2.2.2.1 P.2.2.2.2.1 w P.2.1 F (g := mkF K.m pc Ls (.ref a :: st)) rfl rfl (hb C.bytes hd)
  exact Goes.of s' (r vm T' locs ⟨X', e', P.2.2⟩)
theorem Ok.instY (C : Ok l Z a0 EL it n0 own h0 ws0 Q code maxL ret nm rm K) {J : String} {index : Nat} {a : Nat} (w : (Jvm.Cond.classLink own index J).before a0 Z = true) (F : Ins Z h a J true) (hd : decode code pc = .ok (.instanceof index, 3))
    (r : WP l Z EL it n0 own h0 ws0 Q K h ws cells slots (mkF K.m (pc + 3) Ls (.int 1 :: st))) : WP l Z EL it n0 own h0 ws0 Q K h ws cells slots (mkF K.m pc Ls (.ref a :: st)) := by
  intro vm T locs P
  obtain ⟨T', X', e', s'⟩ := RoadKit.instY P.1 C.exec P.2.2.2.1 P.2.2.2.2.1 w P.2.1 F (g := mkF K.m pc Ls (.ref a :: st)) rfl rfl (hb C.bytes hd)
  exact Goes.of s' (r vm T' locs ⟨X', e', P.2.2⟩)
theorem keep_ext {h h' : Heap} (E : Ext h h') : Keep h h' [] := (Keep.refl h []).ext E
theorem Ok.new (C : Ok l Z a0 EL it n0 own h0 ws0 Q code maxL ret nm rm K) {J : String} {index n : Nat} (w : (Jvm.Cond.classLink own index J).before a0 Z = true) (wi : (Jvm.Cond.instantiable J n).before a0 Z = true) (wz : (Jvm.Cond.initialized J).before a0 Z = true) (hd : decode code pc = .ok (.new index, 3)) (hc : cells + 1 ≤ rm.cells) (hl : slots + n ≤ rm.slots)
    (r : ∀ (h' : Heap) (a : Nat), @Eq Nat a h.size → h.size < h'.size → n0 ≤ a → Keep h h' [] → Exa Z h' a J → (∀ {O nm d : String} {ty : FieldType}, RoadKit.Laid Z a0 J O nm d → parseFieldDescriptor d = some ty → Fld Z h' a O nm d (defaultValue ty)) → WP l Z EL it n0 own h0 ws0 Q K h' (a :: ws) (cells + 1) (slots + n) (mkF K.m (pc + 3) Ls (.ref a :: st))) :
    WP l Z EL it n0 own h0 ws0 Q K h ws cells slots (mkF K.m pc Ls st) := by
  intro vm T locs P
  obtain ⟨T', h', X', e', E, A, D, -, s'⟩ := newO P.1 C.exec P.2.2.2.1 P.2.2.2.2.1 w wi wz P.2.1 (g := mkF K.m pc Ls st) rfl (hb C.bytes hd) (by rw [C.room]; exact hc) (by rw [C.room]; exact hl)
  exact Goes.of s' (r h' h.size rfl A.lt (P.2.2.2.2.2.2.2.2.1.1 ▸ P.2.2.2.2.2.2.2.2.1.2.1) (keep_ext E) A D vm T' locs (P.new X' e' E A.lt))
theorem Ok.putF (C : Ok l Z a0 EL it n0 own h0 ws0 Q code maxL ret nm rm K) {R0 O n d host J : String} {index kk : Nat} {ty : FieldType} {a : Nat} {v old : Value} (w : (Jvm.Cond.fieldLink own index R0 n d).before a0 Z = true ∨ (Jvm.Cond.fieldLinkNest own index R0 n d host).before a0 Z = true) (via : Via Z R0 O n d) (F : Fld Z h a O n d old) (E : Exa Z h a J)
    (L : (Jvm.Cond.lays J O n d).before a0 Z = true ∨ ((Jvm.Cond.laysFinal J O n d).before a0 Z = true ∧ own = O ∧ nm = "<init>")) (wi : (Jvm.Cond.instantiable J kk).before a0 Z = true) (hty : parseFieldDescriptor d = some ty) (hn : narrow ty v = v) (hf : fits ty v = true) (hd : decode code pc = .ok (.putfield index, 3)) (ha : a ∈ ws)
    (r : ∀ h' : Heap, h'.size = h.size → Keep h h' [a] → Exa Z h' a J → Fld Z h' a O n d v → (∀ {O' n' d' : String} {u : Value}, RoadKit.slotOf Z O' n' d' ≠ RoadKit.slotOf Z O n d → Fld Z h a O' n' d' u → Fld Z h' a O' n' d' u) → WP l Z EL it n0 own h0 ws0 Q K h' ws cells slots (mkF K.m (pc + 3) Ls st)) :
    WP l Z EL it n0 own h0 ws0 Q K h ws cells slots (mkF K.m pc Ls (v :: .ref a :: st)) := by
  intro vm T locs P
  obtain ⟨T', h', X', e', W, s'⟩ := RoadKit.putF P.1 C.exec P.2.2.2.1 P.2.2.2.2.1 w via P.2.1 F E (L.imp id fun q => ⟨q.1, q.2.1, C.named.trans q.2.2⟩) wi hty hn hf (g := mkF K.m pc Ls (v :: .ref a :: st)) rfl rfl (hb C.bytes hd)
  exact Goes.of s' (r h' W.size (Keep.of_wr W) (E.wr W) (F.same W) (fun q G => G.other W (Or.inr q)) vm T' _ (P.wr ha X' e' W))
/-- an array and all that it holds -/
def Ary (Z : State) (h : Heap) (a : Nat) (ty : FieldType) (vs : List Value) : Prop := ∃ c : Cell, RoadKit.Arr Z h a c ty ∧ c.slots.toList = vs ∧ vs.length < 2 ^ 31 ∧ ∀ v ∈ vs, fits ty v = true
theorem Ary.lt {a : Nat} {ty : FieldType} {vs : List Value} (A : Ary Z h a ty vs) : a < h.size := by obtain ⟨c, A, -⟩ := A; exact A.lt
theorem Ary.keep {h' : Heap} {a : Nat} {ty : FieldType} {vs : List Value} {us : List Addr} (A : Ary Z h a ty vs) (Kp : Keep h h' us) (q : a ∉ us) : Ary Z h' a ty vs := by
  obtain ⟨c, A, r⟩ := A; exact ⟨c, ⟨Kp.2.1 a c A.1 q, A.2⟩, r⟩
theorem Ary.len {a : Nat} {ty : FieldType} {vs : List Value} (A : Ary Z h a ty vs) : vs.length < 2 ^ 31 := by obtain ⟨c, -, -, r, -⟩ := A; exact r
theorem Ary.arv {a : Nat} {ty : FieldType} {vs : List Value} {n : Int32} {d : Value} (A : Ary Z h a ty vs) (hn : n.toInt = vs.length) : ∃ k, Arv Z h a k ty n vs d := by
  obtain ⟨c, A, r, q, f⟩ := A
  subst r
  have hz : c.slots.size = n.toNatClampNeg := by
    rw [← Int32.toNat_toInt, hn]; simp
  refine ⟨c.cls, c, A, rfl, hz, fun w => ?_, fun k hk => ?_, fun i hi => ?_⟩
  · rw [Int32.lt_iff_toInt_lt, hn] at w
    have : (0 : Int32).toInt = 0 := rfl
    omega
  · simp [hk]
  · have : c.slots.toList.getD i d = c.slots[i] := by simp [hi]
    rw [this]
    exact f _ (by simp)
theorem Ary.of_arv {a : Nat} {ty : FieldType} {vs : List Value} {n : Int32} {d : Value} {k : ClassId} (A : Arv Z h a k ty n vs d) (hn : n.toNatClampNeg = vs.length) : Ary Z h a ty vs := by
  obtain ⟨c, A, -, r2, r3, H, G⟩ := A
  have e : c.slots.toList = vs := by
    apply List.ext_getElem?
    intro i
    by_cases hi : i < c.slots.size
    · have q := H i hi
      rw [Array.getElem?_toList, q]
      have hi' : i < vs.length := by omega
      simp [hi']
    · rw [List.getElem?_eq_none (by simpa using hi), List.getElem?_eq_none (by omega)]
  refine ⟨c, A, e, ?_, fun v hv => ?_⟩
  · rw [← hn, ← Int32.toNat_toInt]
    have := n.toInt_lt
    omega
  · obtain ⟨i, hi, rfl⟩ := List.getElem_of_mem hv
    have := G i (by omega)
    simpa [hi] using this
theorem Ok.newarr (C : Ok l Z a0 EL it n0 own h0 ws0 Q code maxL ret nm rm K) {aty : ArrayType} {n : Int32} (k cap : Nat) (w : (Jvm.Cond.arrayClass (newarray.typeOf aty)).before a0 Z = true) (hd : decode code pc = .ok (.newarray aty, 2)) (hn : n.toInt = k) (hk' : k ≤ cap) (hb' : cap * 8 ≤ 536870912) (hc : cells + 1 ≤ rm.cells) (hl : slots + cap ≤ rm.slots)
    (r : ∀ (h' : Heap) (a : Nat), @Eq Nat a h.size → h.size < h'.size → n0 ≤ a → Keep h h' [] → Ary Z h' a (newarray.typeOf aty) (List.replicate k (defaultValue (newarray.typeOf aty))) → WP l Z EL it n0 own h0 ws0 Q K h' (a :: ws) (cells + 1) (slots + cap) (mkF K.m (pc + 2) Ls (.ref a :: st))) :
    WP l Z EL it n0 own h0 ws0 Q K h ws cells slots (mkF K.m pc Ls (.int n :: st)) := by
  intro vm T locs P
  have hk : n.toNatClampNeg = k := by rw [← Int32.toNat_toInt, hn]; simp
  obtain ⟨T', h', cA, X', e', E, A, s'⟩ := newP P.1 C.exec P.2.2.2.1 w P.2.1 (g := mkF K.m pc Ls (.int n :: st)) rfl (hb C.bytes hd) rfl (fun q => by rw [Int32.lt_iff_toInt_lt, hn] at q; have : (0 : Int32).toInt = 0 := rfl; omega) (cap := cap) (hk ▸ hk') hb' (by rw [C.room]; exact hc) (by rw [C.room]; exact hl)
  refine Goes.of s' (r h' h.size rfl A.lt (P.2.2.2.2.2.2.2.2.1.1 ▸ P.2.2.2.2.2.2.2.2.1.2.1) (keep_ext E) ⟨_, A, by simp [newA, hk], ?_, fun v hv => ?_⟩ vm T' locs (P.new X' e' E A.lt))
  · simp; omega
  · obtain ⟨-, rfl⟩ := List.mem_replicate.mp hv
    cases aty <;> rfl
theorem Ok.alen (C : Ok l Z a0 EL it n0 own h0 ws0 Q code maxL ret nm rm K) {a : Nat} {ty : FieldType} {vs : List Value} {n : Int32} (A : Ary Z h a ty vs) (hn : n.toInt = vs.length) (hd : decode code pc = .ok (.arraylength, 1)) (r : WP l Z EL it n0 own h0 ws0 Q K h ws cells slots (mkF K.m (pc + 1) Ls (.int n :: st))) : WP l Z EL it n0 own h0 ws0 Q K h ws cells slots (mkF K.m pc Ls (.ref a :: st)) := by
  intro vm T locs P
  obtain ⟨c, A, q, hl, -⟩ := A
  refine Goes.of (fun t k => P.1.arraylength C.exec (by rw [P.2.1]; exact A.1) (State.isArrayOf_alike P.2.2.2.1.alike A.2.1) (g := mkF K.m pc Ls (.ref a :: st)) rfl rfl (hb C.bytes hd) t ?_) (r vm T locs P)
  have e : c.slots.size.toInt32 = n := by
    apply Int32.toInt_inj.mp
    rw [hn, ← q]
    have : c.slots.size < 2 ^ 31 := by rw [← q] at hl; simpa using hl
    simpa using RoadKit.len_toInt this
  rw [e]; exact k
theorem idx_ok {j : Int32} {i n : Nat} (hj : j.toInt = i) (hi : i < n) : ¬ (j < 0 ∨ n ≤ j.toNatClampNeg) ∧ j.toNatClampNeg = i := by
  have e : j.toNatClampNeg = i := by rw [← Int32.toNat_toInt, hj]; simp
  refine ⟨fun q => ?_, e⟩
  rw [e, Int32.lt_iff_toInt_lt, hj] at q
  have : (0 : Int32).toInt = 0 := rfl
  omega
theorem Ok.caload (C : Ok l Z a0 EL it n0 own h0 ws0 Q code maxL ret nm rm K) {a : Addr} {vs : List Value} {j : Int32} {x : Int32} (i : Nat) (A : Ary Z h a .char vs) (hj : j.toInt = i) (hx : vs[i]? = some (.int x)) (hd : decode code pc = .ok (.caload, 1)) (r : WP l Z EL it n0 own h0 ws0 Q K h ws cells slots (mkF K.m (pc + 1) Ls (.int x :: st))) : WP l Z EL it n0 own h0 ws0 Q K h ws cells slots (mkF K.m pc Ls (.int j :: .ref a :: st)) := by
  intro vm T locs P
  obtain ⟨c, A, q, hl, f⟩ := A
  have hs : c.slots.size = vs.length := by rw [← q]; simp
  have hi : i < vs.length := (List.getElem?_eq_some_iff.mp hx).1
  obtain ⟨hin, hji⟩ := idx_ok hj (hs ▸ hi)
  exact Goes.of (fun t k => P.1.caload C.exec (by rw [P.2.1]; exact A.1) (State.isArrayOf_alike P.2.2.2.1.alike A.2.1) A.2.2 hin (v := .int x) (by rw [hji, ← Array.getElem?_toList, q]; exact hx) (g := mkF K.m pc Ls (.int j :: .ref a :: st)) rfl rfl (hb C.bytes hd) t k) (r vm T locs P)
theorem Ok.baload (C : Ok l Z a0 EL it n0 own h0 ws0 Q code maxL ret nm rm K) {a : Addr} {vs : List Value} {j : Int32} {x : Int32} (i : Nat) (A : Ary Z h a .byte vs) (hj : j.toInt = i) (hx : vs[i]? = some (.int x)) (hd : decode code pc = .ok (.baload, 1)) (r : WP l Z EL it n0 own h0 ws0 Q K h ws cells slots (mkF K.m (pc + 1) Ls (.int x :: st))) : WP l Z EL it n0 own h0 ws0 Q K h ws cells slots (mkF K.m pc Ls (.int j :: .ref a :: st)) := by
  intro vm T locs P
  obtain ⟨c, A, q, hl, f⟩ := A
  have hs : c.slots.size = vs.length := by rw [← q]; simp
  have hi : i < vs.length := (List.getElem?_eq_some_iff.mp hx).1
  obtain ⟨hin, hji⟩ := idx_ok hj (hs ▸ hi)
  exact Goes.of (fun t k => P.1.baloadBytes C.exec (by rw [P.2.1]; exact A.1) (State.isArrayOf_alike P.2.2.2.1.alike A.2.1) A.2.2 hin (v := .int x) (by rw [hji, ← Array.getElem?_toList, q]; exact hx) (g := mkF K.m pc Ls (.int j :: .ref a :: st)) rfl rfl (hb C.bytes hd) t k) (r vm T locs P)
theorem Ok.laload (C : Ok l Z a0 EL it n0 own h0 ws0 Q code maxL ret nm rm K) {a : Addr} {vs : List Value} {j : Int32} {x : Int64} (i : Nat) (A : Ary Z h a .long vs) (hj : j.toInt = i) (hx : vs[i]? = some (.long x)) (hd : decode code pc = .ok (.laload, 1)) (r : WP l Z EL it n0 own h0 ws0 Q K h ws cells slots (mkF K.m (pc + 1) Ls (.long x :: st))) : WP l Z EL it n0 own h0 ws0 Q K h ws cells slots (mkF K.m pc Ls (.int j :: .ref a :: st)) := by
  intro vm T locs P
  obtain ⟨c, A, q, hl, f⟩ := A
  have hs : c.slots.size = vs.length := by rw [← q]; simp
  have hi : i < vs.length := (List.getElem?_eq_some_iff.mp hx).1
  obtain ⟨hin, hji⟩ := idx_ok hj (hs ▸ hi)
  exact Goes.of (fun t k => P.1.laload C.exec (by rw [P.2.1]; exact A.1) (State.isArrayOf_alike P.2.2.2.1.alike A.2.1) A.2.2 hin (v := .long x) (by rw [hji, ← Array.getElem?_toList, q]; exact hx) (g := mkF K.m pc Ls (.int j :: .ref a :: st)) rfl rfl (hb C.bytes hd) t k) (r vm T locs P)
theorem Ary.set {a : Nat} {ty : FieldType} {vs : List Value} {c : Cell} {h' : Heap} {i : Nat} {v : Value} (A : RoadKit.Arr Z h a c ty) (q : c.slots.toList = vs) (hl : vs.length < 2 ^ 31) (f : ∀ v ∈ vs, fits ty v = true) (hv : fits ty v = true) (W : Wr h h' a i v) : Ary Z h' a ty (vs.set i v) := by
  refine ⟨_, A.same W, ?_, by simpa using hl, fun u hu => ?_⟩
  · simp [Cell.setSlot, q]
  · rcases List.mem_or_eq_of_mem_set hu with hu | rfl
    · exact f u hu
    · exact hv
theorem nar_char {x : Int32} (h0 : 0 ≤ x.toInt) (h1 : x.toInt < 65536) : nar .char x = x := by
  apply Int32.toInt_inj.mp
  have q := c_i2c x
  show x.toUInt32.toUInt16.toUInt32.toInt32.toInt = _
  omega
theorem i2c_id {x : Int32} (h0 : 0 ≤ x.toInt) (h1 : x.toInt < 65536) : x.toUInt32.toUInt16.toUInt32.toInt32 = x := nar_char h0 h1
theorem Ok.castore (C : Ok l Z a0 EL it n0 own h0 ws0 Q code maxL ret nm rm K) {a : Nat} {vs : List Value} {j x : Int32} (i : Nat) (A : Ary Z h a .char vs) (hj : j.toInt = i) (hi : i < vs.length) (x0 : 0 ≤ x.toInt) (x1 : x.toInt < 65536) (hd : decode code pc = .ok (.castore, 1)) (ha : a ∈ ws)
    (r : ∀ h' : Heap, h'.size = h.size → Keep h h' [a] → Ary Z h' a .char (vs.set i (.int x)) → WP l Z EL it n0 own h0 ws0 Q K h' ws cells slots (mkF K.m (pc + 1) Ls st)) : WP l Z EL it n0 own h0 ws0 Q K h ws cells slots (mkF K.m pc Ls (.int x :: .int j :: .ref a :: st)) := by
  intro vm T locs P
  obtain ⟨c, A, q, hl, f⟩ := A
  have hs : c.slots.size = vs.length := by rw [← q]; simp
  obtain ⟨hin, hji⟩ := idx_ok hj (hs ▸ hi)
  obtain ⟨T', h', X', e', W, s'⟩ := stC P.1 C.exec P.2.2.2.1 P.2.1 A hin (g := mkF K.m pc Ls (.int x :: .int j :: .ref a :: st)) rfl rfl (hb C.bytes hd)
  have W' := W
  rw [hji, nar_char x0 x1] at W
  exact Goes.of s' (r h' W'.size (Keep.of_wr W') (Ary.set A q hl f (by have := fits_nar_char x; rwa [nar_char x0 x1] at this) W) vm T' _ (P.wr ha X' e' W'))
theorem Ok.bastore (C : Ok l Z a0 EL it n0 own h0 ws0 Q code maxL ret nm rm K) {a : Nat} {vs : List Value} {j x : Int32} (i : Nat) (A : Ary Z h a .byte vs) (hj : j.toInt = i) (hi : i < vs.length) (hd : decode code pc = .ok (.bastore, 1)) (ha : a ∈ ws)
    (r : ∀ h' : Heap, h'.size = h.size → Keep h h' [a] → Ary Z h' a .byte (vs.set i (.int x.toInt8.toInt32)) → WP l Z EL it n0 own h0 ws0 Q K h' ws cells slots (mkF K.m (pc + 1) Ls st)) : WP l Z EL it n0 own h0 ws0 Q K h ws cells slots (mkF K.m pc Ls (.int x :: .int j :: .ref a :: st)) := by
  intro vm T locs P
  obtain ⟨c, A, q, hl, f⟩ := A
  have hs : c.slots.size = vs.length := by rw [← q]; simp
  obtain ⟨hin, hji⟩ := idx_ok hj (hs ▸ hi)
  obtain ⟨T', h', X', e', W, s'⟩ := stB P.1 C.exec P.2.2.2.1 P.2.1 A hin (g := mkF K.m pc Ls (.int x :: .int j :: .ref a :: st)) rfl rfl (hb C.bytes hd)
  have W' := W
  rw [hji] at W
  exact Goes.of s' (r h' W'.size (Keep.of_wr W') (Ary.set A q hl f (fits_nar_byte x) W) vm T' _ (P.wr ha X' e' W'))
theorem Ok.lastore (C : Ok l Z a0 EL it n0 own h0 ws0 Q code maxL ret nm rm K) {a : Nat} {vs : List Value} {j : Int32} {x : Int64} (i : Nat) (A : Ary Z h a .long vs) (hj : j.toInt = i) (hi : i < vs.length) (hd : decode code pc = .ok (.lastore, 1)) (ha : a ∈ ws)
    (r : ∀ h' : Heap, h'.size = h.size → Keep h h' [a] → Ary Z h' a .long (vs.set i (.long x)) → WP l Z EL it n0 own h0 ws0 Q K h' ws cells slots (mkF K.m (pc + 1) Ls st)) : WP l Z EL it n0 own h0 ws0 Q K h ws cells slots (mkF K.m pc Ls (.long x :: .int j :: .ref a :: st)) := by
  intro vm T locs P
  obtain ⟨c, A, q, hl, f⟩ := A
  have hs : c.slots.size = vs.length := by rw [← q]; simp
  obtain ⟨hin, hji⟩ := idx_ok hj (hs ▸ hi)
  obtain ⟨T', h', X', e', W, s'⟩ := stJ P.1 C.exec P.2.2.2.1 P.2.1 A hin (g := mkF K.m pc Ls (.long x :: .int j :: .ref a :: st)) rfl rfl (hb C.bytes hd)
  have W' := W
  rw [hji] at W
  exact Goes.of s' (r h' W'.size (Keep.of_wr W') (Ary.set A q hl f rfl W) vm T' _ (P.wr ha X' e' W'))
/-! ends -/
theorem endMore {s t : State} {o : Outcome} {L : List Loc} {k n k' n' : Nat} (R : ReturnedEndW s o t L k n) (hk : k ≤ k') (hn : n ≤ n') : ReturnedEndW s o t L k' n' := ⟨R.1, R.2.1, R.2.2.1, R.2.2.2.mono hk hn⟩
theorem Ok.leave (C : Ok l Z a0 EL it n0 own h0 ws0 Q code maxL ret nm rm K) {v : Option Value} (hv : ret = none → v = none) (hq : Q v h) (hc : cells ≤ rm.cells) (hl : slots ≤ rm.slots)
    (go : ∀ (T : State) (vm : Vm) (locs : List Loc) (fs : List Frame), Stand K.p l K.e K.R (K.s.setVm vm) K.m K.args K.below K.meth K.c T locs cells slots → (∀ (f : JFrame) (acts : List Action), f.method = K.m → f.locked = none → f.entered = [] → (doReturn K.e (T.setTop f) acts v).1 = T.setFrames fs) → Steps K.p.tables K.e K.below (T.setTop g) (T.setFrames fs)) :
    WP l Z EL it n0 own h0 ws0 Q K h ws cells slots g := by
  intro vm T locs P
  obtain ⟨X, eT, ⟨k, hS, hk⟩, hZ, hown, H, N, Kp, O, Ow⟩ := P
  obtain ⟨fs, hr, h1, h2, hR⟩ := X.leaveW hS (by rw [eT]; exact hk) (v := v) (fun q => hv (C.rets.symm.trans q)) C.unlocked
  have eh : (T.setFrames fs).heap = h := eT
  refine ⟨_, _, go T vm locs fs X hr, h1, h2, v, locs, rfl, ⟨by rw [eh]; exact hq, by rw [eh]; exact Kp, N⟩, ?_, endMore hR (by rw [C.room]; exact hc) (by rw [C.room]; exact hl)⟩
  rw [eh]
  show CHx it Z EL K.s.vm h0 T.vm h
  exact H.trans (CHx.still (CHv.at X hZ C.ew H.1) (Wm.of (s0 := K.s.setVm vm) X.warmed))
theorem Ok.return_ (C : Ok l Z a0 EL it n0 own h0 ws0 Q code maxL ret nm rm K) (hr : ret = none) (hd : decode code pc = .ok (.return_, 1)) (hc : cells ≤ rm.cells) (hl : slots ≤ rm.slots) (hq : Q none h) : WP l Z EL it n0 own h0 ws0 Q K h ws cells slots (mkF K.m pc Ls []) :=
  C.leave (v := none) (fun _ => rfl) hq hc hl fun T vm locs fs X hl => X.returnOut C.exec (C.rets.trans hr) (hb C.bytes hd) hl
theorem Ok.ireturn (C : Ok l Z a0 EL it n0 own h0 ws0 Q code maxL ret nm rm K) {t : FieldType} {z : Int32} (hr : ret = some t) (ht : t = .int ∨ t = .boolean ∨ t = .byte ∨ t = .char ∨ t = .short) (hn : narrow t (.int z) = .int z) (hd : decode code pc = .ok (.ireturn, 1)) (hc : cells ≤ rm.cells) (hl : slots ≤ rm.slots) (hq : Q (some (.int z)) h) : WP l Z EL it n0 own h0 ws0 Q K h ws cells slots (mkF K.m pc Ls (.int z :: st)) :=
  C.leave (v := some (.int z)) (fun q => by rw [hr] at q; cases q) hq hc hl fun T vm locs fs X hl => retOut X C.exec (C.rets.trans hr) hn (Or.inl ⟨rfl, ht, z, rfl⟩) (hb C.bytes hd) hl
theorem Ok.areturn (C : Ok l Z a0 EL it n0 own h0 ws0 Q code maxL ret nm rm K) {t : FieldType} {v : Value} (hr : ret = some t) (ht : t.isReference = true) (hv : v.isRef = true) (hd : decode code pc = .ok (.areturn, 1)) (hc : cells ≤ rm.cells) (hl : slots ≤ rm.slots) (hq : Q (some v) h) : WP l Z EL it n0 own h0 ws0 Q K h ws cells slots (mkF K.m pc Ls (v :: st)) :=
  C.leave (v := some v) (fun q => by rw [hr] at q; cases q) hq hc hl fun T vm locs fs X hl => retOut X C.exec (C.rets.trans hr) (by rcases ref_cases hv with rfl | ⟨a, rfl⟩ <;> cases t <;> first | rfl | cases ht) (Or.inr (Or.inr (Or.inr (Or.inr ⟨rfl, ht, hv⟩)))) (hb C.bytes hd) hl
theorem Ok.lreturn (C : Ok l Z a0 EL it n0 own h0 ws0 Q code maxL ret nm rm K) {z : Int64} (hr : ret = some .long) (hd : decode code pc = .ok (.lreturn, 1)) (hc : cells ≤ rm.cells) (hl : slots ≤ rm.slots) (hq : Q (some (.long z)) h) : WP l Z EL it n0 own h0 ws0 Q K h ws cells slots (mkF K.m pc Ls (.long z :: st)) :=
  C.leave (v := some (.long z)) (fun q => by rw [hr] at q; cases q) hq hc hl fun T vm locs fs X hl => retOut X C.exec (C.rets.trans hr) rfl (Or.inr (Or.inl ⟨rfl, rfl, z, rfl⟩)) (hb C.bytes hd) hl
end Rules
end Own
end Jvm.Pilot.@@N@@
namespace Jvm.Pilot.@@N@@
namespace Own
open Jvm Jvm.ClassFile Sem Op Lib Jvm.Free Jvm.Stand Jvm.LawKit Jvm.RoadKit Bundle
section Calls
variable {l : Launch} {Z : State} {a0 : Array Value} {EL : List (String × Nat)} {it : Prop} {n0 : Nat} {own : String} {h0 : Heap} {ws0 : List Addr} {Q : Option Value → Heap → Prop} {code : ByteArray} {maxL : Nat} {ret : Option FieldType} {nm : String} {rm : Room} {K : Ctx} {h : Heap} {ws : List Addr} {cells slots pc : Nat} {Ls : Array Slot} {st stk : List Value} {g g' : JFrame}
theorem Ok.topI (C : Ok l Z a0 EL it n0 own h0 ws0 Q code maxL ret nm rm K) {x y : Int32} (e : x = y) (r : WP l Z EL it n0 own h0 ws0 Q K h ws cells slots (mkF K.m pc Ls (.int y :: st))) : WP l Z EL it n0 own h0 ws0 Q K h ws cells slots (mkF K.m pc Ls (.int x :: st)) := by subst e; exact r
theorem Ok.topJ (C : Ok l Z a0 EL it n0 own h0 ws0 Q code maxL ret nm rm K) {x y : Int64} (e : x = y) (r : WP l Z EL it n0 own h0 ws0 Q K h ws cells slots (mkF K.m pc Ls (.long y :: st))) : WP l Z EL it n0 own h0 ws0 Q K h ws cells slots (mkF K.m pc Ls (.long x :: st)) := by subst e; exact r
theorem Ok.more (C : Ok l Z a0 EL it n0 own h0 ws0 Q code maxL ret nm rm K) {cells' slots' : Nat} (h1 : cells ≤ cells') (h2 : slots ≤ slots') (r : WP l Z EL it n0 own h0 ws0 Q K h ws cells' slots' g) : WP l Z EL it n0 own h0 ws0 Q K h ws cells slots g :=
  fun vm T locs P => r vm T locs ⟨P.1.more h1 h2, P.2⟩
theorem Ok.sub (C : Ok l Z a0 EL it n0 own h0 ws0 Q code maxL ret nm rm K) {ws' : List Addr} (hs : ∀ x ∈ ws', x ∈ ws) (r : WP l Z EL it n0 own h0 ws0 Q K h ws' cells slots g) : WP l Z EL it n0 own h0 ws0 Q K h ws cells slots g :=
  fun vm T locs P => r vm T locs ⟨P.1, P.2.1, P.2.2.1, P.2.2.2.1, P.2.2.2.2.1, P.2.2.2.2.2.1, P.2.2.2.2.2.2.1, P.2.2.2.2.2.2.2.1, P.2.2.2.2.2.2.2.2.1, fun x hx => P.2.2.2.2.2.2.2.2.2 x (hs x hx)⟩
theorem Pos.call {it' : Prop} (hi : it' → it) {vm : Vm} {T U : State} {locs L : List Loc} {ws' : List Addr} {cells' slots' : Nat} (P : Pos l Z EL it n0 own h0 ws0 K h ws cells slots vm T locs) (hsub : ∀ x ∈ ws', x ∈ ws) (X' : Stand K.p l K.e K.R ((K.s.setVm vm).setVm U.vm) K.m K.args K.below K.meth K.c U (locs ++ L) cells' slots')
    (hS' : (K.s.setVm vm).Since U.vm U.heap.size) (hkp : Keep h U.heap ws') (hN : Fr n0 L) (hC : CHx it' Z EL vm h U.vm U.heap) : Pos l Z EL it n0 own h0 ws0 K U.heap ws cells' slots' U.vm U (locs ++ L) := by
  obtain ⟨X, eT, ⟨k, hS, hk⟩, hZ, hown, H, N, Kp, O, Ow⟩ := P
  obtain ⟨y1, y2, y3, y4⟩ := rebS hS hk X' hS' hkp.1 hZ hown
  exact ⟨y1, rfl, ⟨_, y2, Nat.le_refl _⟩, y3, y4, H.trans (hC.mono hi), N.app hN, Kp.trans hkp (fun x hx => (Ow x (hsub x hx)).2.2.2), O.keep hkp (fun x hx => (Ow x (hsub x hx)).1),
    fun x hx => ⟨(Ow x hx).1, Nat.lt_of_lt_of_le (Ow x hx).2.1 hkp.1, hC.safe (Ow x hx).2.1 (Ow x hx).2.2.1, (Ow x hx).2.2.2⟩⟩
theorem Ok.callS (C : Ok l Z a0 EL it n0 own h0 ws0 Q code maxL ret nm rm K) {it' : Prop} {y : MethodName} {index : Nat} {bytes' : ByteArray} {maxL' : Nat} {ret' : Option FieldType} {fr lo cl sl : Nat} {ws' : List Addr} {Q' : Option Value → Heap → Prop} {ps : List FieldType} {rt : Option FieldType} (as : List Value) (st : List Value) (W : Nat)
    (w1 : (Jvm.Cond.methodLink own index y).before a0 Z = true) (w2 : (Jvm.Cond.static y).before a0 Z = true) (w3 : (Jvm.Cond.initialized y.cls).before a0 Z = true) (w4 : (Jvm.Cond.code y bytes' maxL' ret').before a0 Z = true) (hy : y.cls ≠ "java/lang/invoke/MethodHandle" ∧ y.cls ≠ "java/lang/invoke/VarHandle")
    (pd : parseMethodDescriptor y.desc = some ⟨ps, rt⟩) (hlen : as.length = ps.length) (hi : it' → it) (M : Con l Z a0 EL it' n0 y fr lo cl sl as.toArray h ws' Q') (hd : decode code pc = .ok (.invokestatic index, 3)) (hLs : Ls.size = maxL) (hst : stk = as.reverse ++ st) (hW : (st.map fun v => v.category).sum = W)
    (hfr : fr ≤ rm.frames) (hlo : W + lo ≤ rm.locals) (hc : cells + cl ≤ rm.cells) (hs : slots + sl ≤ rm.slots) (hsub : ∀ x ∈ ws', x ∈ ws)
    (r : ∀ (v : Option Value) (h' : Heap), h.size ≤ h'.size → Keep h h' ws' → Q' v h' → WP l Z EL it n0 own h0 ws0 Q K h' ws (cells + cl) (slots + sl) (mkF K.m (pc + 3) Ls (v.toList ++ st))) : WP l Z EL it n0 own h0 ws0 Q K h ws cells slots (mkF K.m pc Ls stk) := by
  intro vm T locs P
  have P0 := P
  obtain ⟨X, eT, ⟨k, hS, hk⟩, hZ, hown, H, N, Kp, O, Ow⟩ := P
  have B := M K.R K.p K.e K.below K.s K.args 3 W vm hZ C.ew H.1 O (fun x hx => ⟨(Ow x (hsub x hx)).1, (Ow x (hsub x hx)).2.1, (Ow x (hsub x hx)).2.2.1⟩) (by rw [C.room]; exact hfr) (by rw [C.room]; exact hlo)
  obtain ⟨v, vm₁, ⟨U, locs', cells', slots'⟩, -, X', hS', hgr, ⟨L, ⟨hq, hkp, hN⟩, e1, e2, e3, hC⟩, hgo⟩ := callSS X C.exec hown (mv hZ w1) (mv hZ w2) (mv hZ w3) (mv hZ w4) hy B (g := mkF K.m pc Ls stk) rfl (hLs.trans C.maxl.symm) (rest := st) (lenOf pd hlen) hst (by rw [hW]; exact Nat.le_of_eq (Nat.zero_add _)) (hb C.bytes hd) (fun vm₁ _ => ⟨rfl, eT, by rw [C.room]; exact hc, by rw [C.room]; exact hs⟩)
  dsimp only [Pt.U, Pt.locs, Pt.cells, Pt.slots] at X' hS' hgr hq hkp e1 e2 e3 hC hgo
  subst e1 e2 e3
  exact Goes.of (fun t k => hgo.trans k) (r v U.heap hkp.1 hkp hq U.vm U _ (P0.call hi hsub X' hS' hkp hN hC))
/-- a call of a static method that interns nothing; what it has made may be written from here on -/
theorem Ok.callSo (C : Ok l Z a0 EL it n0 own h0 ws0 Q code maxL ret nm rm K) {y : MethodName} {index : Nat} {bytes' : ByteArray} {maxL' : Nat} {ret' : Option FieldType} {fr lo cl sl : Nat} {ws' : List Addr} {Q' : Option Value → Heap → Prop} {ps : List FieldType} {rt : Option FieldType} (as : List Value) (st : List Value) (W : Nat)
    (w1 : (Jvm.Cond.methodLink own index y).before a0 Z = true) (w2 : (Jvm.Cond.static y).before a0 Z = true) (w3 : (Jvm.Cond.initialized y.cls).before a0 Z = true) (w4 : (Jvm.Cond.code y bytes' maxL' ret').before a0 Z = true) (hy : y.cls ≠ "java/lang/invoke/MethodHandle" ∧ y.cls ≠ "java/lang/invoke/VarHandle")
    (pd : parseMethodDescriptor y.desc = some ⟨ps, rt⟩) (hlen : as.length = ps.length) (M : Con l Z a0 EL False n0 y fr lo cl sl as.toArray h ws' Q') (hd : decode code pc = .ok (.invokestatic index, 3)) (hLs : Ls.size = maxL) (hst : stk = as.reverse ++ st) (hW : (st.map fun v => v.category).sum = W)
    (hfr : fr ≤ rm.frames) (hlo : W + lo ≤ rm.locals) (hc : cells + cl ≤ rm.cells) (hs : slots + sl ≤ rm.slots) (hsub : ∀ x ∈ ws', x ∈ ws)
    (r : ∀ (v : Option Value) (h' : Heap), h.size ≤ h'.size → Keep h h' ws' → Q' v h' → ∃ os : List Addr, (∀ x ∈ os, h.size ≤ x ∧ x < h'.size) ∧ WP l Z EL it n0 own h0 ws0 Q K h' (os ++ ws) (cells + cl) (slots + sl) (mkF K.m (pc + 3) Ls (v.toList ++ st))) : WP l Z EL it n0 own h0 ws0 Q K h ws cells slots (mkF K.m pc Ls stk) := by
  intro vm T locs P
  have P0 := P
  obtain ⟨X, eT, ⟨k, hS, hk⟩, hZ, hown, H, N, Kp, O, Ow⟩ := P
  have B := M K.R K.p K.e K.below K.s K.args 3 W vm hZ C.ew H.1 O (fun x hx => ⟨(Ow x (hsub x hx)).1, (Ow x (hsub x hx)).2.1, (Ow x (hsub x hx)).2.2.1⟩) (by rw [C.room]; exact hfr) (by rw [C.room]; exact hlo)
  obtain ⟨v, vm₁, ⟨U, locs', cells', slots'⟩, -, X', hS', hgr, ⟨L, ⟨hq, hkp, hN⟩, e1, e2, e3, hC⟩, hgo⟩ := callSS X C.exec hown (mv hZ w1) (mv hZ w2) (mv hZ w3) (mv hZ w4) hy B (g := mkF K.m pc Ls stk) rfl (hLs.trans C.maxl.symm) (rest := st) (lenOf pd hlen) hst (by rw [hW]; exact Nat.le_of_eq (Nat.zero_add _)) (hb C.bytes hd) (fun vm₁ _ => ⟨rfl, eT, by rw [C.room]; exact hc, by rw [C.room]; exact hs⟩)
  dsimp only [Pt.U, Pt.locs, Pt.cells, Pt.slots] at X' hS' hgr hq hkp e1 e2 e3 hC hgo
  subst e1 e2 e3
  obtain ⟨os, hos, r⟩ := r v U.heap hkp.1 hkp hq
  have P1 := P0.call (it' := False) False.elim hsub X' hS' hkp hN hC
  refine Goes.of (fun t k => hgo.trans k) (r U.vm U _ ⟨P1.1, P1.2.1, P1.2.2.1, P1.2.2.2.1, P1.2.2.2.2.1, P1.2.2.2.2.2.1, P1.2.2.2.2.2.2.1, P1.2.2.2.2.2.2.2.1, P1.2.2.2.2.2.2.2.2.1, fun x hx => ?_⟩)
  rcases List.mem_append.mp hx with hx | hx
  · obtain ⟨g1, g2⟩ := hos x hx
    refine ⟨Nat.le_trans (O.1 ▸ O.2.1) g1, g2, fun q => ?_, Or.inr (Nat.le_trans Kp.1 g1)⟩
    rcases hC.2.2.1 x q with q | q
    · obtain ⟨c, hc⟩ := q.there
      exact absurd (Array.getElem?_eq_some_iff.mp hc).1 (Nat.not_lt.mpr g1)
    · exact q.1
  · exact P1.2.2.2.2.2.2.2.2.2 x hx
theorem Ok.callN (C : Ok l Z a0 EL it n0 own h0 ws0 Q code maxL ret nm rm K) {it' : Prop} {y : MethodName} {index : Nat} {bytes' : ByteArray} {maxL' : Nat} {fr lo cl sl : Nat} {ws' : List Addr} {Q' : Option Value → Heap → Prop} {ps : List FieldType} {rt : Option FieldType} (a : Nat) (as : List Value) (st : List Value) (W : Nat)
    (w1 : (Jvm.Cond.methodLink own index y).before a0 Z = true) (w2 : (Jvm.Cond.instanceMethod y).before a0 Z = true) (w4 : (Jvm.Cond.code y bytes' maxL' none).before a0 Z = true) (hy1 : y.name = "<init>") (hy : y.cls ≠ "java/lang/invoke/MethodHandle" ∧ y.cls ≠ "java/lang/invoke/VarHandle")
    (pd : parseMethodDescriptor y.desc = some ⟨ps, rt⟩) (hlen : as.length = ps.length) (hi : it' → it) (M : Con l Z a0 EL it' n0 y fr lo cl sl (Value.ref a :: as).toArray h ws' Q') (hd : decode code pc = .ok (.invokespecial index, 3)) (hLs : Ls.size = maxL) (hst : stk = as.reverse ++ .ref a :: st) (hW : (st.map fun v => v.category).sum = W)
    (hfr : fr ≤ rm.frames) (hlo : W + lo ≤ rm.locals) (hc : cells + cl ≤ rm.cells) (hs : slots + sl ≤ rm.slots) (hsub : ∀ x ∈ ws', x ∈ ws)
    (r : ∀ (v : Option Value) (h' : Heap), h.size ≤ h'.size → Keep h h' ws' → Q' v h' → WP l Z EL it n0 own h0 ws0 Q K h' ws (cells + cl) (slots + sl) (mkF K.m (pc + 3) Ls (v.toList ++ st))) : WP l Z EL it n0 own h0 ws0 Q K h ws cells slots (mkF K.m pc Ls stk) := by
  intro vm T locs P
  have P0 := P
  obtain ⟨X, eT, ⟨k, hS, hk⟩, hZ, hown, H, N, Kp, O, Ow⟩ := P
  have B := M K.R K.p K.e K.below K.s K.args 3 W vm hZ C.ew H.1 O (fun x hx => ⟨(Ow x (hsub x hx)).1, (Ow x (hsub x hx)).2.1, (Ow x (hsub x hx)).2.2.1⟩) (by rw [C.room]; exact hfr) (by rw [C.room]; exact hlo)
  obtain ⟨v, vm₁, ⟨U, locs', cells', slots'⟩, -, X', hS', hgr, ⟨L, ⟨hq, hkp, hN⟩, e1, e2, e3, hC⟩, hgo⟩ := X.specialBackS C.exec hy1 hown (mv hZ w1) (mv hZ w2) (mv hZ w4) hy B (g := mkF K.m pc Ls stk) rfl (hLs.trans C.maxl.symm) (Steps.refl _) (a := a) (rest := st) (lenOf pd hlen) hst (by rw [hW]; exact Nat.le_of_eq (Nat.zero_add _)) (hb C.bytes hd) (fun vm₁ _ => ⟨rfl, eT, by rw [C.room]; exact hc, by rw [C.room]; exact hs⟩)
  dsimp only [Pt.U, Pt.locs, Pt.cells, Pt.slots] at X' hS' hgr hq hkp e1 e2 e3 hC hgo
  subst e1 e2 e3
  exact Goes.of (fun t k => hgo.trans k) (r v U.heap hkp.1 hkp hq U.vm U _ (P0.call hi hsub X' hS' hkp hN hC))
theorem Ok.callV (C : Ok l Z a0 EL it n0 own h0 ws0 Q code maxL ret nm rm K) {it' : Prop} {y : MethodName} {J : String} {index : Nat} {fr lo cl sl : Nat} {ws' : List Addr} {Q' : Option Value → Heap → Prop} {ps : List FieldType} {rt : Option FieldType} (b : Nat) (as : List Value) (st : List Value) (W : Nat)
    (w1 : (Jvm.Cond.methodLink own index y).before a0 Z = true) (w2 : (Jvm.Cond.declares y).before a0 Z = true) (w3 : (Jvm.Cond.selects J y y).before a0 Z = true) (w4 : (Jvm.Cond.instanceMethod y).before a0 Z = true) (hy : y.cls ≠ "java/lang/invoke/MethodHandle" ∧ y.cls ≠ "java/lang/invoke/VarHandle") (hyJ : y.cls = J)
    (E : Exa Z h b J) (pd : parseMethodDescriptor y.desc = some ⟨ps, rt⟩) (hlen : as.length = ps.length) (hi : it' → it) (M : Con l Z a0 EL it' n0 y fr lo cl sl (Value.ref b :: as).toArray h ws' Q') (hd : decode code pc = .ok (.invokevirtual index, 3)) (hLs : Ls.size = maxL) (hst : stk = as.reverse ++ .ref b :: st) (hW : (st.map fun v => v.category).sum = W)
    (hfr : fr ≤ rm.frames) (hlo : W + lo ≤ rm.locals) (hc : cells + cl ≤ rm.cells) (hs : slots + sl ≤ rm.slots) (hsub : ∀ x ∈ ws', x ∈ ws)
    (r : ∀ (v : Option Value) (h' : Heap), h.size ≤ h'.size → Keep h h' ws' → Q' v h' → WP l Z EL it n0 own h0 ws0 Q K h' ws (cells + cl) (slots + sl) (mkF K.m (pc + 3) Ls (v.toList ++ st))) : WP l Z EL it n0 own h0 ws0 Q K h ws cells slots (mkF K.m pc Ls stk) := by
  intro vm T locs P
  have P0 := P
  obtain ⟨X, eT, ⟨k, hS, hk⟩, hZ, hown, H, N, Kp, O, Ow⟩ := P
  have B := M K.R K.p K.e K.below K.s K.args 3 W vm hZ C.ew H.1 O (fun x hx => ⟨(Ow x (hsub x hx)).1, (Ow x (hsub x hx)).2.1, (Ow x (hsub x hx)).2.2.1⟩) (by rw [C.room]; exact hfr) (by rw [C.room]; exact hlo)
  obtain ⟨cB, kB, q1, -, q3⟩ := isOf (s := K.s.setVm vm) hZ eT E
  subst hyJ
  obtain ⟨v, vm₁, ⟨U, locs', cells', slots'⟩, -, X', hS', hgr, ⟨L, ⟨hq, hkp, hN⟩, e1, e2, e3, hC⟩, hgo⟩ := X.virtualBackS C.exec (y := y) (z := y) hown (mv hZ w1) (mv hZ w2) (notFace_of_selects (args := #[]) (mv hZ w3)) (mv hZ w3) (mv hZ w4) hy B q1 q3 (g := mkF K.m pc Ls stk) rfl (hLs.trans C.maxl.symm) (Steps.refl _) (argsL := as) (rest := st) (lenOf pd hlen) hst (by rw [hW]; exact Nat.le_of_eq (Nat.zero_add _)) (hb C.bytes hd) (fun vm₁ _ => ⟨rfl, eT, by rw [C.room]; exact hc, by rw [C.room]; exact hs⟩)
  dsimp only [Pt.U, Pt.locs, Pt.cells, Pt.slots] at X' hS' hgr hq hkp e1 e2 e3 hC hgo
  subst e1 e2 e3
  exact Goes.of (fun t k => hgo.trans k) (r v U.heap hkp.1 hkp hq U.vm U _ (P0.call hi hsub X' hS' hkp hN hC))
theorem Ok.callI (C : Ok l Z a0 EL it n0 own h0 ws0 Q code maxL ret nm rm K) {it' : Prop} {x y : MethodName} {J : String} {index count : Nat} {fr lo cl sl : Nat} {ws' : List Addr} {Q' : Option Value → Heap → Prop} {ps : List FieldType} {rt : Option FieldType} (b : Nat) (as : List Value) (st : List Value) (W : Nat)
    (w1 : (Jvm.Cond.methodLink own index x).before a0 Z = true) (w2 : (Jvm.Cond.declares x).before a0 Z = true) (hk' : ((Jvm.Cond.interfaceMethod x.cls x.cls x.name x.desc).onTables && (Jvm.Cond.interfaceMethod x.cls x.cls x.name x.desc).keepsFace) = true) (w2' : (Jvm.Cond.interfaceMethod x.cls x.cls x.name x.desc).before a0 Z = true) (w3 : (Jvm.Cond.selects J x y).before a0 Z = true) (w4 : (Jvm.Cond.instanceMethod y).before a0 Z = true) (w5 : (Jvm.Cond.publicMethod y).before a0 Z = true) (w6 : (Jvm.Cond.unhidden J x.name x.desc).before a0 Z = true) (w7 : (Jvm.Cond.castable J x.cls).before a0 Z = true) (hy : x.cls ≠ "java/lang/invoke/MethodHandle" ∧ x.cls ≠ "java/lang/invoke/VarHandle")
    (E : Exa Z h b J) (pd : parseMethodDescriptor x.desc = some ⟨ps, rt⟩) (hlen : as.length = ps.length) (hi : it' → it) (M : Con l Z a0 EL it' n0 y fr lo cl sl (Value.ref b :: as).toArray h ws' Q') (hd : decode code pc = .ok (.invokeinterface index count, 5)) (hLs : Ls.size = maxL) (hst : stk = as.reverse ++ .ref b :: st) (hW : (st.map fun v => v.category).sum = W)
    (hfr : fr ≤ rm.frames) (hlo : W + lo ≤ rm.locals) (hc : cells + cl ≤ rm.cells) (hs : slots + sl ≤ rm.slots) (hsub : ∀ x ∈ ws', x ∈ ws)
    (r : ∀ (v : Option Value) (h' : Heap), h.size ≤ h'.size → Keep h h' ws' → Q' v h' → WP l Z EL it n0 own h0 ws0 Q K h' ws (cells + cl) (slots + sl) (mkF K.m (pc + 5) Ls (v.toList ++ st))) : WP l Z EL it n0 own h0 ws0 Q K h ws cells slots (mkF K.m pc Ls stk) := by
  intro vm T locs P
  have P0 := P
  obtain ⟨X, eT, ⟨k, hS, hk⟩, hZ, hown, H, N, Kp, O, Ow⟩ := P
  have B := M K.R K.p K.e K.below K.s K.args 5 W vm hZ C.ew H.1 O (fun x hx => ⟨(Ow x (hsub x hx)).1, (Ow x (hsub x hx)).2.1, (Ow x (hsub x hx)).2.2.1⟩) (by rw [C.room]; exact hfr) (by rw [C.room]; exact hlo)
  obtain ⟨cB, kB, q1, q2, q3⟩ := isOf (s := K.s.setVm vm) hZ eT E
  obtain ⟨v, vm₁, ⟨U, locs', cells', slots'⟩, -, X', hS', hgr, ⟨L, ⟨hq, hkp, hN⟩, e1, e2, e3, hC⟩, hgo⟩ := X.interfaceBackS C.exec (xi := x) (y := y) hown (mv hZ w1) (mv hZ w2) (mv hZ w2' hk') (mv hZ w3) (mv hZ w4) (mv hZ w5) (mv hZ w6) (mv hZ w7) hy B q1 q2 q3 (g := mkF K.m pc Ls stk) rfl (hLs.trans C.maxl.symm) (Steps.refl _) (argsL := as) (rest := st) (lenOf pd hlen) hst (by rw [hW]; exact Nat.le_of_eq (Nat.zero_add _)) (hb C.bytes hd) (fun vm₁ _ => ⟨rfl, eT, by rw [C.room]; exact hc, by rw [C.room]; exact hs⟩)
  dsimp only [Pt.U, Pt.locs, Pt.cells, Pt.slots] at X' hS' hgr hq hkp e1 e2 e3 hC hgo
  subst e1 e2 e3
  exact Goes.of (fun t k => hgo.trans k) (r v U.heap hkp.1 hkp hq U.vm U _ (P0.call hi hsub X' hS' hkp hN hC))
theorem Ok.initO (C : Ok l Z a0 EL it n0 own h0 ws0 Q code maxL ret nm rm K) {index : Nat} {a : Nat} (W : Nat) (w1 : (Jvm.Cond.methodLink own index Lib.objectInit).before a0 Z = true) (w2 : (Jvm.Cond.instanceMethod Lib.objectInit).before a0 Z = true) (w3 : (Jvm.Cond.code Lib.objectInit ⟨#[0xb1]⟩ 1 none).before a0 Z = true) (hd : decode code pc = .ok (.invokespecial index, 3)) (hLs : Ls.size = maxL)
    (hW : (st.map fun v => v.category).sum = W) (hfr : 1 ≤ rm.frames) (hlo : W + 12 ≤ rm.locals) (r : WP l Z EL it n0 own h0 ws0 Q K h ws cells slots (mkF K.m (pc + 3) Ls st)) : WP l Z EL it n0 own h0 ws0 Q K h ws cells slots (mkF K.m pc Ls (.ref a :: st)) := by
  intro vm T locs P
  obtain ⟨T', X', e', s'⟩ := RoadKit.initO P.1 C.exec P.2.2.2.1 P.2.2.2.2.1 w1 w2 w3 P.2.1 (g := mkF K.m pc Ls (.ref a :: st)) rfl (hLs.trans C.maxl.symm) rfl (hb C.bytes hd) (by rw [C.room]; exact hfr) (W := W) (by rw [← hW]; exact Nat.le_of_eq (Nat.zero_add _)) (by rw [C.room]; exact hlo)
  exact Goes.of s' (r vm T' locs ⟨X', e', P.2.2⟩)
/-- ldc of a String constant whose text is read -/
theorem Ok.ldcC (C : Ok l Z a0 EL it n0 own h0 ws0 Q code maxL ret nm rm K) (hit : it) {text : String} {index : Nat} {vs : List Value} {z : Int32} (n : Nat) (w : (Jvm.Cond.stringLink own index text).before a0 Z = true) (wS : ∀ a ∈ Bundle.stringAtoms, a.before a0 Z = true) (hmem : (own, index) ∈ EL)
    (ht : (∀ c ∈ text.toList, c.toNat < 256) ∧ text.toList.map (fun c => Value.int (Jvm.Lit.byteI c.toNat.toUInt16)) = vs) (hz : ¬ z < 0) (hl : z.toNatClampNeg = vs.length) (hn : 4 * text.toList.length ≤ n) (hbig : n ≤ 536870912) (hd : decode code pc = .ok (.ldc index, 2)) (hc : cells + 2 ≤ rm.cells) (hl' : slots + (n + 4) ≤ rm.slots)
    (r : ∀ (h' : Heap) (a b : Nat), h.size ≤ h'.size → Keep h h' [] → a < h'.size → b < h'.size → (∀ x ∈ ws, @Ne Nat x a ∧ @Ne Nat x b) → Exa Z h' a "java/lang/String" → Fld Z h' a "java/lang/String" "coder" "B" (.int 0) → Fld Z h' a "java/lang/String" "value" "[B" (.ref b) → Ary Z h' b .byte vs → WP l Z EL it n0 own h0 ws0 Q K h' ws (cells + 2) (slots + (n + 4)) (mkF K.m (pc + 2) Ls (.ref a :: st))) :
    WP l Z EL it n0 own h0 ws0 Q K h ws cells slots (mkF K.m pc Ls st) := by
  intro vm T locs P
  obtain ⟨X, eT, ⟨k, hS, hk⟩, hZ, hown, H, N, Kp, O, Ow⟩ := P
  obtain ⟨a, T', h', k1, b, kc, X', e', E, hS', hk', hZ', hown', F1, F2, F3, F4, la, lb, hC, -, hne, go⟩ := ldcCH X C.exec hZ hown w wS eT hS hk C.ew hmem H.1 ht hz hl (g := mkF K.m pc Ls st) rfl (hb C.bytes hd) hn hbig (by rw [C.room]; exact hc) (by rw [C.room]; exact hl')
  have Sf : ∀ x ∈ ws, Safe Z EL T'.vm h' x := fun x hx => hC.safe (Ow x hx).2.1 (Ow x hx).2.2.1
  exact Goes.of go (r h' a b E.1 (keep_ext E) la lb (fun x hx => hne x (Sf x hx)) F1 F2 F3 (Ary.of_arv F4 hl) T'.vm T' locs ⟨X', e', ⟨k1, hS', hk'⟩, hZ', hown', H.trans (CHx.of hit hC), N, Kp.ext E, O.ext E, fun x hx => ⟨(Ow x hx).1, Nat.lt_of_lt_of_le (Ow x hx).2.1 E.1, Sf x hx, (Ow x hx).2.2.2⟩⟩)
/-- ldc of a String constant, unread -/
theorem Ok.ldcO (C : Ok l Z a0 EL it n0 own h0 ws0 Q code maxL ret nm rm K) (hit : it) {text : String} {index : Nat} (n : Nat) (w : (Jvm.Cond.stringLink own index text).before a0 Z = true) (wS : ∀ a ∈ Bundle.stringAtoms, a.before a0 Z = true) (hn : 4 * text.toList.length ≤ n) (hbig : n ≤ 536870912) (hd : decode code pc = .ok (.ldc index, 2)) (hc : cells + 2 ≤ rm.cells) (hl' : slots + (n + 4) ≤ rm.slots)
    (r : ∀ (h' : Heap) (a : Nat), h.size ≤ h'.size → Keep h h' [] → WP l Z EL it n0 own h0 ws0 Q K h' ws (cells + 2) (slots + (n + 4)) (mkF K.m (pc + 2) Ls (.ref a :: st))) : WP l Z EL it n0 own h0 ws0 Q K h ws cells slots (mkF K.m pc Ls st) := by
  intro vm T locs P
  obtain ⟨X, eT, ⟨k, hS, hk⟩, hZ, hown, H, N, Kp, O, Ow⟩ := P
  obtain ⟨a, T', h', k1, X', e', E, hS', hk', hZ', hown', hC, -, go⟩ := ldcOH X C.exec hZ hown w wS eT hS hk C.ew H.1 (g := mkF K.m pc Ls st) rfl (hb C.bytes hd) hn hbig (by rw [C.room]; exact hc) (by rw [C.room]; exact hl')
  exact Goes.of go (r h' a E.1 (keep_ext E) T'.vm T' locs ⟨X', e', ⟨k1, hS', hk'⟩, hZ', hown', H.trans (CHx.of hit hC), N, Kp.ext E, O.ext E, fun x hx => ⟨(Ow x hx).1, Nat.lt_of_lt_of_le (Ow x hx).2.1 E.1, hC.safe (Ow x hx).2.1 (Ow x hx).2.2.1, (Ow x hx).2.2.2⟩⟩)
end Calls
section Laws
variable {l : Launch} {Z : State} {a0 : Array Value} {EL : List (String × Nat)} {it : Prop} {n0 : Nat} {Q : Option Value → Heap → Prop} {h : Heap} {ws : List Addr}
/-- from the body to the law -/
theorem Met.of {y : MethodName} {bytes : ByteArray} {maxL : Nat} {ret : Option FieldType} {rm : Room} {cs : List Jvm.Cond} {as : Array Value} {own nm : String} (Ls : Array Slot) (hEL : EW Z a0 EL) (ho : y.cls = own) (hn : y.name = nm) (pn : plainFor y = true) (ef : ∀ m, entryFrame m as maxL = mkF m 0 Ls [])
    (body : ∀ K : Ctx, Ok l Z a0 EL it n0 own h ws Q bytes maxL ret nm rm K → WP l Z EL it n0 own h ws Q K h ws 0 0 (mkF K.m 0 Ls [])) : Met l Z EL it n0 y bytes maxL ret rm cs as h ws Q := by
  subst ho hn
  refine MetFree.of_bodySF pn hisR ?_
  intro p e s m args below meth c s₁ Bd hml hP hK
  obtain ⟨rfl, hZ, hh, H, O, hs⟩ := hP
  subst hh
  have X : Stand p l e rm s m args below meth c s₁ [] 0 0 := Stand.of_body Bd
  have hown : s.vm.findClass y.cls = some m.cls := findClass_of_methodNamed Bd.named
  have eh : s₁.heap = s.heap := by rw [Bd.state]; rfl
  obtain ⟨s₂, o, h1, h2, h3, h4⟩ := body (p, e, rm, s, m, args, below, meth, c) ⟨Bd.exec, hEL, Bd.bytes, hml, Bd.returns, (name_of_methodNamed Bd.named Bd.method).1, Bd.notSynchronized, rfl⟩ s.vm s₁ []
    ⟨X, eh, ⟨s.heap.size, (State.WarmedH.refl s).since _, Nat.le_refl _⟩, hZ, hown, CHx.refl H, Fr.nil _, Keep.refl _ _, O, fun x hx => ⟨(hs x hx).1, (hs x hx).2.1, (hs x hx).2.2, Or.inl hx⟩⟩
  exact ⟨s₂, o, castTop (ef m) h1, h2, h3, h4⟩
/-- from the body's law to a caller's -/
theorem Met.con {y : MethodName} {bytes : ByteArray} {maxL : Nat} {ret : Option FieldType} {rm : Room} {as : Array Value} (M : Met l Z EL it n0 y bytes maxL ret rm [] as h ws Q) (wc : (Jvm.Cond.code y bytes maxL ret).before a0 Z = true) (wz : (Jvm.Cond.initialized y.cls).before a0 Z = true) {fr lo cl sl : Nat} (e1 : rm.frames + 1 = fr) (e2 : maxL + 11 + rm.locals = lo) (e3 : rm.cells = cl) (e4 : rm.slots = sl) :
    Con l Z a0 EL it n0 y fr lo cl sl as h ws Q := by
  subst e1 e2 e3 e4
  intro R p e below s args len W vm0 hZ hEL H O hs hf hl
  exact BackS.of_freeW (bytes := bytes) (maxL := maxL) (ret := ret) (E := fun _ first o t L k n => k = rm.cells ∧ n = rm.slots ∧ (∃ v, o = .returned v ∧ Q v t.heap ∧ Keep h t.heap ws ∧ Fr n0 L) ∧ CHx it Z EL first.vm h t.vm t.heap) M hf (by show W + (maxL + 11) + rm.locals ≤ _; omega)
    (fun m meth c A a Y hp => by
      have hU : Z.Warmed39 A.U.vm := wtrans (s := s.setVm vm0) hZ Y.warmed
      exact ⟨by show (Jvm.Cond.and _ .tt).before a A.U = true; rw [Cond.before_and, mv hU wc]; rfl, mv hU wc, mv hU wz, hp.2.2.1, hp.2.2.2⟩)
    (fun m meth c A a g mk Y hp => by
      have q : CHx it Z EL vm0 h A.U.vm h := CHx.still (CHv.at Y hZ hEL H) (Wm.of (s0 := s.setVm vm0) Y.warmed)
      exact ⟨hp.1, wtrans (s := s.setVm vm0) hZ Y.warmed, hp.2.1, q.1, O, fun x hx => ⟨(hs x hx).1, (hs x hx).2.1, q.safe (hs x hx).2.1 (hs x hx).2.2⟩⟩)
    (fun _ _ _ _ _ _ _ _ _ => trivial)
    (fun _ _ _ _ ⟨v, L, h1, h2, h3, h4⟩ => ⟨L, _, _, h4, rfl, rfl, ⟨v, h1, h2⟩, h3⟩)
    (fun m meth c A a g mk v t L k n Y hp _ _ ⟨e1, e2, ⟨v', e3, e4⟩, e5⟩ => by
      cases e3; subst e1 e2
      exact ⟨L, e4, rfl, rfl, rfl, (CHx.still (CHv.at Y hZ hEL H) (Wm.of (s0 := s.setVm vm0) Y.warmed)).trans e5⟩)
theorem Con.wk {y : MethodName} {fr lo cl sl : Nat} {as : Array Value} {Q' : Option Value → Heap → Prop} (M : Con l Z a0 EL it n0 y fr lo cl sl as h ws Q) (hq : ∀ v h', Keep h h' ws → Q v h' → Q' v h') : Con l Z a0 EL it n0 y fr lo cl sl as h ws Q' := by
  intro R p e below s args len W vm0 hZ hEL H O hs hf hl m meth c A g ig mk a X hg hsize hdg hW hn hp
  obtain ⟨v, B, X', hS, hgr, ⟨L, ⟨q1, q2⟩, q3⟩, hst⟩ := M R p e below s args len W vm0 hZ hEL H O hs hf hl m meth c A g ig mk a X hg hsize hdg hW hn hp
  exact ⟨v, B, X', hS, hgr, ⟨L, ⟨hq _ _ q2.1 q1, q2⟩, q3⟩, hst⟩
end Laws
end Own
end Jvm.Pilot.@@N@@
namespace Jvm.Pilot.@@N@@
namespace Own
open Jvm Jvm.ClassFile Sem Op Lib Jvm.Free Jvm.Stand Jvm.LawKit Jvm.RoadKit Bundle
/-! Strings -/
theorem neA {a b : Nat} (q : @LT.lt Nat _ a b ∨ @LT.lt Nat _ b a) : a ≠ b := fun e => by subst e; exact q.elim (Nat.lt_irrefl _) (Nat.lt_irrefl _)
abbrev ST : String := "java/lang/String"
def lo8 (x : Int32) : Int32 := x.toInt8.toInt32
def hi8 (x : Int32) : Int32 := lo8 (x >>> ((8 : Int32) &&& 31))
def wide : List Int32 → List Value
  | [] => []
  | c :: cs => .int (lo8 c) :: .int (hi8 c) :: wide cs
def Codes (cs : List Int32) (cd : Int32) (vs : List Value) : Prop :=
  (cd = 0 ∧ vs = cs.map (fun c => Value.int (lo8 c)) ∧ ∀ c ∈ cs, 0 ≤ c.toInt ∧ c.toInt < 256) ∨ (cd = 1 ∧ vs = wide cs ∧ (∀ c ∈ cs, 0 ≤ c.toInt ∧ c.toInt < 65536) ∧ ∃ c ∈ cs, 255 < c.toInt)
/-- at x stands a String that spells cs; it and its bytes lie below N -/
def Str (Z : State) (h : Heap) (N : Nat) (x : Nat) (cs : List Int32) : Prop :=
  Exa Z h x ST ∧ x < N ∧ N ≤ h.size ∧ ∃ (t : Nat) (cd : Int32) (vs : List Value), t < N ∧ Fld Z h x ST "value" "[B" (.ref t) ∧ Fld Z h x ST "coder" "B" (.int cd) ∧ Ary Z h t .byte vs ∧ Codes cs cd vs
theorem exaLt {Z : State} {h : Heap} {x : Nat} {C : String} (E : Exa Z h x C) : x < h.size := E.lt
theorem fldLt {Z : State} {h : Heap} {x : Nat} {C n d : String} {v : Value} (E : Fld Z h x C n d v) : x < h.size := E.lt
theorem Str.keep {Z : State} {h h' : Heap} {N : Nat} {x : Nat} {cs : List Int32} {us : List Addr} (S : Str Z h N x cs) (Kp : Keep h h' us) (q : ∀ w ∈ us, N ≤ w) : Str Z h' N x cs := by
  obtain ⟨E, hx, hN, t, cd, vs, ht, F1, F2, A, c⟩ := S
  have nx : ∀ z, z < N → z ∉ us := fun z hz hm => by have := q z hm; omega
  exact ⟨E.keep Kp, hx, Nat.le_trans hN Kp.1, t, cd, vs, ht, F1.keep Kp (nx x hx), F2.keep Kp (nx x hx), A.keep Kp (nx t ht), c⟩
theorem Str.keepO {Z : State} {a0 : Array Value} {h h' : Heap} {N : Nat} {x a k : Nat} {C : String} {cs : List Int32} (S : Str Z h N x cs) (E : Exa Z h a C) (wi : (Jvm.Cond.instantiable C k).before a0 Z = true) (hx : x ≠ a) (Kp : Keep h h' [a]) : Str Z h' N x cs := by
  obtain ⟨Ex, hxN, hN, t, cd, vs, ht, F1, F2, A, c⟩ := S
  have nx : x ∉ [a] := fun q => hx (List.mem_singleton.mp q)
  have nt : t ∉ [a] := fun q => by
    obtain ⟨cc, A1, -⟩ := A
    exact RoadKit.ne_arr E wi A1 (List.mem_singleton.mp q).symm
  exact ⟨Ex.keep Kp, hxN, Nat.le_trans hN Kp.1, t, cd, vs, ht, F1.keep Kp nx, F2.keep Kp nx, A.keep Kp nt, c⟩
theorem Str.exa {Z : State} {h : Heap} {N : Nat} {x : Nat} {cs : List Int32} (S : Str Z h N x cs) : Exa Z h x ST := S.1
theorem Str.lt {Z : State} {h : Heap} {N : Nat} {x : Nat} {cs : List Int32} (S : Str Z h N x cs) : x < N ∧ N ≤ h.size := ⟨S.2.1, S.2.2.1⟩
theorem ord_of {s : State} {args : Array Value} {t : Term} {x : Nat} {C n d : String} {k : Int32} (ev : t.eval args s none [] s = some (.ref x)) (h : (Jvm.Cond.eq (.field t C n d) (.int k)).value args s none s [] = some true) : s.fieldOf? x C n d = some (.int k) := by
  have q := eqv_i (Term.int_eval k) h
  rwa [fld_at ev] at q
/-! numbers -/
theorem and_chr (x : Int32) : 0 ≤ ((x &&& 255).toUInt32.toUInt16.toUInt32.toInt32).toInt ∧ ((x &&& 255).toUInt32.toUInt16.toUInt32.toInt32).toInt < 256 := by
  have q := c_and x 255 (by decide)
  have e : (255 : Int32).toInt = 255 := by decide
  rw [i2c_id (by omega) (by omega)]
  omega
theorem and_pos (x : Int32) : 0 ≤ (x &&& 2147483647).toInt := (c_and x 2147483647 (by decide)).1
theorem rem_pos {x y : Int32} (k : Int) (hx : 0 ≤ x.toInt) (hy : y.toInt = k) (hk : 0 < k) : 0 ≤ (x % y).toInt ∧ (x % y).toInt < k ∧ (x % y).toInt = x.toInt % k := by
  have q := (c_irem x y k hy).1 hx
  have := Int.emod_nonneg x.toInt (show k ≠ 0 by omega)
  have := Int.emod_lt_of_pos x.toInt hk
  omega
theorem Ary.int {Z : State} {h : Heap} {a : Nat} {vs : List Value} {k : Nat} (A : Ary Z h a .byte vs) (hk : k < vs.length) : ∃ x : Int32, vs[k]? = some (.int x) := by
  obtain ⟨c, -, -, -, f⟩ := A
  have q := f vs[k] (List.getElem_mem hk)
  obtain ⟨x, hx⟩ := fit_I q (by simp)
  exact ⟨x, by rw [List.getElem?_eq_getElem hk, hx]⟩
theorem take_eq_succ {α : Type} {vs us : List α} {k : Nat} {x : α} (q : vs.take k = us.take k) (h1 : vs[k]? = some x) (h2 : us[k]? = some x) : vs.take (k + 1) = us.take (k + 1) := by
  rw [List.take_add_one, List.take_add_one, q, h1, h2]
theorem lo8_inj {x y : Int32} (hx : 0 ≤ x.toInt ∧ x.toInt < 256) (hy : 0 ≤ y.toInt ∧ y.toInt < 256) (e : lo8 x = lo8 y) : x = y := by
  have q1 := c_i2b x
  have q2 := c_i2b y
  have e' : x.toInt8.toInt32.toInt = y.toInt8.toInt32.toInt := by rw [show x.toInt8.toInt32 = y.toInt8.toInt32 from e]
  apply Int32.toInt_inj.mp
  omega
theorem map_lo8_inj : ∀ {cs ds : List Int32}, (∀ c ∈ cs, 0 ≤ c.toInt ∧ c.toInt < 256) → (∀ c ∈ ds, 0 ≤ c.toInt ∧ c.toInt < 256) → cs.map (fun c => Value.int (lo8 c)) = ds.map (fun c => Value.int (lo8 c)) → cs = ds
  | [], [], _, _, _ => rfl
  | [], _ :: _, _, _, h => by simp at h
  | _ :: _, [], _, _, h => by simp at h
  | c :: cs, d :: ds, hc, hd, h => by
    simp only [List.map_cons, List.cons.injEq, Value.int.injEq] at h
    rw [lo8_inj (hc c (by simp)) (hd d (by simp)) h.1, map_lo8_inj (fun z hz => hc z (by simp [hz])) (fun z hz => hd z (by simp [hz])) h.2]
/-- all its chars below 256 -/
def Lat (cs : List Int32) : Prop := ∀ c ∈ cs, c.toInt < 256
theorem Codes.lat {cs : List Int32} {cd : Int32} {vs : List Value} (c : Codes cs cd vs) (hl : Lat cs) : cd = 0 ∧ vs = cs.map (fun c => Value.int (lo8 c)) ∧ ∀ c ∈ cs, 0 ≤ c.toInt ∧ c.toInt < 256 := by
  rcases c with c | ⟨-, -, -, c, hc, q⟩
  · exact c
  · have := hl c hc; omega
theorem wide_len (cs : List Int32) : (wide cs).length = 2 * cs.length := by
  induction cs with
  | nil => rfl
  | cons c cs ih => simp [wide, ih]; omega
theorem Codes.cd {cs : List Int32} {cd : Int32} {vs : List Value} (c : Codes cs cd vs) : cd = 0 ∨ cd = 1 := c.imp (·.1) (·.1)
theorem Codes.len {cs : List Int32} {cd : Int32} {vs : List Value} (c : Codes cs cd vs) (hl : vs.length < 2147483648) : (Int32.ofNat vs.length) >>> (cd &&& 31) = Int32.ofNat cs.length := by
  apply Int32.toInt_inj.mp
  have e : (Int32.ofNat vs.length).toInt = vs.length := Int32.toInt_ofNat_small hl
  rcases c with ⟨rfl, rfl, -⟩ | ⟨rfl, rfl, -⟩
  · rw [c_ishr _ 0 0 (by decide), e]
    simp only [List.length_map] at hl ⊢
    rw [Int32.toInt_ofNat_small hl]; simp
  · rw [c_ishr _ 1 1 (by decide), e]
    rw [wide_len] at hl ⊢
    rw [Int32.toInt_ofNat_small (by omega)]; simp
theorem Codes.nil {cs : List Int32} {cd : Int32} {vs : List Value} (c : Codes cs cd vs) : cs = [] ↔ vs.length = 0 := by
  rcases c with ⟨-, rfl, -⟩ | ⟨-, rfl, -⟩
  · simp
  · rw [wide_len, ← List.length_eq_zero_iff]; omega
theorem lcmp_self (x : Int64) : (lcmpW x x).toInt = 0 := (c_lcmp x x).2.1 rfl
theorem shl1 {x : Int32} (h0 : 0 ≤ x.toInt) (h1 : 2 * x.toInt < 2147483648) : (x <<< ((1 : Int32) &&& 31)).toInt = 2 * x.toInt := by
  have q := c_ishl x 1 1 (by decide)
  have r := rng32 (x <<< ((1 : Int32) &&& 31))
  omega
theorem shr0 (x : Int32) : x >>> ((0 : Int32) &&& 31) = x := by
  apply Int32.toInt_inj.mp
  rw [c_ishr x 0 0 (by decide)]; simp
theorem lo8_and (x : Int32) : (lo8 x &&& 255).toInt = x.toInt % 256 := by
  have q := c_i2b x
  have e := c_mask (lo8 x) 255 8 (by decide) (by decide)
  have e2 : (lo8 x).toInt = x.toInt8.toInt32.toInt := rfl
  omega
theorem pair_chr {c : Int32} (h0 : 0 ≤ c.toInt) (h1 : c.toInt < 65536) : (((lo8 c &&& 255) <<< ((0 : Int32) &&& 31)) ||| ((hi8 c &&& 255) <<< ((8 : Int32) &&& 31))).toUInt32.toUInt16.toUInt32.toInt32 = c := by
  have e1 := lo8_and c
  have e2 := lo8_and (c >>> ((8 : Int32) &&& 31))
  have e3 := c_ishr c 8 8 (by decide)
  have e4 := c_ishl (lo8 c &&& 255) 0 0 (by decide)
  have e5 := c_ishl (hi8 c &&& 255) 8 8 (by decide)
  have r4 := rng32 ((lo8 c &&& 255) <<< ((0 : Int32) &&& 31))
  have r5 := rng32 ((hi8 c &&& 255) <<< ((8 : Int32) &&& 31))
  have e6 : (hi8 c &&& 255).toInt = (lo8 (c >>> ((8 : Int32) &&& 31)) &&& 255).toInt := rfl
  have eq : (((lo8 c &&& 255) <<< ((0 : Int32) &&& 31)) ||| ((hi8 c &&& 255) <<< ((8 : Int32) &&& 31))) = c := by
    rw [Int32.or_comm]
    apply Int32.toInt_inj.mp
    have q := c_or ((hi8 c &&& 255) <<< ((8 : Int32) &&& 31)) ((lo8 c &&& 255) <<< ((0 : Int32) &&& 31)) 8 (by decide) 256 (by decide) (by omega) (by omega) (by omega)
    have r := rng32 (((hi8 c &&& 255) <<< ((8 : Int32) &&& 31)) ||| ((lo8 c &&& 255) <<< ((0 : Int32) &&& 31)))
    omega
  rw [eq, i2c_id h0 h1]
theorem wide_get : ∀ {cs : List Int32} {k : Nat} {c : Int32}, cs[k]? = some c → (wide cs)[2 * k]? = some (.int (lo8 c)) ∧ (wide cs)[2 * k + 1]? = some (.int (hi8 c))
  | [], k, c, h => by simp at h
  | d :: cs, 0, c, h => by
    simp at h; subst h; exact ⟨rfl, rfl⟩
  | d :: cs, k + 1, c, h => by
    have q := wide_get (cs := cs) (k := k) (c := c) (by simpa using h)
    have e : 2 * (k + 1) = 2 * k + 1 + 1 := by omega
    rw [e]
    simpa [wide] using q
theorem wide_app (cs ds : List Int32) : wide (cs ++ ds) = wide cs ++ wide ds := by
  induction cs with
  | nil => rfl
  | cons c cs ih => simp [wide, ih]
theorem wide_step {cs : List Int32} {k j : Nat} {c : Int32} (hc : cs[k]? = some c) : ((wide (cs.take k) ++ List.replicate (2 * (j + 1)) (Value.int 0)).set (2 * k) (.int (lo8 c))).set (2 * k + 1) (.int (hi8 c)) = wide (cs.take (k + 1)) ++ List.replicate (2 * j) (.int 0) := by
  have hk : k < cs.length := (List.getElem?_eq_some_iff.mp hc).1
  have e : cs.take (k + 1) = cs.take k ++ [c] := by rw [List.take_add_one, hc]; rfl
  have hl : (wide (cs.take k)).length = 2 * k := by rw [wide_len, List.length_take, Nat.min_eq_left (Nat.le_of_lt hk)]
  rw [e, wide_app, show 2 * (j + 1) = (2 * j + 1) + 1 by omega]
  rw [List.set_append_right _ _ (by omega), hl, List.set_append_right _ _ (by omega), hl]
  simp [List.replicate_succ, wide, show 2 * k + 1 - 2 * k = 1 by omega]
theorem take_all {cs : List Int32} {k : Nat} {c : Int32} {b : Int} (h : ∀ z ∈ cs.take k, z.toInt < b) (hc : cs[k]? = some c) (hb : c.toInt < b) : ∀ z ∈ cs.take (k + 1), z.toInt < b := by
  intro z hz
  rw [List.take_add_one, hc] at hz
  rcases List.mem_append.mp hz with hz | hz
  · exact h z hz
  · cases List.mem_singleton.mp (show z ∈ [c] from hz); exact hb
theorem cfal_eq {cs : List Int32} {cd n : Int32} {vs : List Value} (c : Codes cs cd vs) (hn : n.toInt = cs.length) (h0 : 0 < n.toInt) (hl : vs.length < 2147483648) : (((n - Int32.ofNat vs.length).toUInt32 >>> ((31 : Int32) &&& 31).toUInt32).toInt32).toInt8.toInt32 = cd := by
  have em : (Int32.ofNat vs.length).toInt = vs.length := Int32.toInt_ofNat_small hl
  have e1 := c_isub n (Int32.ofNat vs.length)
  have e2 := c_iushr (n - Int32.ofNat vs.length) 31 31 (by decide) (by decide)
  have r1 := rng32 (n - Int32.ofNat vs.length)
  have e3 := c_i2b ((n - Int32.ofNat vs.length).toUInt32 >>> ((31 : Int32) &&& 31).toUInt32).toInt32
  apply Int32.toInt_inj.mp
  rcases c with ⟨rfl, rfl, -⟩ | ⟨rfl, rfl, -⟩
  · rw [List.length_map] at *
    have k0 : (0 : Int32).toInt = 0 := rfl
    omega
  · rw [wide_len] at *
    have k1 : (1 : Int32).toInt = 1 := rfl
    omega
theorem Codes.wid {cs : List Int32} {cd : Int32} {vs : List Value} (c : Codes cs cd vs) (h : cd = 1) : vs = wide cs ∧ ∀ c ∈ cs, 0 ≤ c.toInt ∧ c.toInt < 65536 := by
  rcases c with c | c
  · rw [c.1] at h; exact absurd h (by decide)
  · exact ⟨c.2.1, c.2.2.1⟩
theorem Codes.lo {cs : List Int32} {cd : Int32} {vs : List Value} (c : Codes cs cd vs) (h : cd = 0) : vs = cs.map (fun c => Value.int (lo8 c)) ∧ ∀ c ∈ cs, 0 ≤ c.toInt ∧ c.toInt < 256 := by
  rcases c with c | c
  · exact ⟨c.2.1, c.2.2⟩
  · rw [c.1] at h; exact absurd h (by decide)
theorem Codes.bnd {cs : List Int32} {cd : Int32} {vs : List Value} (c : Codes cs cd vs) : ∀ c ∈ cs, 0 ≤ c.toInt ∧ c.toInt < 65536 := by
  rcases c with c | c
  · intro z hz
    have := c.2.2 z hz
    omega
  · exact c.2.2.1
theorem sub_int {x y : Int32} (h1 : -2147483648 ≤ x.toInt - y.toInt) (h2 : x.toInt - y.toInt < 2147483648) : (x - y).toInt = x.toInt - y.toInt := by
  have q := c_isub x y
  have r := rng32 (x - y)
  omega
theorem add_int {x y : Int32} (h1 : -2147483648 ≤ x.toInt + y.toInt) (h2 : x.toInt + y.toInt < 2147483648) : (x + y).toInt = x.toInt + y.toInt := by
  have q := c_iadd x y
  have r := rng32 (x + y)
  omega
theorem nchar {x : Int32} (h0 : 0 ≤ x.toInt) (h1 : x.toInt < 65536) : narrow .char (.int x) = .int x := by
  show Value.int (nar .char x) = _
  rw [nar_char h0 h1]
theorem ofNat_int {k : Nat} (h : k < 2147483648) : (Int32.ofNat k).toInt = k := Int32.toInt_ofNat_small h
theorem ofNat_succ (k : Nat) : Int32.ofNat k + (1 : Int32) = Int32.ofNat (k + 1) := by
  rw [show (1 : Int32) = Int32.ofNat 1 from rfl, ← Int32.ofNat_add]
theorem lo8_lo8 (x : Int32) : x.toInt8.toInt32.toInt8.toInt32 = lo8 x := by
  show (x.toInt8.toInt32.toInt8).toInt32 = x.toInt8.toInt32
  rw [Int8.toInt8_toInt32]
theorem fill_step {α β : Type} (f : α → β) (z : β) {cs : List α} {k j : Nat} {c : α} (hc : cs[k]? = some c) : ((cs.take k).map f ++ List.replicate (j + 1) z).set k (f c) = (cs.take (k + 1)).map f ++ List.replicate j z := by
  have hk : k < cs.length := (List.getElem?_eq_some_iff.mp hc).1
  have e : cs.take (k + 1) = cs.take k ++ [c] := by rw [List.take_add_one, hc]; rfl
  rw [e, List.map_append, List.set_append_right _ _ (by simp; omega)]
  simp [List.replicate_succ, Nat.min_eq_left (Nat.le_of_lt hk)]
/-! surrogates -/
abbrev Hi (c : Int32) : Prop := 55296 ≤ c.toInt ∧ c.toInt ≤ 56319
abbrev Lo (c : Int32) : Prop := 56320 ≤ c.toInt ∧ c.toInt ≤ 57343
/-- how many neighbours are a surrogate pair -/
def prs : List Int32 → Nat
  | [] => 0
  | [_] => 0
  | a :: b :: r => (if Hi a ∧ Lo b then 1 else 0) + prs (b :: r)
theorem prs_le : ∀ cs : List Int32, prs cs ≤ cs.length
  | [] => Nat.le_refl _
  | [_] => Nat.zero_le _
  | a :: b :: r => by
    have := prs_le (b :: r)
    simp only [prs, List.length_cons] at *
    split <;> omega
theorem prs_skip {b : Int32} (r : List Int32) (hb : ¬ Hi b) : prs (b :: r) = prs r := by
  cases r with
  | nil => rfl
  | cons c r => simp only [prs]; rw [if_neg (fun q => hb q.1)]; omega
theorem prs_drop_last {cs : List Int32} {k : Nat} (h : cs.length ≤ k + 1) : prs (cs.drop k) = 0 := by
  have hl : (cs.drop k).length ≤ 1 := by simp; omega
  match hd : cs.drop k, hl with
  | [], _ => rfl
  | [_], _ => rfl
theorem drop_two {cs : List Int32} {k : Nat} {c d : Int32} (hc : cs[k]? = some c) (hd : cs[k + 1]? = some d) : cs.drop k = c :: d :: cs.drop (k + 2) := by
  obtain ⟨h1, rfl⟩ := List.getElem?_eq_some_iff.mp hc
  obtain ⟨h2, rfl⟩ := List.getElem?_eq_some_iff.mp hd
  rw [List.drop_eq_getElem_cons h1, List.drop_eq_getElem_cons h2]
theorem prs_no {cs : List Int32} {k : Nat} {c d : Int32} (hc : cs[k]? = some c) (hd : cs[k + 1]? = some d) (hn : ¬ (Hi c ∧ Lo d)) : prs (cs.drop k) = prs (cs.drop (k + 1)) := by
  have e2 : cs.drop (k + 1) = d :: cs.drop (k + 2) := by
    obtain ⟨h2, rfl⟩ := List.getElem?_eq_some_iff.mp hd
    rw [List.drop_eq_getElem_cons h2]
  rw [drop_two hc hd, e2]
  simp only [prs]
  rw [if_neg hn]; omega
theorem prs_yes {cs : List Int32} {k : Nat} {c d : Int32} (hc : cs[k]? = some c) (hd : cs[k + 1]? = some d) (hn : Hi c ∧ Lo d) : prs (cs.drop k) = 1 + prs (cs.drop (k + 2)) := by
  rw [drop_two hc hd]
  simp only [prs]
  rw [if_pos hn, prs_skip _ (fun q => by have := hn.2; omega)]
theorem prs_lat {cs : List Int32} (h : ∀ c ∈ cs, c.toInt < 256) : prs cs = 0 := by
  induction cs with
  | nil => rfl
  | cons a r ih => rw [prs_skip r (fun q => by have := h a (by simp); omega)]; exact ih fun c hc => h c (by simp [hc])
end Own
end Jvm.Pilot.@@N@@
namespace Jvm.Pilot.@@N@@
open Jvm Jvm.ClassFile Sem Op Lib Jvm.Free Jvm.Stand Jvm.LawKit Jvm.RoadKit Bundle Jvm.Pilot.@@N@@.Jvm.D Jvm.Pilot.@@N@@.Own
abbrev EL : List (String × Nat) := [("java/lang/String", 7)]
def Base (Z : State) (a0 : Array Value)  : Prop := (∀ d ∈ tables_1, d.before a0 Z = true) ∧ (∃ zc : Int32, Sta Z Z.heap "java/lang/String" "COMPACT_STRINGS" "Z" (.int zc) ∧ ¬ zc = 0) ∧ (∃ fm : Value, Sta Z Z.heap "jdk/internal/util/Preconditions" "SIOOBE_FORMATTER" "Ljava/util/function/BiFunction;" fm ∧ fm.isRef = true) ∧ Sta Z Z.heap "java/lang/StringUTF16" "$assertionsDisabled" "Z" (.int 1) ∧ Sta Z Z.heap "java/lang/StringUTF16" "HI_BYTE_SHIFT" "I" (.int 0) ∧ Sta Z Z.heap "java/lang/StringUTF16" "LO_BYTE_SHIFT" "I" (.int 8)
variable {l : Launch} {Z : State} {a0 : Array Value} {it : Prop} {n0 : Nat}
theorem ew  (B : Base Z a0) : EW Z a0 EL := EW.cons (text := "") (B.1 _ (List.mem_of_getElem? (i := 67) rfl)) (by decide) (EW.nil)
theorem sA_mem : ∀ d ∈ Bundle.stringAtoms, d ∈ tables_1 := by decide +kernel
theorem sA  (B : Base Z a0) : ∀ d ∈ Bundle.stringAtoms, d.before a0 Z = true := fun d hd => B.1 d (sA_mem d hd)
theorem d0_0 : decode jdk_52_method_15_code 0 = .ok (.iload_n 1, 1) := by decide +kernel
theorem d0_1 : decode jdk_52_method_15_code 1 = .ok (.aload_n 0, 1) := by decide +kernel
theorem d0_2 : decode jdk_52_method_15_code 2 = .ok (.arraylength, 1) := by decide +kernel
theorem d0_3 : decode jdk_52_method_15_code 3 = .ok (.isub, 1) := by decide +kernel
theorem d0_4 : decode jdk_52_method_15_code 4 = .ok (.bipush 31, 2) := by decide +kernel
theorem d0_6 : decode jdk_52_method_15_code 6 = .ok (.iushr, 1) := by decide +kernel
theorem d0_7 : decode jdk_52_method_15_code 7 = .ok (.i2b, 1) := by decide +kernel
theorem d0_8 : decode jdk_52_method_15_code 8 = .ok (.ireturn, 1) := by decide +kernel
theorem pn_java_lang_StringUTF16 : plainName "java/lang/StringUTF16" = true := by first | (simp [plainName, overriddenIn]; done) | decide +kernel
theorem d1_0 : decode jdk_52_method_21_code 0 = .ok (.iconst 0, 1) := by decide +kernel
theorem d1_1 : decode jdk_52_method_21_code 1 = .ok (.istore 5, 2) := by decide +kernel
theorem d1_3 : decode jdk_52_method_21_code 3 = .ok (.iload 5, 2) := by decide +kernel
theorem d1_5 : decode jdk_52_method_21_code 5 = .ok (.iload 4, 2) := by decide +kernel
theorem d1_7 : decode jdk_52_method_21_code 7 = .ok (.if_icmp .ge 37, 3) := by decide +kernel
theorem d1_44 : decode jdk_52_method_21_code 44 = .ok (.iload 4, 2) := by decide +kernel
theorem d1_46 : decode jdk_52_method_21_code 46 = .ok (.ireturn, 1) := by decide +kernel
theorem d1_10 : decode jdk_52_method_21_code 10 = .ok (.aload_n 0, 1) := by decide +kernel
theorem d1_11 : decode jdk_52_method_21_code 11 = .ok (.iload_n 1, 1) := by decide +kernel
theorem d1_12 : decode jdk_52_method_21_code 12 = .ok (.caload, 1) := by decide +kernel
theorem d1_13 : decode jdk_52_method_21_code 13 = .ok (.istore 6, 2) := by decide +kernel
theorem d1_15 : decode jdk_52_method_21_code 15 = .ok (.iload 6, 2) := by decide +kernel
theorem d1_17 : decode jdk_52_method_21_code 17 = .ok (.sipush 255, 3) := by decide +kernel
theorem d1_20 : decode jdk_52_method_21_code 20 = .ok (.if_icmp .le 6, 3) := by decide +kernel
theorem d1_26 : decode jdk_52_method_21_code 26 = .ok (.aload_n 2, 1) := by decide +kernel
theorem d1_27 : decode jdk_52_method_21_code 27 = .ok (.iload_n 3, 1) := by decide +kernel
theorem d1_28 : decode jdk_52_method_21_code 28 = .ok (.iload 6, 2) := by decide +kernel
theorem d1_30 : decode jdk_52_method_21_code 30 = .ok (.i2b, 1) := by decide +kernel
theorem d1_31 : decode jdk_52_method_21_code 31 = .ok (.bastore, 1) := by decide +kernel
theorem d1_32 : decode jdk_52_method_21_code 32 = .ok (.iinc 1 1, 3) := by decide +kernel
theorem d1_35 : decode jdk_52_method_21_code 35 = .ok (.iinc 3 1, 3) := by decide +kernel
theorem d1_38 : decode jdk_52_method_21_code 38 = .ok (.iinc 5 1, 3) := by decide +kernel
theorem d1_41 : decode jdk_52_method_21_code 41 = .ok (.goto (-38), 3) := by decide +kernel
theorem d1_23 : decode jdk_52_method_21_code 23 = .ok (.iload 5, 2) := by decide +kernel
theorem d1_25 : decode jdk_52_method_21_code 25 = .ok (.ireturn, 1) := by decide +kernel
theorem d2_0 : decode jdk_52_method_3_code 0 = .ok (.iload_n 0, 1) := by decide +kernel
theorem d2_1 : decode jdk_52_method_3_code 1 = .ok (.ifCond .ge 11, 3) := by decide +kernel
theorem d2_12 : decode jdk_52_method_3_code 12 = .ok (.iload_n 0, 1) := by decide +kernel
theorem d2_13 : decode jdk_52_method_3_code 13 = .ok (.ldc 20, 2) := by decide +kernel
theorem d2_15 : decode jdk_52_method_3_code 15 = .ok (.if_icmp .lt 40, 3) := by decide +kernel
theorem d2_55 : decode jdk_52_method_3_code 55 = .ok (.iload_n 0, 1) := by decide +kernel
theorem d2_56 : decode jdk_52_method_3_code 56 = .ok (.iconst 1, 1) := by decide +kernel
theorem d2_57 : decode jdk_52_method_3_code 57 = .ok (.ishl, 1) := by decide +kernel
theorem d2_58 : decode jdk_52_method_3_code 58 = .ok (.ireturn, 1) := by decide +kernel
theorem d3_0 : decode jdk_52_method_2_code 0 = .ok (.iload_n 0, 1) := by decide +kernel
theorem d3_1 : decode jdk_52_method_2_code 1 = .ok (.invokestatic 11, 3) := by decide +kernel
theorem pd__28_I_29_I : parseMethodDescriptor "(I)I" = some ⟨[.int], some .int⟩ := by decide +kernel
theorem d3_4 : decode jdk_52_method_2_code 4 = .ok (.newarray .byte, 2) := by decide +kernel
theorem d3_6 : decode jdk_52_method_2_code 6 = .ok (.areturn, 1) := by decide +kernel
theorem d4_0 : decode jdk_52_method_4_code 0 = .ok (.getstatic 44, 3) := by decide +kernel
theorem d4_3 : decode jdk_52_method_4_code 3 = .ok (.ifCond .ne 25, 3) := by decide +kernel
theorem d4_28 : decode jdk_52_method_4_code 28 = .ok (.iload_n 1, 1) := by decide +kernel
theorem d4_29 : decode jdk_52_method_4_code 29 = .ok (.iconst 1, 1) := by decide +kernel
theorem d4_30 : decode jdk_52_method_4_code 30 = .ok (.ishl, 1) := by decide +kernel
theorem d4_31 : decode jdk_52_method_4_code 31 = .ok (.istore_n 1, 1) := by decide +kernel
theorem d4_32 : decode jdk_52_method_4_code 32 = .ok (.aload_n 0, 1) := by decide +kernel
theorem d4_33 : decode jdk_52_method_4_code 33 = .ok (.iload_n 1, 1) := by decide +kernel
theorem d4_34 : decode jdk_52_method_4_code 34 = .ok (.iinc 1 1, 3) := by decide +kernel
theorem d4_37 : decode jdk_52_method_4_code 37 = .ok (.iload_n 2, 1) := by decide +kernel
theorem d4_38 : decode jdk_52_method_4_code 38 = .ok (.getstatic 59, 3) := by decide +kernel
theorem d4_41 : decode jdk_52_method_4_code 41 = .ok (.ishr, 1) := by decide +kernel
theorem d4_42 : decode jdk_52_method_4_code 42 = .ok (.i2b, 1) := by decide +kernel
theorem d4_43 : decode jdk_52_method_4_code 43 = .ok (.bastore, 1) := by decide +kernel
theorem d4_44 : decode jdk_52_method_4_code 44 = .ok (.aload_n 0, 1) := by decide +kernel
theorem d4_45 : decode jdk_52_method_4_code 45 = .ok (.iload_n 1, 1) := by decide +kernel
theorem d4_46 : decode jdk_52_method_4_code 46 = .ok (.iload_n 2, 1) := by decide +kernel
theorem d4_47 : decode jdk_52_method_4_code 47 = .ok (.getstatic 63, 3) := by decide +kernel
theorem d4_50 : decode jdk_52_method_4_code 50 = .ok (.ishr, 1) := by decide +kernel
theorem d4_51 : decode jdk_52_method_4_code 51 = .ok (.i2b, 1) := by decide +kernel
theorem d4_52 : decode jdk_52_method_4_code 52 = .ok (.bastore, 1) := by decide +kernel
theorem d4_53 : decode jdk_52_method_4_code 53 = .ok (.return_, 1) := by decide +kernel
theorem d5_0 : decode jdk_52_method_5_code 0 = .ok (.getstatic 44, 3) := by decide +kernel
theorem d5_3 : decode jdk_52_method_5_code 3 = .ok (.ifCond .ne 25, 3) := by decide +kernel
theorem d5_28 : decode jdk_52_method_5_code 28 = .ok (.iload_n 1, 1) := by decide +kernel
theorem d5_29 : decode jdk_52_method_5_code 29 = .ok (.iconst 1, 1) := by decide +kernel
theorem d5_30 : decode jdk_52_method_5_code 30 = .ok (.ishl, 1) := by decide +kernel
theorem d5_31 : decode jdk_52_method_5_code 31 = .ok (.istore_n 1, 1) := by decide +kernel
theorem d5_32 : decode jdk_52_method_5_code 32 = .ok (.aload_n 0, 1) := by decide +kernel
theorem d5_33 : decode jdk_52_method_5_code 33 = .ok (.iload_n 1, 1) := by decide +kernel
theorem d5_34 : decode jdk_52_method_5_code 34 = .ok (.iinc 1 1, 3) := by decide +kernel
theorem d5_37 : decode jdk_52_method_5_code 37 = .ok (.baload, 1) := by decide +kernel
theorem d5_38 : decode jdk_52_method_5_code 38 = .ok (.sipush 255, 3) := by decide +kernel
theorem d5_41 : decode jdk_52_method_5_code 41 = .ok (.iand, 1) := by decide +kernel
theorem d5_42 : decode jdk_52_method_5_code 42 = .ok (.getstatic 59, 3) := by decide +kernel
theorem d5_45 : decode jdk_52_method_5_code 45 = .ok (.ishl, 1) := by decide +kernel
theorem d5_46 : decode jdk_52_method_5_code 46 = .ok (.aload_n 0, 1) := by decide +kernel
theorem d5_47 : decode jdk_52_method_5_code 47 = .ok (.iload_n 1, 1) := by decide +kernel
theorem d5_48 : decode jdk_52_method_5_code 48 = .ok (.baload, 1) := by decide +kernel
theorem d5_49 : decode jdk_52_method_5_code 49 = .ok (.sipush 255, 3) := by decide +kernel
theorem d5_52 : decode jdk_52_method_5_code 52 = .ok (.iand, 1) := by decide +kernel
theorem d5_53 : decode jdk_52_method_5_code 53 = .ok (.getstatic 63, 3) := by decide +kernel
theorem d5_56 : decode jdk_52_method_5_code 56 = .ok (.ishl, 1) := by decide +kernel
theorem d5_57 : decode jdk_52_method_5_code 57 = .ok (.ior, 1) := by decide +kernel
theorem d5_58 : decode jdk_52_method_5_code 58 = .ok (.i2c, 1) := by decide +kernel
theorem d5_59 : decode jdk_52_method_5_code 59 = .ok (.ireturn, 1) := by decide +kernel
theorem d6_0 : decode jdk_52_method_14_code 0 = .ok (.iload_n 2, 1) := by decide +kernel
theorem d6_1 : decode jdk_52_method_14_code 1 = .ok (.invokestatic 107, 3) := by decide +kernel
theorem pd__28_I_29__5b_B : parseMethodDescriptor "(I)[B" = some ⟨[.int], some (.array .byte)⟩ := by decide +kernel
theorem d6_4 : decode jdk_52_method_14_code 4 = .ok (.astore_n 3, 1) := by decide +kernel
theorem d6_5 : decode jdk_52_method_14_code 5 = .ok (.iconst 0, 1) := by decide +kernel
theorem d6_6 : decode jdk_52_method_14_code 6 = .ok (.istore 4, 2) := by decide +kernel
theorem d6_8 : decode jdk_52_method_14_code 8 = .ok (.iload 4, 2) := by decide +kernel
theorem d6_10 : decode jdk_52_method_14_code 10 = .ok (.iload_n 2, 1) := by decide +kernel
theorem d6_11 : decode jdk_52_method_14_code 11 = .ok (.if_icmp .ge 21, 3) := by decide +kernel
theorem d6_32 : decode jdk_52_method_14_code 32 = .ok (.aload_n 3, 1) := by decide +kernel
theorem d6_33 : decode jdk_52_method_14_code 33 = .ok (.areturn, 1) := by decide +kernel
theorem d6_14 : decode jdk_52_method_14_code 14 = .ok (.aload_n 3, 1) := by decide +kernel
theorem d6_15 : decode jdk_52_method_14_code 15 = .ok (.iload 4, 2) := by decide +kernel
theorem d6_17 : decode jdk_52_method_14_code 17 = .ok (.aload_n 0, 1) := by decide +kernel
theorem d6_18 : decode jdk_52_method_14_code 18 = .ok (.iload_n 1, 1) := by decide +kernel
theorem d6_19 : decode jdk_52_method_14_code 19 = .ok (.caload, 1) := by decide +kernel
theorem pd__28__5b_BII_29_V : parseMethodDescriptor "([BII)V" = some ⟨[(.array .byte), .int, .int], none⟩ := by decide +kernel
theorem d6_20 : decode jdk_52_method_14_code 20 = .ok (.invokestatic 111, 3) := by decide +kernel
theorem d6_23 : decode jdk_52_method_14_code 23 = .ok (.iinc 1 1, 3) := by decide +kernel
theorem d6_26 : decode jdk_52_method_14_code 26 = .ok (.iinc 4 1, 3) := by decide +kernel
theorem d6_29 : decode jdk_52_method_14_code 29 = .ok (.goto (-21), 3) := by decide +kernel
theorem d7_0 : decode jdk_52_method_16_code 0 = .ok (.iload_n 2, 1) := by decide +kernel
theorem d7_1 : decode jdk_52_method_16_code 1 = .ok (.newarray .byte, 2) := by decide +kernel
theorem d7_3 : decode jdk_52_method_16_code 3 = .ok (.astore_n 3, 1) := by decide +kernel
theorem d7_4 : decode jdk_52_method_16_code 4 = .ok (.aload_n 0, 1) := by decide +kernel
theorem d7_5 : decode jdk_52_method_16_code 5 = .ok (.iload_n 1, 1) := by decide +kernel
theorem d7_6 : decode jdk_52_method_16_code 6 = .ok (.aload_n 3, 1) := by decide +kernel
theorem d7_7 : decode jdk_52_method_16_code 7 = .ok (.iconst 0, 1) := by decide +kernel
theorem d7_8 : decode jdk_52_method_16_code 8 = .ok (.iload_n 2, 1) := by decide +kernel
theorem d7_9 : decode jdk_52_method_16_code 9 = .ok (.invokestatic 115, 3) := by decide +kernel
theorem pd__28__5b_CI_5b_BII_29_I : parseMethodDescriptor "([CI[BII)I" = some ⟨[(.array .char), .int, (.array .byte), .int, .int], some .int⟩ := by decide +kernel
theorem d7_12 : decode jdk_52_method_16_code 12 = .ok (.istore 4, 2) := by decide +kernel
theorem d7_14 : decode jdk_52_method_16_code 14 = .ok (.iload 4, 2) := by decide +kernel
theorem d7_16 : decode jdk_52_method_16_code 16 = .ok (.iload_n 2, 1) := by decide +kernel
theorem d7_17 : decode jdk_52_method_16_code 17 = .ok (.if_icmp .eq 40, 3) := by decide +kernel
theorem d7_57 : decode jdk_52_method_16_code 57 = .ok (.aload_n 3, 1) := by decide +kernel
theorem d7_58 : decode jdk_52_method_16_code 58 = .ok (.areturn, 1) := by decide +kernel
theorem d7_20 : decode jdk_52_method_16_code 20 = .ok (.aload_n 0, 1) := by decide +kernel
theorem d7_21 : decode jdk_52_method_16_code 21 = .ok (.iload_n 1, 1) := by decide +kernel
theorem d7_22 : decode jdk_52_method_16_code 22 = .ok (.iload_n 2, 1) := by decide +kernel
theorem d7_23 : decode jdk_52_method_16_code 23 = .ok (.invokestatic 119, 3) := by decide +kernel
theorem pd__28__5b_CII_29__5b_B : parseMethodDescriptor "([CII)[B" = some ⟨[(.array .char), .int, .int], some (.array .byte)⟩ := by decide +kernel
theorem d7_26 : decode jdk_52_method_16_code 26 = .ok (.astore 5, 2) := by decide +kernel
theorem d7_28 : decode jdk_52_method_16_code 28 = .ok (.aload 5, 2) := by decide +kernel
theorem d7_30 : decode jdk_52_method_16_code 30 = .ok (.iload 4, 2) := by decide +kernel
theorem d7_32 : decode jdk_52_method_16_code 32 = .ok (.invokestatic 71, 3) := by decide +kernel
theorem pd__28__5b_BI_29_C : parseMethodDescriptor "([BI)C" = some ⟨[(.array .byte), .int], some .char⟩ := by decide +kernel
theorem d7_35 : decode jdk_52_method_16_code 35 = .ok (.sipush 255, 3) := by decide +kernel
theorem d7_38 : decode jdk_52_method_16_code 38 = .ok (.if_icmp .gt 16, 3) := by decide +kernel
theorem d7_54 : decode jdk_52_method_16_code 54 = .ok (.aload 5, 2) := by decide +kernel
theorem d7_56 : decode jdk_52_method_16_code 56 = .ok (.areturn, 1) := by decide +kernel
theorem d8_0 : decode jdk_42_method_149_code 0 = .ok (.aload_n 0, 1) := by decide +kernel
theorem d8_1 : decode jdk_42_method_149_code 1 = .ok (.invokespecial 1, 3) := by decide +kernel
theorem d8_4 : decode jdk_42_method_149_code 4 = .ok (.iload_n 3, 1) := by decide +kernel
theorem d8_5 : decode jdk_42_method_149_code 5 = .ok (.ifCond .ne 22, 3) := by decide +kernel
theorem d8_27 : decode jdk_42_method_149_code 27 = .ok (.getstatic 38, 3) := by decide +kernel
theorem d8_30 : decode jdk_42_method_149_code 30 = .ok (.ifCond .eq 28, 3) := by decide +kernel
theorem d8_33 : decode jdk_42_method_149_code 33 = .ok (.aload_n 1, 1) := by decide +kernel
theorem d8_34 : decode jdk_42_method_149_code 34 = .ok (.iload_n 2, 1) := by decide +kernel
theorem d8_35 : decode jdk_42_method_149_code 35 = .ok (.iload_n 3, 1) := by decide +kernel
theorem d8_36 : decode jdk_42_method_149_code 36 = .ok (.invokestatic 177, 3) := by decide +kernel
theorem d8_39 : decode jdk_42_method_149_code 39 = .ok (.astore 5, 2) := by decide +kernel
theorem d8_41 : decode jdk_42_method_149_code 41 = .ok (.aload_n 0, 1) := by decide +kernel
theorem d8_42 : decode jdk_42_method_149_code 42 = .ok (.aload 5, 2) := by decide +kernel
theorem d8_44 : decode jdk_42_method_149_code 44 = .ok (.iload_n 3, 1) := by decide +kernel
theorem d8_45 : decode jdk_42_method_149_code 45 = .ok (.invokestatic 47, 3) := by decide +kernel
theorem pd__28__5b_BI_29_B : parseMethodDescriptor "([BI)B" = some ⟨[(.array .byte), .int], some .byte⟩ := by decide +kernel
theorem d8_48 : decode jdk_42_method_149_code 48 = .ok (.putfield 15, 3) := by decide +kernel
theorem d8_51 : decode jdk_42_method_149_code 51 = .ok (.aload_n 0, 1) := by decide +kernel
theorem d8_52 : decode jdk_42_method_149_code 52 = .ok (.aload 5, 2) := by decide +kernel
theorem d8_54 : decode jdk_42_method_149_code 54 = .ok (.putfield 9, 3) := by decide +kernel
theorem d8_57 : decode jdk_42_method_149_code 57 = .ok (.return_, 1) := by decide +kernel
theorem d8_8 : decode jdk_42_method_149_code 8 = .ok (.aload_n 0, 1) := by decide +kernel
theorem d8_9 : decode jdk_42_method_149_code 9 = .ok (.ldc 7, 2) := by decide +kernel
theorem d8_11 : decode jdk_42_method_149_code 11 = .ok (.getfield 9, 3) := by decide +kernel
theorem d8_14 : decode jdk_42_method_149_code 14 = .ok (.putfield 9, 3) := by decide +kernel
theorem d8_17 : decode jdk_42_method_149_code 17 = .ok (.aload_n 0, 1) := by decide +kernel
theorem d8_18 : decode jdk_42_method_149_code 18 = .ok (.ldc 7, 2) := by decide +kernel
theorem d8_20 : decode jdk_42_method_149_code 20 = .ok (.getfield 15, 3) := by decide +kernel
theorem d8_23 : decode jdk_42_method_149_code 23 = .ok (.putfield 15, 3) := by decide +kernel
theorem d8_26 : decode jdk_42_method_149_code 26 = .ok (.return_, 1) := by decide +kernel
theorem pn_java_lang_String : plainName "java/lang/String" = true := by first | (simp [plainName, overriddenIn]; done) | decide +kernel
theorem d9_0 : decode jdk_42_method_3_code 0 = .ok (.aload_n 0, 1) := by decide +kernel
theorem d9_1 : decode jdk_42_method_3_code 1 = .ok (.aload_n 1, 1) := by decide +kernel
theorem d9_2 : decode jdk_42_method_3_code 2 = .ok (.iconst 0, 1) := by decide +kernel
theorem d9_3 : decode jdk_42_method_3_code 3 = .ok (.aload_n 1, 1) := by decide +kernel
theorem d9_4 : decode jdk_42_method_3_code 4 = .ok (.arraylength, 1) := by decide +kernel
theorem d9_5 : decode jdk_42_method_3_code 5 = .ok (.aconst_null, 1) := by decide +kernel
theorem d9_6 : decode jdk_42_method_3_code 6 = .ok (.invokespecial 27, 3) := by decide +kernel
theorem pd__28__5b_CIILjava_2f_lang_2f_Void_3b__29_V : parseMethodDescriptor "([CIILjava/lang/Void;)V" = some ⟨[(.array .char), .int, .int, (.object "java/lang/Void")], none⟩ := by decide +kernel
theorem d9_9 : decode jdk_42_method_3_code 9 = .ok (.return_, 1) := by decide +kernel
theorem d10_0 : decode jdk_42_method_152_code 0 = .ok (.getstatic 38, 3) := by decide +kernel
theorem d10_3 : decode jdk_42_method_152_code 3 = .ok (.ifCond .eq 10, 3) := by decide +kernel
theorem d10_6 : decode jdk_42_method_152_code 6 = .ok (.aload_n 0, 1) := by decide +kernel
theorem d10_7 : decode jdk_42_method_152_code 7 = .ok (.getfield 15, 3) := by decide +kernel
theorem d10_10 : decode jdk_42_method_152_code 10 = .ok (.goto 4, 3) := by decide +kernel
theorem d10_14 : decode jdk_42_method_152_code 14 = .ok (.ireturn, 1) := by decide +kernel
theorem d11_0 : decode jdk_42_method_54_code 0 = .ok (.aload_n 0, 1) := by decide +kernel
theorem d11_1 : decode jdk_42_method_54_code 1 = .ok (.getfield 9, 3) := by decide +kernel
theorem d11_4 : decode jdk_42_method_54_code 4 = .ok (.arraylength, 1) := by decide +kernel
theorem d11_5 : decode jdk_42_method_54_code 5 = .ok (.aload_n 0, 1) := by decide +kernel
theorem d11_6 : decode jdk_42_method_54_code 6 = .ok (.invokevirtual 335, 3) := by decide +kernel
theorem pd__28__29_B : parseMethodDescriptor "()B" = some ⟨[], some .byte⟩ := by decide +kernel
theorem d11_9 : decode jdk_42_method_54_code 9 = .ok (.ishr, 1) := by decide +kernel
theorem d11_10 : decode jdk_42_method_54_code 10 = .ok (.ireturn, 1) := by decide +kernel
theorem d12_0 : decode jdk_42_method_154_code 0 = .ok (.getstatic 38, 3) := by decide +kernel
theorem d12_3 : decode jdk_42_method_154_code 3 = .ok (.ifCond .eq 14, 3) := by decide +kernel
theorem d12_6 : decode jdk_42_method_154_code 6 = .ok (.aload_n 0, 1) := by decide +kernel
theorem d12_7 : decode jdk_42_method_154_code 7 = .ok (.getfield 15, 3) := by decide +kernel
theorem d12_10 : decode jdk_42_method_154_code 10 = .ok (.ifCond .ne 7, 3) := by decide +kernel
theorem d12_17 : decode jdk_42_method_154_code 17 = .ok (.iconst 0, 1) := by decide +kernel
theorem d12_18 : decode jdk_42_method_154_code 18 = .ok (.ireturn, 1) := by decide +kernel
theorem d12_13 : decode jdk_42_method_154_code 13 = .ok (.iconst 1, 1) := by decide +kernel
theorem d12_14 : decode jdk_42_method_154_code 14 = .ok (.goto 4, 3) := by decide +kernel
theorem d13_0 : decode jdk_41_method_11_code 0 = .ok (.iload_n 0, 1) := by decide +kernel
theorem d13_1 : decode jdk_41_method_11_code 1 = .ok (.ifCond .lt 8, 3) := by decide +kernel
theorem d13_4 : decode jdk_41_method_11_code 4 = .ok (.iload_n 0, 1) := by decide +kernel
theorem d13_5 : decode jdk_41_method_11_code 5 = .ok (.iload_n 1, 1) := by decide +kernel
theorem d13_6 : decode jdk_41_method_11_code 6 = .ok (.if_icmp .lt 10, 3) := by decide +kernel
theorem d13_16 : decode jdk_41_method_11_code 16 = .ok (.iload_n 0, 1) := by decide +kernel
theorem d13_17 : decode jdk_41_method_11_code 17 = .ok (.ireturn, 1) := by decide +kernel
theorem pn_jdk_internal_util_Preconditions : plainName "jdk/internal/util/Preconditions" = true := by first | (simp [plainName, overriddenIn]; done) | decide +kernel
theorem d14_0 : decode jdk_42_method_155_code 0 = .ok (.iload_n 0, 1) := by decide +kernel
theorem d14_1 : decode jdk_42_method_155_code 1 = .ok (.iload_n 1, 1) := by decide +kernel
theorem d14_2 : decode jdk_42_method_155_code 2 = .ok (.getstatic 1053, 3) := by decide +kernel
theorem pd__28_IILjava_2f_util_2f_function_2f_BiFunction_3b__29_I : parseMethodDescriptor "(IILjava/util/function/BiFunction;)I" = some ⟨[.int, .int, (.object "java/util/function/BiFunction")], some .int⟩ := by decide +kernel
theorem d14_5 : decode jdk_42_method_155_code 5 = .ok (.invokestatic 1059, 3) := by decide +kernel
theorem d14_8 : decode jdk_42_method_155_code 8 = .ok (.pop, 1) := by decide +kernel
theorem d14_9 : decode jdk_42_method_155_code 9 = .ok (.return_, 1) := by decide +kernel
theorem d15_0 : decode jdk_43_method_2_code 0 = .ok (.iload_n 1, 1) := by decide +kernel
theorem d15_1 : decode jdk_43_method_2_code 1 = .ok (.aload_n 0, 1) := by decide +kernel
theorem d15_2 : decode jdk_43_method_2_code 2 = .ok (.arraylength, 1) := by decide +kernel
theorem pd__28_II_29_V : parseMethodDescriptor "(II)V" = some ⟨[.int, .int], none⟩ := by decide +kernel
theorem d15_3 : decode jdk_43_method_2_code 3 = .ok (.invokestatic 9, 3) := by decide +kernel
theorem d15_6 : decode jdk_43_method_2_code 6 = .ok (.aload_n 0, 1) := by decide +kernel
theorem d15_7 : decode jdk_43_method_2_code 7 = .ok (.iload_n 1, 1) := by decide +kernel
theorem d15_8 : decode jdk_43_method_2_code 8 = .ok (.baload, 1) := by decide +kernel
theorem d15_9 : decode jdk_43_method_2_code 9 = .ok (.sipush 255, 3) := by decide +kernel
theorem d15_12 : decode jdk_43_method_2_code 12 = .ok (.iand, 1) := by decide +kernel
theorem d15_13 : decode jdk_43_method_2_code 13 = .ok (.i2c, 1) := by decide +kernel
theorem d15_14 : decode jdk_43_method_2_code 14 = .ok (.ireturn, 1) := by decide +kernel
theorem pn_java_lang_StringLatin1 : plainName "java/lang/StringLatin1" = true := by first | (simp [plainName, overriddenIn]; done) | decide +kernel
theorem d16_0 : decode jdk_52_method_6_code 0 = .ok (.aload_n 0, 1) := by decide +kernel
theorem d16_1 : decode jdk_52_method_6_code 1 = .ok (.arraylength, 1) := by decide +kernel
theorem d16_2 : decode jdk_52_method_6_code 2 = .ok (.iconst 1, 1) := by decide +kernel
theorem d16_3 : decode jdk_52_method_6_code 3 = .ok (.ishr, 1) := by decide +kernel
theorem d16_4 : decode jdk_52_method_6_code 4 = .ok (.ireturn, 1) := by decide +kernel
theorem d17_0 : decode jdk_52_method_91_code 0 = .ok (.iload_n 0, 1) := by decide +kernel
theorem d17_1 : decode jdk_52_method_91_code 1 = .ok (.aload_n 1, 1) := by decide +kernel
theorem d17_2 : decode jdk_52_method_91_code 2 = .ok (.invokestatic 48, 3) := by decide +kernel
theorem pd__28__5b_B_29_I : parseMethodDescriptor "([B)I" = some ⟨[(.array .byte)], some .int⟩ := by decide +kernel
theorem d17_5 : decode jdk_52_method_91_code 5 = .ok (.invokestatic 414, 3) := by decide +kernel
theorem d17_8 : decode jdk_52_method_91_code 8 = .ok (.return_, 1) := by decide +kernel
theorem d18_0 : decode jdk_52_method_83_code 0 = .ok (.iload_n 1, 1) := by decide +kernel
theorem d18_1 : decode jdk_52_method_83_code 1 = .ok (.aload_n 0, 1) := by decide +kernel
theorem d18_2 : decode jdk_52_method_83_code 2 = .ok (.invokestatic 67, 3) := by decide +kernel
theorem pd__28_I_5b_B_29_V : parseMethodDescriptor "(I[B)V" = some ⟨[.int, (.array .byte)], none⟩ := by decide +kernel
theorem d18_5 : decode jdk_52_method_83_code 5 = .ok (.aload_n 0, 1) := by decide +kernel
theorem d18_6 : decode jdk_52_method_83_code 6 = .ok (.iload_n 1, 1) := by decide +kernel
theorem d18_7 : decode jdk_52_method_83_code 7 = .ok (.invokestatic 71, 3) := by decide +kernel
theorem d18_10 : decode jdk_52_method_83_code 10 = .ok (.ireturn, 1) := by decide +kernel
theorem d19_0 : decode jdk_42_method_56_code 0 = .ok (.aload_n 0, 1) := by decide +kernel
theorem d19_1 : decode jdk_42_method_56_code 1 = .ok (.invokevirtual 492, 3) := by decide +kernel
theorem pd__28__29_Z : parseMethodDescriptor "()Z" = some ⟨[], some .boolean⟩ := by decide +kernel
theorem d19_4 : decode jdk_42_method_56_code 4 = .ok (.ifCond .eq 12, 3) := by decide +kernel
theorem d19_16 : decode jdk_42_method_56_code 16 = .ok (.aload_n 0, 1) := by decide +kernel
theorem d19_17 : decode jdk_42_method_56_code 17 = .ok (.getfield 9, 3) := by decide +kernel
theorem d19_20 : decode jdk_42_method_56_code 20 = .ok (.iload_n 1, 1) := by decide +kernel
theorem d19_21 : decode jdk_42_method_56_code 21 = .ok (.invokestatic 498, 3) := by decide +kernel
theorem d19_24 : decode jdk_42_method_56_code 24 = .ok (.ireturn, 1) := by decide +kernel
theorem d19_7 : decode jdk_42_method_56_code 7 = .ok (.aload_n 0, 1) := by decide +kernel
theorem d19_8 : decode jdk_42_method_56_code 8 = .ok (.getfield 9, 3) := by decide +kernel
theorem d19_11 : decode jdk_42_method_56_code 11 = .ok (.iload_n 1, 1) := by decide +kernel
theorem d19_12 : decode jdk_42_method_56_code 12 = .ok (.invokestatic 495, 3) := by decide +kernel
theorem d19_15 : decode jdk_42_method_56_code 15 = .ok (.ireturn, 1) := by decide +kernel
theorem d20_0 : decode method_3_code 0 = .ok (.iload_n 0, 1) := by decide +kernel
theorem d20_1 : decode method_3_code 1 = .ok (.bipush 48, 2) := by decide +kernel
theorem d20_3 : decode method_3_code 3 = .ok (.if_icmp .lt 9, 3) := by decide +kernel
theorem d20_12 : decode method_3_code 12 = .ok (.iload_n 0, 1) := by decide +kernel
theorem d20_13 : decode method_3_code 13 = .ok (.bipush 97, 2) := by decide +kernel
theorem d20_15 : decode method_3_code 15 = .ok (.if_icmp .lt 13, 3) := by decide +kernel
theorem d20_28 : decode method_3_code 28 = .ok (.iconst 0, 1) := by decide +kernel
theorem d20_29 : decode method_3_code 29 = .ok (.ireturn, 1) := by decide +kernel
theorem d20_18 : decode method_3_code 18 = .ok (.iload_n 0, 1) := by decide +kernel
theorem d20_19 : decode method_3_code 19 = .ok (.bipush 102, 2) := by decide +kernel
theorem d20_21 : decode method_3_code 21 = .ok (.if_icmp .gt 7, 3) := by decide +kernel
theorem d20_24 : decode method_3_code 24 = .ok (.iconst 1, 1) := by decide +kernel
theorem d20_25 : decode method_3_code 25 = .ok (.goto 4, 3) := by decide +kernel
theorem d20_6 : decode method_3_code 6 = .ok (.iload_n 0, 1) := by decide +kernel
theorem d20_7 : decode method_3_code 7 = .ok (.bipush 57, 2) := by decide +kernel
theorem d20_9 : decode method_3_code 9 = .ok (.if_icmp .le 15, 3) := by decide +kernel
theorem pn_com_example_halysis_halysis_LogRecordIsHashPinLaw : plainName "com/example/halysis/halysis/LogRecordIsHashPinLaw" = true := by first | (simp [plainName, overriddenIn]; done) | decide +kernel
theorem d21_0 : decode method_4_code 0 = .ok (.bipush 63, 2) := by decide +kernel
theorem d21_2 : decode method_4_code 2 = .ok (.newarray .char, 2) := by decide +kernel
theorem d21_4 : decode method_4_code 4 = .ok (.dup, 1) := by decide +kernel
theorem d21_5 : decode method_4_code 5 = .ok (.iconst 0, 1) := by decide +kernel
theorem d21_6 : decode method_4_code 6 = .ok (.iload_n 0, 1) := by decide +kernel
theorem d21_7 : decode method_4_code 7 = .ok (.castore, 1) := by decide +kernel
theorem d21_8 : decode method_4_code 8 = .ok (.dup, 1) := by decide +kernel
theorem d21_9 : decode method_4_code 9 = .ok (.iconst 1, 1) := by decide +kernel
theorem d21_10 : decode method_4_code 10 = .ok (.iload_n 0, 1) := by decide +kernel
theorem d21_11 : decode method_4_code 11 = .ok (.castore, 1) := by decide +kernel
theorem d21_12 : decode method_4_code 12 = .ok (.dup, 1) := by decide +kernel
theorem d21_13 : decode method_4_code 13 = .ok (.iconst 2, 1) := by decide +kernel
theorem d21_14 : decode method_4_code 14 = .ok (.iload_n 0, 1) := by decide +kernel
theorem d21_15 : decode method_4_code 15 = .ok (.castore, 1) := by decide +kernel
theorem d21_16 : decode method_4_code 16 = .ok (.dup, 1) := by decide +kernel
theorem d21_17 : decode method_4_code 17 = .ok (.iconst 3, 1) := by decide +kernel
theorem d21_18 : decode method_4_code 18 = .ok (.iload_n 0, 1) := by decide +kernel
theorem d21_19 : decode method_4_code 19 = .ok (.castore, 1) := by decide +kernel
theorem d21_20 : decode method_4_code 20 = .ok (.dup, 1) := by decide +kernel
theorem d21_21 : decode method_4_code 21 = .ok (.iconst 4, 1) := by decide +kernel
theorem d21_22 : decode method_4_code 22 = .ok (.iload_n 0, 1) := by decide +kernel
theorem d21_23 : decode method_4_code 23 = .ok (.castore, 1) := by decide +kernel
theorem d21_24 : decode method_4_code 24 = .ok (.dup, 1) := by decide +kernel
theorem d21_25 : decode method_4_code 25 = .ok (.iconst 5, 1) := by decide +kernel
theorem d21_26 : decode method_4_code 26 = .ok (.iload_n 0, 1) := by decide +kernel
theorem d21_27 : decode method_4_code 27 = .ok (.castore, 1) := by decide +kernel
theorem d21_28 : decode method_4_code 28 = .ok (.dup, 1) := by decide +kernel
theorem d21_29 : decode method_4_code 29 = .ok (.bipush 6, 2) := by decide +kernel
theorem d21_31 : decode method_4_code 31 = .ok (.iload_n 0, 1) := by decide +kernel
theorem d21_32 : decode method_4_code 32 = .ok (.castore, 1) := by decide +kernel
theorem d21_33 : decode method_4_code 33 = .ok (.dup, 1) := by decide +kernel
theorem d21_34 : decode method_4_code 34 = .ok (.bipush 7, 2) := by decide +kernel
theorem d21_36 : decode method_4_code 36 = .ok (.iload_n 0, 1) := by decide +kernel
theorem d21_37 : decode method_4_code 37 = .ok (.castore, 1) := by decide +kernel
theorem d21_38 : decode method_4_code 38 = .ok (.dup, 1) := by decide +kernel
theorem d21_39 : decode method_4_code 39 = .ok (.bipush 8, 2) := by decide +kernel
theorem d21_41 : decode method_4_code 41 = .ok (.iload_n 0, 1) := by decide +kernel
theorem d21_42 : decode method_4_code 42 = .ok (.castore, 1) := by decide +kernel
theorem d21_43 : decode method_4_code 43 = .ok (.dup, 1) := by decide +kernel
theorem d21_44 : decode method_4_code 44 = .ok (.bipush 9, 2) := by decide +kernel
theorem d21_46 : decode method_4_code 46 = .ok (.iload_n 0, 1) := by decide +kernel
theorem d21_47 : decode method_4_code 47 = .ok (.castore, 1) := by decide +kernel
theorem d21_48 : decode method_4_code 48 = .ok (.dup, 1) := by decide +kernel
theorem d21_49 : decode method_4_code 49 = .ok (.bipush 10, 2) := by decide +kernel
theorem d21_51 : decode method_4_code 51 = .ok (.iload_n 0, 1) := by decide +kernel
theorem d21_52 : decode method_4_code 52 = .ok (.castore, 1) := by decide +kernel
theorem d21_53 : decode method_4_code 53 = .ok (.dup, 1) := by decide +kernel
theorem d21_54 : decode method_4_code 54 = .ok (.bipush 11, 2) := by decide +kernel
theorem d21_56 : decode method_4_code 56 = .ok (.iload_n 0, 1) := by decide +kernel
theorem d21_57 : decode method_4_code 57 = .ok (.castore, 1) := by decide +kernel
theorem d21_58 : decode method_4_code 58 = .ok (.dup, 1) := by decide +kernel
theorem d21_59 : decode method_4_code 59 = .ok (.bipush 12, 2) := by decide +kernel
theorem d21_61 : decode method_4_code 61 = .ok (.iload_n 0, 1) := by decide +kernel
theorem d21_62 : decode method_4_code 62 = .ok (.castore, 1) := by decide +kernel
theorem d21_63 : decode method_4_code 63 = .ok (.dup, 1) := by decide +kernel
theorem d21_64 : decode method_4_code 64 = .ok (.bipush 13, 2) := by decide +kernel
theorem d21_66 : decode method_4_code 66 = .ok (.iload_n 0, 1) := by decide +kernel
theorem d21_67 : decode method_4_code 67 = .ok (.castore, 1) := by decide +kernel
theorem d21_68 : decode method_4_code 68 = .ok (.dup, 1) := by decide +kernel
theorem d21_69 : decode method_4_code 69 = .ok (.bipush 14, 2) := by decide +kernel
theorem d21_71 : decode method_4_code 71 = .ok (.iload_n 0, 1) := by decide +kernel
theorem d21_72 : decode method_4_code 72 = .ok (.castore, 1) := by decide +kernel
theorem d21_73 : decode method_4_code 73 = .ok (.dup, 1) := by decide +kernel
theorem d21_74 : decode method_4_code 74 = .ok (.bipush 15, 2) := by decide +kernel
theorem d21_76 : decode method_4_code 76 = .ok (.iload_n 0, 1) := by decide +kernel
theorem d21_77 : decode method_4_code 77 = .ok (.castore, 1) := by decide +kernel
theorem d21_78 : decode method_4_code 78 = .ok (.dup, 1) := by decide +kernel
theorem d21_79 : decode method_4_code 79 = .ok (.bipush 16, 2) := by decide +kernel
theorem d21_81 : decode method_4_code 81 = .ok (.iload_n 0, 1) := by decide +kernel
theorem d21_82 : decode method_4_code 82 = .ok (.castore, 1) := by decide +kernel
theorem d21_83 : decode method_4_code 83 = .ok (.dup, 1) := by decide +kernel
theorem d21_84 : decode method_4_code 84 = .ok (.bipush 17, 2) := by decide +kernel
theorem d21_86 : decode method_4_code 86 = .ok (.iload_n 0, 1) := by decide +kernel
theorem d21_87 : decode method_4_code 87 = .ok (.castore, 1) := by decide +kernel
theorem d21_88 : decode method_4_code 88 = .ok (.dup, 1) := by decide +kernel
theorem d21_89 : decode method_4_code 89 = .ok (.bipush 18, 2) := by decide +kernel
theorem d21_91 : decode method_4_code 91 = .ok (.iload_n 0, 1) := by decide +kernel
theorem d21_92 : decode method_4_code 92 = .ok (.castore, 1) := by decide +kernel
theorem d21_93 : decode method_4_code 93 = .ok (.dup, 1) := by decide +kernel
theorem d21_94 : decode method_4_code 94 = .ok (.bipush 19, 2) := by decide +kernel
theorem d21_96 : decode method_4_code 96 = .ok (.iload_n 0, 1) := by decide +kernel
theorem d21_97 : decode method_4_code 97 = .ok (.castore, 1) := by decide +kernel
theorem d21_98 : decode method_4_code 98 = .ok (.dup, 1) := by decide +kernel
theorem d21_99 : decode method_4_code 99 = .ok (.bipush 20, 2) := by decide +kernel
theorem d21_101 : decode method_4_code 101 = .ok (.iload_n 0, 1) := by decide +kernel
theorem d21_102 : decode method_4_code 102 = .ok (.castore, 1) := by decide +kernel
theorem d21_103 : decode method_4_code 103 = .ok (.dup, 1) := by decide +kernel
theorem d21_104 : decode method_4_code 104 = .ok (.bipush 21, 2) := by decide +kernel
theorem d21_106 : decode method_4_code 106 = .ok (.iload_n 0, 1) := by decide +kernel
theorem d21_107 : decode method_4_code 107 = .ok (.castore, 1) := by decide +kernel
theorem d21_108 : decode method_4_code 108 = .ok (.dup, 1) := by decide +kernel
theorem d21_109 : decode method_4_code 109 = .ok (.bipush 22, 2) := by decide +kernel
theorem d21_111 : decode method_4_code 111 = .ok (.iload_n 0, 1) := by decide +kernel
theorem d21_112 : decode method_4_code 112 = .ok (.castore, 1) := by decide +kernel
theorem d21_113 : decode method_4_code 113 = .ok (.dup, 1) := by decide +kernel
theorem d21_114 : decode method_4_code 114 = .ok (.bipush 23, 2) := by decide +kernel
theorem d21_116 : decode method_4_code 116 = .ok (.iload_n 0, 1) := by decide +kernel
theorem d21_117 : decode method_4_code 117 = .ok (.castore, 1) := by decide +kernel
theorem d21_118 : decode method_4_code 118 = .ok (.dup, 1) := by decide +kernel
theorem d21_119 : decode method_4_code 119 = .ok (.bipush 24, 2) := by decide +kernel
theorem d21_121 : decode method_4_code 121 = .ok (.iload_n 0, 1) := by decide +kernel
theorem d21_122 : decode method_4_code 122 = .ok (.castore, 1) := by decide +kernel
theorem d21_123 : decode method_4_code 123 = .ok (.dup, 1) := by decide +kernel
theorem d21_124 : decode method_4_code 124 = .ok (.bipush 25, 2) := by decide +kernel
theorem d21_126 : decode method_4_code 126 = .ok (.iload_n 0, 1) := by decide +kernel
theorem d21_127 : decode method_4_code 127 = .ok (.castore, 1) := by decide +kernel
theorem d21_128 : decode method_4_code 128 = .ok (.dup, 1) := by decide +kernel
theorem d21_129 : decode method_4_code 129 = .ok (.bipush 26, 2) := by decide +kernel
theorem d21_131 : decode method_4_code 131 = .ok (.iload_n 0, 1) := by decide +kernel
theorem d21_132 : decode method_4_code 132 = .ok (.castore, 1) := by decide +kernel
theorem d21_133 : decode method_4_code 133 = .ok (.dup, 1) := by decide +kernel
theorem d21_134 : decode method_4_code 134 = .ok (.bipush 27, 2) := by decide +kernel
theorem d21_136 : decode method_4_code 136 = .ok (.iload_n 0, 1) := by decide +kernel
theorem d21_137 : decode method_4_code 137 = .ok (.castore, 1) := by decide +kernel
theorem d21_138 : decode method_4_code 138 = .ok (.dup, 1) := by decide +kernel
theorem d21_139 : decode method_4_code 139 = .ok (.bipush 28, 2) := by decide +kernel
theorem d21_141 : decode method_4_code 141 = .ok (.iload_n 0, 1) := by decide +kernel
theorem d21_142 : decode method_4_code 142 = .ok (.castore, 1) := by decide +kernel
theorem d21_143 : decode method_4_code 143 = .ok (.dup, 1) := by decide +kernel
theorem d21_144 : decode method_4_code 144 = .ok (.bipush 29, 2) := by decide +kernel
theorem d21_146 : decode method_4_code 146 = .ok (.iload_n 0, 1) := by decide +kernel
theorem d21_147 : decode method_4_code 147 = .ok (.castore, 1) := by decide +kernel
theorem d21_148 : decode method_4_code 148 = .ok (.dup, 1) := by decide +kernel
theorem d21_149 : decode method_4_code 149 = .ok (.bipush 30, 2) := by decide +kernel
theorem d21_151 : decode method_4_code 151 = .ok (.iload_n 0, 1) := by decide +kernel
theorem d21_152 : decode method_4_code 152 = .ok (.castore, 1) := by decide +kernel
theorem d21_153 : decode method_4_code 153 = .ok (.dup, 1) := by decide +kernel
theorem d21_154 : decode method_4_code 154 = .ok (.bipush 31, 2) := by decide +kernel
theorem d21_156 : decode method_4_code 156 = .ok (.iload_n 0, 1) := by decide +kernel
theorem d21_157 : decode method_4_code 157 = .ok (.castore, 1) := by decide +kernel
theorem d21_158 : decode method_4_code 158 = .ok (.dup, 1) := by decide +kernel
theorem d21_159 : decode method_4_code 159 = .ok (.bipush 32, 2) := by decide +kernel
theorem d21_161 : decode method_4_code 161 = .ok (.iload_n 0, 1) := by decide +kernel
theorem d21_162 : decode method_4_code 162 = .ok (.castore, 1) := by decide +kernel
theorem d21_163 : decode method_4_code 163 = .ok (.dup, 1) := by decide +kernel
theorem d21_164 : decode method_4_code 164 = .ok (.bipush 33, 2) := by decide +kernel
theorem d21_166 : decode method_4_code 166 = .ok (.iload_n 0, 1) := by decide +kernel
theorem d21_167 : decode method_4_code 167 = .ok (.castore, 1) := by decide +kernel
theorem d21_168 : decode method_4_code 168 = .ok (.dup, 1) := by decide +kernel
theorem d21_169 : decode method_4_code 169 = .ok (.bipush 34, 2) := by decide +kernel
theorem d21_171 : decode method_4_code 171 = .ok (.iload_n 0, 1) := by decide +kernel
theorem d21_172 : decode method_4_code 172 = .ok (.castore, 1) := by decide +kernel
theorem d21_173 : decode method_4_code 173 = .ok (.dup, 1) := by decide +kernel
theorem d21_174 : decode method_4_code 174 = .ok (.bipush 35, 2) := by decide +kernel
theorem d21_176 : decode method_4_code 176 = .ok (.iload_n 0, 1) := by decide +kernel
theorem d21_177 : decode method_4_code 177 = .ok (.castore, 1) := by decide +kernel
theorem d21_178 : decode method_4_code 178 = .ok (.dup, 1) := by decide +kernel
theorem d21_179 : decode method_4_code 179 = .ok (.bipush 36, 2) := by decide +kernel
theorem d21_181 : decode method_4_code 181 = .ok (.iload_n 0, 1) := by decide +kernel
theorem d21_182 : decode method_4_code 182 = .ok (.castore, 1) := by decide +kernel
theorem d21_183 : decode method_4_code 183 = .ok (.dup, 1) := by decide +kernel
theorem d21_184 : decode method_4_code 184 = .ok (.bipush 37, 2) := by decide +kernel
theorem d21_186 : decode method_4_code 186 = .ok (.iload_n 0, 1) := by decide +kernel
theorem d21_187 : decode method_4_code 187 = .ok (.castore, 1) := by decide +kernel
theorem d21_188 : decode method_4_code 188 = .ok (.dup, 1) := by decide +kernel
theorem d21_189 : decode method_4_code 189 = .ok (.bipush 38, 2) := by decide +kernel
theorem d21_191 : decode method_4_code 191 = .ok (.iload_n 0, 1) := by decide +kernel
theorem d21_192 : decode method_4_code 192 = .ok (.castore, 1) := by decide +kernel
theorem d21_193 : decode method_4_code 193 = .ok (.dup, 1) := by decide +kernel
theorem d21_194 : decode method_4_code 194 = .ok (.bipush 39, 2) := by decide +kernel
theorem d21_196 : decode method_4_code 196 = .ok (.iload_n 0, 1) := by decide +kernel
theorem d21_197 : decode method_4_code 197 = .ok (.castore, 1) := by decide +kernel
theorem d21_198 : decode method_4_code 198 = .ok (.dup, 1) := by decide +kernel
theorem d21_199 : decode method_4_code 199 = .ok (.bipush 40, 2) := by decide +kernel
theorem d21_201 : decode method_4_code 201 = .ok (.iload_n 0, 1) := by decide +kernel
theorem d21_202 : decode method_4_code 202 = .ok (.castore, 1) := by decide +kernel
theorem d21_203 : decode method_4_code 203 = .ok (.dup, 1) := by decide +kernel
theorem d21_204 : decode method_4_code 204 = .ok (.bipush 41, 2) := by decide +kernel
theorem d21_206 : decode method_4_code 206 = .ok (.iload_n 0, 1) := by decide +kernel
theorem d21_207 : decode method_4_code 207 = .ok (.castore, 1) := by decide +kernel
theorem d21_208 : decode method_4_code 208 = .ok (.dup, 1) := by decide +kernel
theorem d21_209 : decode method_4_code 209 = .ok (.bipush 42, 2) := by decide +kernel
theorem d21_211 : decode method_4_code 211 = .ok (.iload_n 0, 1) := by decide +kernel
theorem d21_212 : decode method_4_code 212 = .ok (.castore, 1) := by decide +kernel
theorem d21_213 : decode method_4_code 213 = .ok (.dup, 1) := by decide +kernel
theorem d21_214 : decode method_4_code 214 = .ok (.bipush 43, 2) := by decide +kernel
theorem d21_216 : decode method_4_code 216 = .ok (.iload_n 0, 1) := by decide +kernel
theorem d21_217 : decode method_4_code 217 = .ok (.castore, 1) := by decide +kernel
theorem d21_218 : decode method_4_code 218 = .ok (.dup, 1) := by decide +kernel
theorem d21_219 : decode method_4_code 219 = .ok (.bipush 44, 2) := by decide +kernel
theorem d21_221 : decode method_4_code 221 = .ok (.iload_n 0, 1) := by decide +kernel
theorem d21_222 : decode method_4_code 222 = .ok (.castore, 1) := by decide +kernel
theorem d21_223 : decode method_4_code 223 = .ok (.dup, 1) := by decide +kernel
theorem d21_224 : decode method_4_code 224 = .ok (.bipush 45, 2) := by decide +kernel
theorem d21_226 : decode method_4_code 226 = .ok (.iload_n 0, 1) := by decide +kernel
theorem d21_227 : decode method_4_code 227 = .ok (.castore, 1) := by decide +kernel
theorem d21_228 : decode method_4_code 228 = .ok (.dup, 1) := by decide +kernel
theorem d21_229 : decode method_4_code 229 = .ok (.bipush 46, 2) := by decide +kernel
theorem d21_231 : decode method_4_code 231 = .ok (.iload_n 0, 1) := by decide +kernel
theorem d21_232 : decode method_4_code 232 = .ok (.castore, 1) := by decide +kernel
theorem d21_233 : decode method_4_code 233 = .ok (.dup, 1) := by decide +kernel
theorem d21_234 : decode method_4_code 234 = .ok (.bipush 47, 2) := by decide +kernel
theorem d21_236 : decode method_4_code 236 = .ok (.iload_n 0, 1) := by decide +kernel
theorem d21_237 : decode method_4_code 237 = .ok (.castore, 1) := by decide +kernel
theorem d21_238 : decode method_4_code 238 = .ok (.dup, 1) := by decide +kernel
theorem d21_239 : decode method_4_code 239 = .ok (.bipush 48, 2) := by decide +kernel
theorem d21_241 : decode method_4_code 241 = .ok (.iload_n 0, 1) := by decide +kernel
theorem d21_242 : decode method_4_code 242 = .ok (.castore, 1) := by decide +kernel
theorem d21_243 : decode method_4_code 243 = .ok (.dup, 1) := by decide +kernel
theorem d21_244 : decode method_4_code 244 = .ok (.bipush 49, 2) := by decide +kernel
theorem d21_246 : decode method_4_code 246 = .ok (.iload_n 0, 1) := by decide +kernel
theorem d21_247 : decode method_4_code 247 = .ok (.castore, 1) := by decide +kernel
theorem d21_248 : decode method_4_code 248 = .ok (.dup, 1) := by decide +kernel
theorem d21_249 : decode method_4_code 249 = .ok (.bipush 50, 2) := by decide +kernel
theorem d21_251 : decode method_4_code 251 = .ok (.iload_n 0, 1) := by decide +kernel
theorem d21_252 : decode method_4_code 252 = .ok (.castore, 1) := by decide +kernel
theorem d21_253 : decode method_4_code 253 = .ok (.dup, 1) := by decide +kernel
theorem d21_254 : decode method_4_code 254 = .ok (.bipush 51, 2) := by decide +kernel
theorem d21_256 : decode method_4_code 256 = .ok (.iload_n 0, 1) := by decide +kernel
theorem d21_257 : decode method_4_code 257 = .ok (.castore, 1) := by decide +kernel
theorem d21_258 : decode method_4_code 258 = .ok (.dup, 1) := by decide +kernel
theorem d21_259 : decode method_4_code 259 = .ok (.bipush 52, 2) := by decide +kernel
theorem d21_261 : decode method_4_code 261 = .ok (.iload_n 0, 1) := by decide +kernel
theorem d21_262 : decode method_4_code 262 = .ok (.castore, 1) := by decide +kernel
theorem d21_263 : decode method_4_code 263 = .ok (.dup, 1) := by decide +kernel
theorem d21_264 : decode method_4_code 264 = .ok (.bipush 53, 2) := by decide +kernel
theorem d21_266 : decode method_4_code 266 = .ok (.iload_n 0, 1) := by decide +kernel
theorem d21_267 : decode method_4_code 267 = .ok (.castore, 1) := by decide +kernel
theorem d21_268 : decode method_4_code 268 = .ok (.dup, 1) := by decide +kernel
theorem d21_269 : decode method_4_code 269 = .ok (.bipush 54, 2) := by decide +kernel
theorem d21_271 : decode method_4_code 271 = .ok (.iload_n 0, 1) := by decide +kernel
theorem d21_272 : decode method_4_code 272 = .ok (.castore, 1) := by decide +kernel
theorem d21_273 : decode method_4_code 273 = .ok (.dup, 1) := by decide +kernel
theorem d21_274 : decode method_4_code 274 = .ok (.bipush 55, 2) := by decide +kernel
theorem d21_276 : decode method_4_code 276 = .ok (.iload_n 0, 1) := by decide +kernel
theorem d21_277 : decode method_4_code 277 = .ok (.castore, 1) := by decide +kernel
theorem d21_278 : decode method_4_code 278 = .ok (.dup, 1) := by decide +kernel
theorem d21_279 : decode method_4_code 279 = .ok (.bipush 56, 2) := by decide +kernel
theorem d21_281 : decode method_4_code 281 = .ok (.iload_n 0, 1) := by decide +kernel
theorem d21_282 : decode method_4_code 282 = .ok (.castore, 1) := by decide +kernel
theorem d21_283 : decode method_4_code 283 = .ok (.dup, 1) := by decide +kernel
theorem d21_284 : decode method_4_code 284 = .ok (.bipush 57, 2) := by decide +kernel
theorem d21_286 : decode method_4_code 286 = .ok (.iload_n 0, 1) := by decide +kernel
theorem d21_287 : decode method_4_code 287 = .ok (.castore, 1) := by decide +kernel
theorem d21_288 : decode method_4_code 288 = .ok (.dup, 1) := by decide +kernel
theorem d21_289 : decode method_4_code 289 = .ok (.bipush 58, 2) := by decide +kernel
theorem d21_291 : decode method_4_code 291 = .ok (.iload_n 0, 1) := by decide +kernel
theorem d21_292 : decode method_4_code 292 = .ok (.castore, 1) := by decide +kernel
theorem d21_293 : decode method_4_code 293 = .ok (.dup, 1) := by decide +kernel
theorem d21_294 : decode method_4_code 294 = .ok (.bipush 59, 2) := by decide +kernel
theorem d21_296 : decode method_4_code 296 = .ok (.iload_n 0, 1) := by decide +kernel
theorem d21_297 : decode method_4_code 297 = .ok (.castore, 1) := by decide +kernel
theorem d21_298 : decode method_4_code 298 = .ok (.dup, 1) := by decide +kernel
theorem d21_299 : decode method_4_code 299 = .ok (.bipush 60, 2) := by decide +kernel
theorem d21_301 : decode method_4_code 301 = .ok (.iload_n 0, 1) := by decide +kernel
theorem d21_302 : decode method_4_code 302 = .ok (.castore, 1) := by decide +kernel
theorem d21_303 : decode method_4_code 303 = .ok (.dup, 1) := by decide +kernel
theorem d21_304 : decode method_4_code 304 = .ok (.bipush 61, 2) := by decide +kernel
theorem d21_306 : decode method_4_code 306 = .ok (.iload_n 0, 1) := by decide +kernel
theorem d21_307 : decode method_4_code 307 = .ok (.castore, 1) := by decide +kernel
theorem d21_308 : decode method_4_code 308 = .ok (.dup, 1) := by decide +kernel
theorem d21_309 : decode method_4_code 309 = .ok (.bipush 62, 2) := by decide +kernel
theorem d21_311 : decode method_4_code 311 = .ok (.iload_n 0, 1) := by decide +kernel
theorem d21_312 : decode method_4_code 312 = .ok (.castore, 1) := by decide +kernel
theorem d21_313 : decode method_4_code 313 = .ok (.areturn, 1) := by decide +kernel
theorem d22_0 : decode method_5_code 0 = .ok (.bipush 64, 2) := by decide +kernel
theorem d22_2 : decode method_5_code 2 = .ok (.newarray .char, 2) := by decide +kernel
theorem d22_4 : decode method_5_code 4 = .ok (.dup, 1) := by decide +kernel
theorem d22_5 : decode method_5_code 5 = .ok (.iconst 0, 1) := by decide +kernel
theorem d22_6 : decode method_5_code 6 = .ok (.iload_n 0, 1) := by decide +kernel
theorem d22_7 : decode method_5_code 7 = .ok (.castore, 1) := by decide +kernel
theorem d22_8 : decode method_5_code 8 = .ok (.dup, 1) := by decide +kernel
theorem d22_9 : decode method_5_code 9 = .ok (.iconst 1, 1) := by decide +kernel
theorem d22_10 : decode method_5_code 10 = .ok (.iload_n 0, 1) := by decide +kernel
theorem d22_11 : decode method_5_code 11 = .ok (.castore, 1) := by decide +kernel
theorem d22_12 : decode method_5_code 12 = .ok (.dup, 1) := by decide +kernel
theorem d22_13 : decode method_5_code 13 = .ok (.iconst 2, 1) := by decide +kernel
theorem d22_14 : decode method_5_code 14 = .ok (.iload_n 0, 1) := by decide +kernel
theorem d22_15 : decode method_5_code 15 = .ok (.castore, 1) := by decide +kernel
theorem d22_16 : decode method_5_code 16 = .ok (.dup, 1) := by decide +kernel
theorem d22_17 : decode method_5_code 17 = .ok (.iconst 3, 1) := by decide +kernel
theorem d22_18 : decode method_5_code 18 = .ok (.iload_n 0, 1) := by decide +kernel
theorem d22_19 : decode method_5_code 19 = .ok (.castore, 1) := by decide +kernel
theorem d22_20 : decode method_5_code 20 = .ok (.dup, 1) := by decide +kernel
theorem d22_21 : decode method_5_code 21 = .ok (.iconst 4, 1) := by decide +kernel
theorem d22_22 : decode method_5_code 22 = .ok (.iload_n 0, 1) := by decide +kernel
theorem d22_23 : decode method_5_code 23 = .ok (.castore, 1) := by decide +kernel
theorem d22_24 : decode method_5_code 24 = .ok (.dup, 1) := by decide +kernel
theorem d22_25 : decode method_5_code 25 = .ok (.iconst 5, 1) := by decide +kernel
theorem d22_26 : decode method_5_code 26 = .ok (.iload_n 0, 1) := by decide +kernel
theorem d22_27 : decode method_5_code 27 = .ok (.castore, 1) := by decide +kernel
theorem d22_28 : decode method_5_code 28 = .ok (.dup, 1) := by decide +kernel
theorem d22_29 : decode method_5_code 29 = .ok (.bipush 6, 2) := by decide +kernel
theorem d22_31 : decode method_5_code 31 = .ok (.iload_n 0, 1) := by decide +kernel
theorem d22_32 : decode method_5_code 32 = .ok (.castore, 1) := by decide +kernel
theorem d22_33 : decode method_5_code 33 = .ok (.dup, 1) := by decide +kernel
theorem d22_34 : decode method_5_code 34 = .ok (.bipush 7, 2) := by decide +kernel
theorem d22_36 : decode method_5_code 36 = .ok (.iload_n 0, 1) := by decide +kernel
theorem d22_37 : decode method_5_code 37 = .ok (.castore, 1) := by decide +kernel
theorem d22_38 : decode method_5_code 38 = .ok (.dup, 1) := by decide +kernel
theorem d22_39 : decode method_5_code 39 = .ok (.bipush 8, 2) := by decide +kernel
theorem d22_41 : decode method_5_code 41 = .ok (.iload_n 0, 1) := by decide +kernel
theorem d22_42 : decode method_5_code 42 = .ok (.castore, 1) := by decide +kernel
theorem d22_43 : decode method_5_code 43 = .ok (.dup, 1) := by decide +kernel
theorem d22_44 : decode method_5_code 44 = .ok (.bipush 9, 2) := by decide +kernel
theorem d22_46 : decode method_5_code 46 = .ok (.iload_n 0, 1) := by decide +kernel
theorem d22_47 : decode method_5_code 47 = .ok (.castore, 1) := by decide +kernel
theorem d22_48 : decode method_5_code 48 = .ok (.dup, 1) := by decide +kernel
theorem d22_49 : decode method_5_code 49 = .ok (.bipush 10, 2) := by decide +kernel
theorem d22_51 : decode method_5_code 51 = .ok (.iload_n 0, 1) := by decide +kernel
theorem d22_52 : decode method_5_code 52 = .ok (.castore, 1) := by decide +kernel
theorem d22_53 : decode method_5_code 53 = .ok (.dup, 1) := by decide +kernel
theorem d22_54 : decode method_5_code 54 = .ok (.bipush 11, 2) := by decide +kernel
theorem d22_56 : decode method_5_code 56 = .ok (.iload_n 0, 1) := by decide +kernel
theorem d22_57 : decode method_5_code 57 = .ok (.castore, 1) := by decide +kernel
theorem d22_58 : decode method_5_code 58 = .ok (.dup, 1) := by decide +kernel
theorem d22_59 : decode method_5_code 59 = .ok (.bipush 12, 2) := by decide +kernel
theorem d22_61 : decode method_5_code 61 = .ok (.iload_n 0, 1) := by decide +kernel
theorem d22_62 : decode method_5_code 62 = .ok (.castore, 1) := by decide +kernel
theorem d22_63 : decode method_5_code 63 = .ok (.dup, 1) := by decide +kernel
theorem d22_64 : decode method_5_code 64 = .ok (.bipush 13, 2) := by decide +kernel
theorem d22_66 : decode method_5_code 66 = .ok (.iload_n 0, 1) := by decide +kernel
theorem d22_67 : decode method_5_code 67 = .ok (.castore, 1) := by decide +kernel
theorem d22_68 : decode method_5_code 68 = .ok (.dup, 1) := by decide +kernel
theorem d22_69 : decode method_5_code 69 = .ok (.bipush 14, 2) := by decide +kernel
theorem d22_71 : decode method_5_code 71 = .ok (.iload_n 0, 1) := by decide +kernel
theorem d22_72 : decode method_5_code 72 = .ok (.castore, 1) := by decide +kernel
theorem d22_73 : decode method_5_code 73 = .ok (.dup, 1) := by decide +kernel
theorem d22_74 : decode method_5_code 74 = .ok (.bipush 15, 2) := by decide +kernel
theorem d22_76 : decode method_5_code 76 = .ok (.iload_n 0, 1) := by decide +kernel
theorem d22_77 : decode method_5_code 77 = .ok (.castore, 1) := by decide +kernel
theorem d22_78 : decode method_5_code 78 = .ok (.dup, 1) := by decide +kernel
theorem d22_79 : decode method_5_code 79 = .ok (.bipush 16, 2) := by decide +kernel
theorem d22_81 : decode method_5_code 81 = .ok (.iload_n 0, 1) := by decide +kernel
theorem d22_82 : decode method_5_code 82 = .ok (.castore, 1) := by decide +kernel
theorem d22_83 : decode method_5_code 83 = .ok (.dup, 1) := by decide +kernel
theorem d22_84 : decode method_5_code 84 = .ok (.bipush 17, 2) := by decide +kernel
theorem d22_86 : decode method_5_code 86 = .ok (.iload_n 0, 1) := by decide +kernel
theorem d22_87 : decode method_5_code 87 = .ok (.castore, 1) := by decide +kernel
theorem d22_88 : decode method_5_code 88 = .ok (.dup, 1) := by decide +kernel
theorem d22_89 : decode method_5_code 89 = .ok (.bipush 18, 2) := by decide +kernel
theorem d22_91 : decode method_5_code 91 = .ok (.iload_n 0, 1) := by decide +kernel
theorem d22_92 : decode method_5_code 92 = .ok (.castore, 1) := by decide +kernel
theorem d22_93 : decode method_5_code 93 = .ok (.dup, 1) := by decide +kernel
theorem d22_94 : decode method_5_code 94 = .ok (.bipush 19, 2) := by decide +kernel
theorem d22_96 : decode method_5_code 96 = .ok (.iload_n 0, 1) := by decide +kernel
theorem d22_97 : decode method_5_code 97 = .ok (.castore, 1) := by decide +kernel
theorem d22_98 : decode method_5_code 98 = .ok (.dup, 1) := by decide +kernel
theorem d22_99 : decode method_5_code 99 = .ok (.bipush 20, 2) := by decide +kernel
theorem d22_101 : decode method_5_code 101 = .ok (.iload_n 0, 1) := by decide +kernel
theorem d22_102 : decode method_5_code 102 = .ok (.castore, 1) := by decide +kernel
theorem d22_103 : decode method_5_code 103 = .ok (.dup, 1) := by decide +kernel
theorem d22_104 : decode method_5_code 104 = .ok (.bipush 21, 2) := by decide +kernel
theorem d22_106 : decode method_5_code 106 = .ok (.iload_n 0, 1) := by decide +kernel
theorem d22_107 : decode method_5_code 107 = .ok (.castore, 1) := by decide +kernel
theorem d22_108 : decode method_5_code 108 = .ok (.dup, 1) := by decide +kernel
theorem d22_109 : decode method_5_code 109 = .ok (.bipush 22, 2) := by decide +kernel
theorem d22_111 : decode method_5_code 111 = .ok (.iload_n 0, 1) := by decide +kernel
theorem d22_112 : decode method_5_code 112 = .ok (.castore, 1) := by decide +kernel
theorem d22_113 : decode method_5_code 113 = .ok (.dup, 1) := by decide +kernel
theorem d22_114 : decode method_5_code 114 = .ok (.bipush 23, 2) := by decide +kernel
theorem d22_116 : decode method_5_code 116 = .ok (.iload_n 0, 1) := by decide +kernel
theorem d22_117 : decode method_5_code 117 = .ok (.castore, 1) := by decide +kernel
theorem d22_118 : decode method_5_code 118 = .ok (.dup, 1) := by decide +kernel
theorem d22_119 : decode method_5_code 119 = .ok (.bipush 24, 2) := by decide +kernel
theorem d22_121 : decode method_5_code 121 = .ok (.iload_n 0, 1) := by decide +kernel
theorem d22_122 : decode method_5_code 122 = .ok (.castore, 1) := by decide +kernel
theorem d22_123 : decode method_5_code 123 = .ok (.dup, 1) := by decide +kernel
theorem d22_124 : decode method_5_code 124 = .ok (.bipush 25, 2) := by decide +kernel
theorem d22_126 : decode method_5_code 126 = .ok (.iload_n 0, 1) := by decide +kernel
theorem d22_127 : decode method_5_code 127 = .ok (.castore, 1) := by decide +kernel
theorem d22_128 : decode method_5_code 128 = .ok (.dup, 1) := by decide +kernel
theorem d22_129 : decode method_5_code 129 = .ok (.bipush 26, 2) := by decide +kernel
theorem d22_131 : decode method_5_code 131 = .ok (.iload_n 0, 1) := by decide +kernel
theorem d22_132 : decode method_5_code 132 = .ok (.castore, 1) := by decide +kernel
theorem d22_133 : decode method_5_code 133 = .ok (.dup, 1) := by decide +kernel
theorem d22_134 : decode method_5_code 134 = .ok (.bipush 27, 2) := by decide +kernel
theorem d22_136 : decode method_5_code 136 = .ok (.iload_n 0, 1) := by decide +kernel
theorem d22_137 : decode method_5_code 137 = .ok (.castore, 1) := by decide +kernel
theorem d22_138 : decode method_5_code 138 = .ok (.dup, 1) := by decide +kernel
theorem d22_139 : decode method_5_code 139 = .ok (.bipush 28, 2) := by decide +kernel
theorem d22_141 : decode method_5_code 141 = .ok (.iload_n 0, 1) := by decide +kernel
theorem d22_142 : decode method_5_code 142 = .ok (.castore, 1) := by decide +kernel
theorem d22_143 : decode method_5_code 143 = .ok (.dup, 1) := by decide +kernel
theorem d22_144 : decode method_5_code 144 = .ok (.bipush 29, 2) := by decide +kernel
theorem d22_146 : decode method_5_code 146 = .ok (.iload_n 0, 1) := by decide +kernel
theorem d22_147 : decode method_5_code 147 = .ok (.castore, 1) := by decide +kernel
theorem d22_148 : decode method_5_code 148 = .ok (.dup, 1) := by decide +kernel
theorem d22_149 : decode method_5_code 149 = .ok (.bipush 30, 2) := by decide +kernel
theorem d22_151 : decode method_5_code 151 = .ok (.iload_n 0, 1) := by decide +kernel
theorem d22_152 : decode method_5_code 152 = .ok (.castore, 1) := by decide +kernel
theorem d22_153 : decode method_5_code 153 = .ok (.dup, 1) := by decide +kernel
theorem d22_154 : decode method_5_code 154 = .ok (.bipush 31, 2) := by decide +kernel
theorem d22_156 : decode method_5_code 156 = .ok (.iload_n 0, 1) := by decide +kernel
theorem d22_157 : decode method_5_code 157 = .ok (.castore, 1) := by decide +kernel
theorem d22_158 : decode method_5_code 158 = .ok (.dup, 1) := by decide +kernel
theorem d22_159 : decode method_5_code 159 = .ok (.bipush 32, 2) := by decide +kernel
theorem d22_161 : decode method_5_code 161 = .ok (.iload_n 0, 1) := by decide +kernel
theorem d22_162 : decode method_5_code 162 = .ok (.castore, 1) := by decide +kernel
theorem d22_163 : decode method_5_code 163 = .ok (.dup, 1) := by decide +kernel
theorem d22_164 : decode method_5_code 164 = .ok (.bipush 33, 2) := by decide +kernel
theorem d22_166 : decode method_5_code 166 = .ok (.iload_n 0, 1) := by decide +kernel
theorem d22_167 : decode method_5_code 167 = .ok (.castore, 1) := by decide +kernel
theorem d22_168 : decode method_5_code 168 = .ok (.dup, 1) := by decide +kernel
theorem d22_169 : decode method_5_code 169 = .ok (.bipush 34, 2) := by decide +kernel
theorem d22_171 : decode method_5_code 171 = .ok (.iload_n 0, 1) := by decide +kernel
theorem d22_172 : decode method_5_code 172 = .ok (.castore, 1) := by decide +kernel
theorem d22_173 : decode method_5_code 173 = .ok (.dup, 1) := by decide +kernel
theorem d22_174 : decode method_5_code 174 = .ok (.bipush 35, 2) := by decide +kernel
theorem d22_176 : decode method_5_code 176 = .ok (.iload_n 0, 1) := by decide +kernel
theorem d22_177 : decode method_5_code 177 = .ok (.castore, 1) := by decide +kernel
theorem d22_178 : decode method_5_code 178 = .ok (.dup, 1) := by decide +kernel
theorem d22_179 : decode method_5_code 179 = .ok (.bipush 36, 2) := by decide +kernel
theorem d22_181 : decode method_5_code 181 = .ok (.iload_n 0, 1) := by decide +kernel
theorem d22_182 : decode method_5_code 182 = .ok (.castore, 1) := by decide +kernel
theorem d22_183 : decode method_5_code 183 = .ok (.dup, 1) := by decide +kernel
theorem d22_184 : decode method_5_code 184 = .ok (.bipush 37, 2) := by decide +kernel
theorem d22_186 : decode method_5_code 186 = .ok (.iload_n 0, 1) := by decide +kernel
theorem d22_187 : decode method_5_code 187 = .ok (.castore, 1) := by decide +kernel
theorem d22_188 : decode method_5_code 188 = .ok (.dup, 1) := by decide +kernel
theorem d22_189 : decode method_5_code 189 = .ok (.bipush 38, 2) := by decide +kernel
theorem d22_191 : decode method_5_code 191 = .ok (.iload_n 0, 1) := by decide +kernel
theorem d22_192 : decode method_5_code 192 = .ok (.castore, 1) := by decide +kernel
theorem d22_193 : decode method_5_code 193 = .ok (.dup, 1) := by decide +kernel
theorem d22_194 : decode method_5_code 194 = .ok (.bipush 39, 2) := by decide +kernel
theorem d22_196 : decode method_5_code 196 = .ok (.iload_n 0, 1) := by decide +kernel
theorem d22_197 : decode method_5_code 197 = .ok (.castore, 1) := by decide +kernel
theorem d22_198 : decode method_5_code 198 = .ok (.dup, 1) := by decide +kernel
theorem d22_199 : decode method_5_code 199 = .ok (.bipush 40, 2) := by decide +kernel
theorem d22_201 : decode method_5_code 201 = .ok (.iload_n 0, 1) := by decide +kernel
theorem d22_202 : decode method_5_code 202 = .ok (.castore, 1) := by decide +kernel
theorem d22_203 : decode method_5_code 203 = .ok (.dup, 1) := by decide +kernel
theorem d22_204 : decode method_5_code 204 = .ok (.bipush 41, 2) := by decide +kernel
theorem d22_206 : decode method_5_code 206 = .ok (.iload_n 0, 1) := by decide +kernel
theorem d22_207 : decode method_5_code 207 = .ok (.castore, 1) := by decide +kernel
theorem d22_208 : decode method_5_code 208 = .ok (.dup, 1) := by decide +kernel
theorem d22_209 : decode method_5_code 209 = .ok (.bipush 42, 2) := by decide +kernel
theorem d22_211 : decode method_5_code 211 = .ok (.iload_n 0, 1) := by decide +kernel
theorem d22_212 : decode method_5_code 212 = .ok (.castore, 1) := by decide +kernel
theorem d22_213 : decode method_5_code 213 = .ok (.dup, 1) := by decide +kernel
theorem d22_214 : decode method_5_code 214 = .ok (.bipush 43, 2) := by decide +kernel
theorem d22_216 : decode method_5_code 216 = .ok (.iload_n 0, 1) := by decide +kernel
theorem d22_217 : decode method_5_code 217 = .ok (.castore, 1) := by decide +kernel
theorem d22_218 : decode method_5_code 218 = .ok (.dup, 1) := by decide +kernel
theorem d22_219 : decode method_5_code 219 = .ok (.bipush 44, 2) := by decide +kernel
theorem d22_221 : decode method_5_code 221 = .ok (.iload_n 0, 1) := by decide +kernel
theorem d22_222 : decode method_5_code 222 = .ok (.castore, 1) := by decide +kernel
theorem d22_223 : decode method_5_code 223 = .ok (.dup, 1) := by decide +kernel
theorem d22_224 : decode method_5_code 224 = .ok (.bipush 45, 2) := by decide +kernel
theorem d22_226 : decode method_5_code 226 = .ok (.iload_n 0, 1) := by decide +kernel
theorem d22_227 : decode method_5_code 227 = .ok (.castore, 1) := by decide +kernel
theorem d22_228 : decode method_5_code 228 = .ok (.dup, 1) := by decide +kernel
theorem d22_229 : decode method_5_code 229 = .ok (.bipush 46, 2) := by decide +kernel
theorem d22_231 : decode method_5_code 231 = .ok (.iload_n 0, 1) := by decide +kernel
theorem d22_232 : decode method_5_code 232 = .ok (.castore, 1) := by decide +kernel
theorem d22_233 : decode method_5_code 233 = .ok (.dup, 1) := by decide +kernel
theorem d22_234 : decode method_5_code 234 = .ok (.bipush 47, 2) := by decide +kernel
theorem d22_236 : decode method_5_code 236 = .ok (.iload_n 0, 1) := by decide +kernel
theorem d22_237 : decode method_5_code 237 = .ok (.castore, 1) := by decide +kernel
theorem d22_238 : decode method_5_code 238 = .ok (.dup, 1) := by decide +kernel
theorem d22_239 : decode method_5_code 239 = .ok (.bipush 48, 2) := by decide +kernel
theorem d22_241 : decode method_5_code 241 = .ok (.iload_n 0, 1) := by decide +kernel
theorem d22_242 : decode method_5_code 242 = .ok (.castore, 1) := by decide +kernel
theorem d22_243 : decode method_5_code 243 = .ok (.dup, 1) := by decide +kernel
theorem d22_244 : decode method_5_code 244 = .ok (.bipush 49, 2) := by decide +kernel
theorem d22_246 : decode method_5_code 246 = .ok (.iload_n 0, 1) := by decide +kernel
theorem d22_247 : decode method_5_code 247 = .ok (.castore, 1) := by decide +kernel
theorem d22_248 : decode method_5_code 248 = .ok (.dup, 1) := by decide +kernel
theorem d22_249 : decode method_5_code 249 = .ok (.bipush 50, 2) := by decide +kernel
theorem d22_251 : decode method_5_code 251 = .ok (.iload_n 0, 1) := by decide +kernel
theorem d22_252 : decode method_5_code 252 = .ok (.castore, 1) := by decide +kernel
theorem d22_253 : decode method_5_code 253 = .ok (.dup, 1) := by decide +kernel
theorem d22_254 : decode method_5_code 254 = .ok (.bipush 51, 2) := by decide +kernel
theorem d22_256 : decode method_5_code 256 = .ok (.iload_n 0, 1) := by decide +kernel
theorem d22_257 : decode method_5_code 257 = .ok (.castore, 1) := by decide +kernel
theorem d22_258 : decode method_5_code 258 = .ok (.dup, 1) := by decide +kernel
theorem d22_259 : decode method_5_code 259 = .ok (.bipush 52, 2) := by decide +kernel
theorem d22_261 : decode method_5_code 261 = .ok (.iload_n 0, 1) := by decide +kernel
theorem d22_262 : decode method_5_code 262 = .ok (.castore, 1) := by decide +kernel
theorem d22_263 : decode method_5_code 263 = .ok (.dup, 1) := by decide +kernel
theorem d22_264 : decode method_5_code 264 = .ok (.bipush 53, 2) := by decide +kernel
theorem d22_266 : decode method_5_code 266 = .ok (.iload_n 0, 1) := by decide +kernel
theorem d22_267 : decode method_5_code 267 = .ok (.castore, 1) := by decide +kernel
theorem d22_268 : decode method_5_code 268 = .ok (.dup, 1) := by decide +kernel
theorem d22_269 : decode method_5_code 269 = .ok (.bipush 54, 2) := by decide +kernel
theorem d22_271 : decode method_5_code 271 = .ok (.iload_n 0, 1) := by decide +kernel
theorem d22_272 : decode method_5_code 272 = .ok (.castore, 1) := by decide +kernel
theorem d22_273 : decode method_5_code 273 = .ok (.dup, 1) := by decide +kernel
theorem d22_274 : decode method_5_code 274 = .ok (.bipush 55, 2) := by decide +kernel
theorem d22_276 : decode method_5_code 276 = .ok (.iload_n 0, 1) := by decide +kernel
theorem d22_277 : decode method_5_code 277 = .ok (.castore, 1) := by decide +kernel
theorem d22_278 : decode method_5_code 278 = .ok (.dup, 1) := by decide +kernel
theorem d22_279 : decode method_5_code 279 = .ok (.bipush 56, 2) := by decide +kernel
theorem d22_281 : decode method_5_code 281 = .ok (.iload_n 0, 1) := by decide +kernel
theorem d22_282 : decode method_5_code 282 = .ok (.castore, 1) := by decide +kernel
theorem d22_283 : decode method_5_code 283 = .ok (.dup, 1) := by decide +kernel
theorem d22_284 : decode method_5_code 284 = .ok (.bipush 57, 2) := by decide +kernel
theorem d22_286 : decode method_5_code 286 = .ok (.iload_n 0, 1) := by decide +kernel
theorem d22_287 : decode method_5_code 287 = .ok (.castore, 1) := by decide +kernel
theorem d22_288 : decode method_5_code 288 = .ok (.dup, 1) := by decide +kernel
theorem d22_289 : decode method_5_code 289 = .ok (.bipush 58, 2) := by decide +kernel
theorem d22_291 : decode method_5_code 291 = .ok (.iload_n 0, 1) := by decide +kernel
theorem d22_292 : decode method_5_code 292 = .ok (.castore, 1) := by decide +kernel
theorem d22_293 : decode method_5_code 293 = .ok (.dup, 1) := by decide +kernel
theorem d22_294 : decode method_5_code 294 = .ok (.bipush 59, 2) := by decide +kernel
theorem d22_296 : decode method_5_code 296 = .ok (.iload_n 0, 1) := by decide +kernel
theorem d22_297 : decode method_5_code 297 = .ok (.castore, 1) := by decide +kernel
theorem d22_298 : decode method_5_code 298 = .ok (.dup, 1) := by decide +kernel
theorem d22_299 : decode method_5_code 299 = .ok (.bipush 60, 2) := by decide +kernel
theorem d22_301 : decode method_5_code 301 = .ok (.iload_n 0, 1) := by decide +kernel
theorem d22_302 : decode method_5_code 302 = .ok (.castore, 1) := by decide +kernel
theorem d22_303 : decode method_5_code 303 = .ok (.dup, 1) := by decide +kernel
theorem d22_304 : decode method_5_code 304 = .ok (.bipush 61, 2) := by decide +kernel
theorem d22_306 : decode method_5_code 306 = .ok (.iload_n 0, 1) := by decide +kernel
theorem d22_307 : decode method_5_code 307 = .ok (.castore, 1) := by decide +kernel
theorem d22_308 : decode method_5_code 308 = .ok (.dup, 1) := by decide +kernel
theorem d22_309 : decode method_5_code 309 = .ok (.bipush 62, 2) := by decide +kernel
theorem d22_311 : decode method_5_code 311 = .ok (.iload_n 0, 1) := by decide +kernel
theorem d22_312 : decode method_5_code 312 = .ok (.castore, 1) := by decide +kernel
theorem d22_313 : decode method_5_code 313 = .ok (.dup, 1) := by decide +kernel
theorem d22_314 : decode method_5_code 314 = .ok (.bipush 63, 2) := by decide +kernel
theorem d22_316 : decode method_5_code 316 = .ok (.iload_n 0, 1) := by decide +kernel
theorem d22_317 : decode method_5_code 317 = .ok (.castore, 1) := by decide +kernel
theorem d22_318 : decode method_5_code 318 = .ok (.areturn, 1) := by decide +kernel
theorem d23_0 : decode method_6_code 0 = .ok (.bipush 65, 2) := by decide +kernel
theorem d23_2 : decode method_6_code 2 = .ok (.newarray .char, 2) := by decide +kernel
theorem d23_4 : decode method_6_code 4 = .ok (.dup, 1) := by decide +kernel
theorem d23_5 : decode method_6_code 5 = .ok (.iconst 0, 1) := by decide +kernel
theorem d23_6 : decode method_6_code 6 = .ok (.iload_n 0, 1) := by decide +kernel
theorem d23_7 : decode method_6_code 7 = .ok (.castore, 1) := by decide +kernel
theorem d23_8 : decode method_6_code 8 = .ok (.dup, 1) := by decide +kernel
theorem d23_9 : decode method_6_code 9 = .ok (.iconst 1, 1) := by decide +kernel
theorem d23_10 : decode method_6_code 10 = .ok (.iload_n 0, 1) := by decide +kernel
theorem d23_11 : decode method_6_code 11 = .ok (.castore, 1) := by decide +kernel
theorem d23_12 : decode method_6_code 12 = .ok (.dup, 1) := by decide +kernel
theorem d23_13 : decode method_6_code 13 = .ok (.iconst 2, 1) := by decide +kernel
theorem d23_14 : decode method_6_code 14 = .ok (.iload_n 0, 1) := by decide +kernel
theorem d23_15 : decode method_6_code 15 = .ok (.castore, 1) := by decide +kernel
theorem d23_16 : decode method_6_code 16 = .ok (.dup, 1) := by decide +kernel
theorem d23_17 : decode method_6_code 17 = .ok (.iconst 3, 1) := by decide +kernel
theorem d23_18 : decode method_6_code 18 = .ok (.iload_n 0, 1) := by decide +kernel
theorem d23_19 : decode method_6_code 19 = .ok (.castore, 1) := by decide +kernel
theorem d23_20 : decode method_6_code 20 = .ok (.dup, 1) := by decide +kernel
theorem d23_21 : decode method_6_code 21 = .ok (.iconst 4, 1) := by decide +kernel
theorem d23_22 : decode method_6_code 22 = .ok (.iload_n 0, 1) := by decide +kernel
theorem d23_23 : decode method_6_code 23 = .ok (.castore, 1) := by decide +kernel
theorem d23_24 : decode method_6_code 24 = .ok (.dup, 1) := by decide +kernel
theorem d23_25 : decode method_6_code 25 = .ok (.iconst 5, 1) := by decide +kernel
theorem d23_26 : decode method_6_code 26 = .ok (.iload_n 0, 1) := by decide +kernel
theorem d23_27 : decode method_6_code 27 = .ok (.castore, 1) := by decide +kernel
theorem d23_28 : decode method_6_code 28 = .ok (.dup, 1) := by decide +kernel
theorem d23_29 : decode method_6_code 29 = .ok (.bipush 6, 2) := by decide +kernel
theorem d23_31 : decode method_6_code 31 = .ok (.iload_n 0, 1) := by decide +kernel
theorem d23_32 : decode method_6_code 32 = .ok (.castore, 1) := by decide +kernel
theorem d23_33 : decode method_6_code 33 = .ok (.dup, 1) := by decide +kernel
theorem d23_34 : decode method_6_code 34 = .ok (.bipush 7, 2) := by decide +kernel
theorem d23_36 : decode method_6_code 36 = .ok (.iload_n 0, 1) := by decide +kernel
theorem d23_37 : decode method_6_code 37 = .ok (.castore, 1) := by decide +kernel
theorem d23_38 : decode method_6_code 38 = .ok (.dup, 1) := by decide +kernel
theorem d23_39 : decode method_6_code 39 = .ok (.bipush 8, 2) := by decide +kernel
theorem d23_41 : decode method_6_code 41 = .ok (.iload_n 0, 1) := by decide +kernel
theorem d23_42 : decode method_6_code 42 = .ok (.castore, 1) := by decide +kernel
theorem d23_43 : decode method_6_code 43 = .ok (.dup, 1) := by decide +kernel
theorem d23_44 : decode method_6_code 44 = .ok (.bipush 9, 2) := by decide +kernel
theorem d23_46 : decode method_6_code 46 = .ok (.iload_n 0, 1) := by decide +kernel
theorem d23_47 : decode method_6_code 47 = .ok (.castore, 1) := by decide +kernel
theorem d23_48 : decode method_6_code 48 = .ok (.dup, 1) := by decide +kernel
theorem d23_49 : decode method_6_code 49 = .ok (.bipush 10, 2) := by decide +kernel
theorem d23_51 : decode method_6_code 51 = .ok (.iload_n 0, 1) := by decide +kernel
theorem d23_52 : decode method_6_code 52 = .ok (.castore, 1) := by decide +kernel
theorem d23_53 : decode method_6_code 53 = .ok (.dup, 1) := by decide +kernel
theorem d23_54 : decode method_6_code 54 = .ok (.bipush 11, 2) := by decide +kernel
theorem d23_56 : decode method_6_code 56 = .ok (.iload_n 0, 1) := by decide +kernel
theorem d23_57 : decode method_6_code 57 = .ok (.castore, 1) := by decide +kernel
theorem d23_58 : decode method_6_code 58 = .ok (.dup, 1) := by decide +kernel
theorem d23_59 : decode method_6_code 59 = .ok (.bipush 12, 2) := by decide +kernel
theorem d23_61 : decode method_6_code 61 = .ok (.iload_n 0, 1) := by decide +kernel
theorem d23_62 : decode method_6_code 62 = .ok (.castore, 1) := by decide +kernel
theorem d23_63 : decode method_6_code 63 = .ok (.dup, 1) := by decide +kernel
theorem d23_64 : decode method_6_code 64 = .ok (.bipush 13, 2) := by decide +kernel
theorem d23_66 : decode method_6_code 66 = .ok (.iload_n 0, 1) := by decide +kernel
theorem d23_67 : decode method_6_code 67 = .ok (.castore, 1) := by decide +kernel
theorem d23_68 : decode method_6_code 68 = .ok (.dup, 1) := by decide +kernel
theorem d23_69 : decode method_6_code 69 = .ok (.bipush 14, 2) := by decide +kernel
theorem d23_71 : decode method_6_code 71 = .ok (.iload_n 0, 1) := by decide +kernel
theorem d23_72 : decode method_6_code 72 = .ok (.castore, 1) := by decide +kernel
theorem d23_73 : decode method_6_code 73 = .ok (.dup, 1) := by decide +kernel
theorem d23_74 : decode method_6_code 74 = .ok (.bipush 15, 2) := by decide +kernel
theorem d23_76 : decode method_6_code 76 = .ok (.iload_n 0, 1) := by decide +kernel
theorem d23_77 : decode method_6_code 77 = .ok (.castore, 1) := by decide +kernel
theorem d23_78 : decode method_6_code 78 = .ok (.dup, 1) := by decide +kernel
theorem d23_79 : decode method_6_code 79 = .ok (.bipush 16, 2) := by decide +kernel
theorem d23_81 : decode method_6_code 81 = .ok (.iload_n 0, 1) := by decide +kernel
theorem d23_82 : decode method_6_code 82 = .ok (.castore, 1) := by decide +kernel
theorem d23_83 : decode method_6_code 83 = .ok (.dup, 1) := by decide +kernel
theorem d23_84 : decode method_6_code 84 = .ok (.bipush 17, 2) := by decide +kernel
theorem d23_86 : decode method_6_code 86 = .ok (.iload_n 0, 1) := by decide +kernel
theorem d23_87 : decode method_6_code 87 = .ok (.castore, 1) := by decide +kernel
theorem d23_88 : decode method_6_code 88 = .ok (.dup, 1) := by decide +kernel
theorem d23_89 : decode method_6_code 89 = .ok (.bipush 18, 2) := by decide +kernel
theorem d23_91 : decode method_6_code 91 = .ok (.iload_n 0, 1) := by decide +kernel
theorem d23_92 : decode method_6_code 92 = .ok (.castore, 1) := by decide +kernel
theorem d23_93 : decode method_6_code 93 = .ok (.dup, 1) := by decide +kernel
theorem d23_94 : decode method_6_code 94 = .ok (.bipush 19, 2) := by decide +kernel
theorem d23_96 : decode method_6_code 96 = .ok (.iload_n 0, 1) := by decide +kernel
theorem d23_97 : decode method_6_code 97 = .ok (.castore, 1) := by decide +kernel
theorem d23_98 : decode method_6_code 98 = .ok (.dup, 1) := by decide +kernel
theorem d23_99 : decode method_6_code 99 = .ok (.bipush 20, 2) := by decide +kernel
theorem d23_101 : decode method_6_code 101 = .ok (.iload_n 0, 1) := by decide +kernel
theorem d23_102 : decode method_6_code 102 = .ok (.castore, 1) := by decide +kernel
theorem d23_103 : decode method_6_code 103 = .ok (.dup, 1) := by decide +kernel
theorem d23_104 : decode method_6_code 104 = .ok (.bipush 21, 2) := by decide +kernel
theorem d23_106 : decode method_6_code 106 = .ok (.iload_n 0, 1) := by decide +kernel
theorem d23_107 : decode method_6_code 107 = .ok (.castore, 1) := by decide +kernel
theorem d23_108 : decode method_6_code 108 = .ok (.dup, 1) := by decide +kernel
theorem d23_109 : decode method_6_code 109 = .ok (.bipush 22, 2) := by decide +kernel
theorem d23_111 : decode method_6_code 111 = .ok (.iload_n 0, 1) := by decide +kernel
theorem d23_112 : decode method_6_code 112 = .ok (.castore, 1) := by decide +kernel
theorem d23_113 : decode method_6_code 113 = .ok (.dup, 1) := by decide +kernel
theorem d23_114 : decode method_6_code 114 = .ok (.bipush 23, 2) := by decide +kernel
theorem d23_116 : decode method_6_code 116 = .ok (.iload_n 0, 1) := by decide +kernel
theorem d23_117 : decode method_6_code 117 = .ok (.castore, 1) := by decide +kernel
theorem d23_118 : decode method_6_code 118 = .ok (.dup, 1) := by decide +kernel
theorem d23_119 : decode method_6_code 119 = .ok (.bipush 24, 2) := by decide +kernel
theorem d23_121 : decode method_6_code 121 = .ok (.iload_n 0, 1) := by decide +kernel
theorem d23_122 : decode method_6_code 122 = .ok (.castore, 1) := by decide +kernel
theorem d23_123 : decode method_6_code 123 = .ok (.dup, 1) := by decide +kernel
theorem d23_124 : decode method_6_code 124 = .ok (.bipush 25, 2) := by decide +kernel
theorem d23_126 : decode method_6_code 126 = .ok (.iload_n 0, 1) := by decide +kernel
theorem d23_127 : decode method_6_code 127 = .ok (.castore, 1) := by decide +kernel
theorem d23_128 : decode method_6_code 128 = .ok (.dup, 1) := by decide +kernel
theorem d23_129 : decode method_6_code 129 = .ok (.bipush 26, 2) := by decide +kernel
theorem d23_131 : decode method_6_code 131 = .ok (.iload_n 0, 1) := by decide +kernel
theorem d23_132 : decode method_6_code 132 = .ok (.castore, 1) := by decide +kernel
theorem d23_133 : decode method_6_code 133 = .ok (.dup, 1) := by decide +kernel
theorem d23_134 : decode method_6_code 134 = .ok (.bipush 27, 2) := by decide +kernel
theorem d23_136 : decode method_6_code 136 = .ok (.iload_n 0, 1) := by decide +kernel
theorem d23_137 : decode method_6_code 137 = .ok (.castore, 1) := by decide +kernel
theorem d23_138 : decode method_6_code 138 = .ok (.dup, 1) := by decide +kernel
theorem d23_139 : decode method_6_code 139 = .ok (.bipush 28, 2) := by decide +kernel
theorem d23_141 : decode method_6_code 141 = .ok (.iload_n 0, 1) := by decide +kernel
theorem d23_142 : decode method_6_code 142 = .ok (.castore, 1) := by decide +kernel
theorem d23_143 : decode method_6_code 143 = .ok (.dup, 1) := by decide +kernel
theorem d23_144 : decode method_6_code 144 = .ok (.bipush 29, 2) := by decide +kernel
theorem d23_146 : decode method_6_code 146 = .ok (.iload_n 0, 1) := by decide +kernel
theorem d23_147 : decode method_6_code 147 = .ok (.castore, 1) := by decide +kernel
theorem d23_148 : decode method_6_code 148 = .ok (.dup, 1) := by decide +kernel
theorem d23_149 : decode method_6_code 149 = .ok (.bipush 30, 2) := by decide +kernel
theorem d23_151 : decode method_6_code 151 = .ok (.iload_n 0, 1) := by decide +kernel
theorem d23_152 : decode method_6_code 152 = .ok (.castore, 1) := by decide +kernel
theorem d23_153 : decode method_6_code 153 = .ok (.dup, 1) := by decide +kernel
theorem d23_154 : decode method_6_code 154 = .ok (.bipush 31, 2) := by decide +kernel
theorem d23_156 : decode method_6_code 156 = .ok (.iload_n 0, 1) := by decide +kernel
theorem d23_157 : decode method_6_code 157 = .ok (.castore, 1) := by decide +kernel
theorem d23_158 : decode method_6_code 158 = .ok (.dup, 1) := by decide +kernel
theorem d23_159 : decode method_6_code 159 = .ok (.bipush 32, 2) := by decide +kernel
theorem d23_161 : decode method_6_code 161 = .ok (.iload_n 0, 1) := by decide +kernel
theorem d23_162 : decode method_6_code 162 = .ok (.castore, 1) := by decide +kernel
theorem d23_163 : decode method_6_code 163 = .ok (.dup, 1) := by decide +kernel
theorem d23_164 : decode method_6_code 164 = .ok (.bipush 33, 2) := by decide +kernel
theorem d23_166 : decode method_6_code 166 = .ok (.iload_n 0, 1) := by decide +kernel
theorem d23_167 : decode method_6_code 167 = .ok (.castore, 1) := by decide +kernel
theorem d23_168 : decode method_6_code 168 = .ok (.dup, 1) := by decide +kernel
theorem d23_169 : decode method_6_code 169 = .ok (.bipush 34, 2) := by decide +kernel
theorem d23_171 : decode method_6_code 171 = .ok (.iload_n 0, 1) := by decide +kernel
theorem d23_172 : decode method_6_code 172 = .ok (.castore, 1) := by decide +kernel
theorem d23_173 : decode method_6_code 173 = .ok (.dup, 1) := by decide +kernel
theorem d23_174 : decode method_6_code 174 = .ok (.bipush 35, 2) := by decide +kernel
theorem d23_176 : decode method_6_code 176 = .ok (.iload_n 0, 1) := by decide +kernel
theorem d23_177 : decode method_6_code 177 = .ok (.castore, 1) := by decide +kernel
theorem d23_178 : decode method_6_code 178 = .ok (.dup, 1) := by decide +kernel
theorem d23_179 : decode method_6_code 179 = .ok (.bipush 36, 2) := by decide +kernel
theorem d23_181 : decode method_6_code 181 = .ok (.iload_n 0, 1) := by decide +kernel
theorem d23_182 : decode method_6_code 182 = .ok (.castore, 1) := by decide +kernel
theorem d23_183 : decode method_6_code 183 = .ok (.dup, 1) := by decide +kernel
theorem d23_184 : decode method_6_code 184 = .ok (.bipush 37, 2) := by decide +kernel
theorem d23_186 : decode method_6_code 186 = .ok (.iload_n 0, 1) := by decide +kernel
theorem d23_187 : decode method_6_code 187 = .ok (.castore, 1) := by decide +kernel
theorem d23_188 : decode method_6_code 188 = .ok (.dup, 1) := by decide +kernel
theorem d23_189 : decode method_6_code 189 = .ok (.bipush 38, 2) := by decide +kernel
theorem d23_191 : decode method_6_code 191 = .ok (.iload_n 0, 1) := by decide +kernel
theorem d23_192 : decode method_6_code 192 = .ok (.castore, 1) := by decide +kernel
theorem d23_193 : decode method_6_code 193 = .ok (.dup, 1) := by decide +kernel
theorem d23_194 : decode method_6_code 194 = .ok (.bipush 39, 2) := by decide +kernel
theorem d23_196 : decode method_6_code 196 = .ok (.iload_n 0, 1) := by decide +kernel
theorem d23_197 : decode method_6_code 197 = .ok (.castore, 1) := by decide +kernel
theorem d23_198 : decode method_6_code 198 = .ok (.dup, 1) := by decide +kernel
theorem d23_199 : decode method_6_code 199 = .ok (.bipush 40, 2) := by decide +kernel
theorem d23_201 : decode method_6_code 201 = .ok (.iload_n 0, 1) := by decide +kernel
theorem d23_202 : decode method_6_code 202 = .ok (.castore, 1) := by decide +kernel
theorem d23_203 : decode method_6_code 203 = .ok (.dup, 1) := by decide +kernel
theorem d23_204 : decode method_6_code 204 = .ok (.bipush 41, 2) := by decide +kernel
theorem d23_206 : decode method_6_code 206 = .ok (.iload_n 0, 1) := by decide +kernel
theorem d23_207 : decode method_6_code 207 = .ok (.castore, 1) := by decide +kernel
theorem d23_208 : decode method_6_code 208 = .ok (.dup, 1) := by decide +kernel
theorem d23_209 : decode method_6_code 209 = .ok (.bipush 42, 2) := by decide +kernel
theorem d23_211 : decode method_6_code 211 = .ok (.iload_n 0, 1) := by decide +kernel
theorem d23_212 : decode method_6_code 212 = .ok (.castore, 1) := by decide +kernel
theorem d23_213 : decode method_6_code 213 = .ok (.dup, 1) := by decide +kernel
theorem d23_214 : decode method_6_code 214 = .ok (.bipush 43, 2) := by decide +kernel
theorem d23_216 : decode method_6_code 216 = .ok (.iload_n 0, 1) := by decide +kernel
theorem d23_217 : decode method_6_code 217 = .ok (.castore, 1) := by decide +kernel
theorem d23_218 : decode method_6_code 218 = .ok (.dup, 1) := by decide +kernel
theorem d23_219 : decode method_6_code 219 = .ok (.bipush 44, 2) := by decide +kernel
theorem d23_221 : decode method_6_code 221 = .ok (.iload_n 0, 1) := by decide +kernel
theorem d23_222 : decode method_6_code 222 = .ok (.castore, 1) := by decide +kernel
theorem d23_223 : decode method_6_code 223 = .ok (.dup, 1) := by decide +kernel
theorem d23_224 : decode method_6_code 224 = .ok (.bipush 45, 2) := by decide +kernel
theorem d23_226 : decode method_6_code 226 = .ok (.iload_n 0, 1) := by decide +kernel
theorem d23_227 : decode method_6_code 227 = .ok (.castore, 1) := by decide +kernel
theorem d23_228 : decode method_6_code 228 = .ok (.dup, 1) := by decide +kernel
theorem d23_229 : decode method_6_code 229 = .ok (.bipush 46, 2) := by decide +kernel
theorem d23_231 : decode method_6_code 231 = .ok (.iload_n 0, 1) := by decide +kernel
theorem d23_232 : decode method_6_code 232 = .ok (.castore, 1) := by decide +kernel
theorem d23_233 : decode method_6_code 233 = .ok (.dup, 1) := by decide +kernel
theorem d23_234 : decode method_6_code 234 = .ok (.bipush 47, 2) := by decide +kernel
theorem d23_236 : decode method_6_code 236 = .ok (.iload_n 0, 1) := by decide +kernel
theorem d23_237 : decode method_6_code 237 = .ok (.castore, 1) := by decide +kernel
theorem d23_238 : decode method_6_code 238 = .ok (.dup, 1) := by decide +kernel
theorem d23_239 : decode method_6_code 239 = .ok (.bipush 48, 2) := by decide +kernel
theorem d23_241 : decode method_6_code 241 = .ok (.iload_n 0, 1) := by decide +kernel
theorem d23_242 : decode method_6_code 242 = .ok (.castore, 1) := by decide +kernel
theorem d23_243 : decode method_6_code 243 = .ok (.dup, 1) := by decide +kernel
theorem d23_244 : decode method_6_code 244 = .ok (.bipush 49, 2) := by decide +kernel
theorem d23_246 : decode method_6_code 246 = .ok (.iload_n 0, 1) := by decide +kernel
theorem d23_247 : decode method_6_code 247 = .ok (.castore, 1) := by decide +kernel
theorem d23_248 : decode method_6_code 248 = .ok (.dup, 1) := by decide +kernel
theorem d23_249 : decode method_6_code 249 = .ok (.bipush 50, 2) := by decide +kernel
theorem d23_251 : decode method_6_code 251 = .ok (.iload_n 0, 1) := by decide +kernel
theorem d23_252 : decode method_6_code 252 = .ok (.castore, 1) := by decide +kernel
theorem d23_253 : decode method_6_code 253 = .ok (.dup, 1) := by decide +kernel
theorem d23_254 : decode method_6_code 254 = .ok (.bipush 51, 2) := by decide +kernel
theorem d23_256 : decode method_6_code 256 = .ok (.iload_n 0, 1) := by decide +kernel
theorem d23_257 : decode method_6_code 257 = .ok (.castore, 1) := by decide +kernel
theorem d23_258 : decode method_6_code 258 = .ok (.dup, 1) := by decide +kernel
theorem d23_259 : decode method_6_code 259 = .ok (.bipush 52, 2) := by decide +kernel
theorem d23_261 : decode method_6_code 261 = .ok (.iload_n 0, 1) := by decide +kernel
theorem d23_262 : decode method_6_code 262 = .ok (.castore, 1) := by decide +kernel
theorem d23_263 : decode method_6_code 263 = .ok (.dup, 1) := by decide +kernel
theorem d23_264 : decode method_6_code 264 = .ok (.bipush 53, 2) := by decide +kernel
theorem d23_266 : decode method_6_code 266 = .ok (.iload_n 0, 1) := by decide +kernel
theorem d23_267 : decode method_6_code 267 = .ok (.castore, 1) := by decide +kernel
theorem d23_268 : decode method_6_code 268 = .ok (.dup, 1) := by decide +kernel
theorem d23_269 : decode method_6_code 269 = .ok (.bipush 54, 2) := by decide +kernel
theorem d23_271 : decode method_6_code 271 = .ok (.iload_n 0, 1) := by decide +kernel
theorem d23_272 : decode method_6_code 272 = .ok (.castore, 1) := by decide +kernel
theorem d23_273 : decode method_6_code 273 = .ok (.dup, 1) := by decide +kernel
theorem d23_274 : decode method_6_code 274 = .ok (.bipush 55, 2) := by decide +kernel
theorem d23_276 : decode method_6_code 276 = .ok (.iload_n 0, 1) := by decide +kernel
theorem d23_277 : decode method_6_code 277 = .ok (.castore, 1) := by decide +kernel
theorem d23_278 : decode method_6_code 278 = .ok (.dup, 1) := by decide +kernel
theorem d23_279 : decode method_6_code 279 = .ok (.bipush 56, 2) := by decide +kernel
theorem d23_281 : decode method_6_code 281 = .ok (.iload_n 0, 1) := by decide +kernel
theorem d23_282 : decode method_6_code 282 = .ok (.castore, 1) := by decide +kernel
theorem d23_283 : decode method_6_code 283 = .ok (.dup, 1) := by decide +kernel
theorem d23_284 : decode method_6_code 284 = .ok (.bipush 57, 2) := by decide +kernel
theorem d23_286 : decode method_6_code 286 = .ok (.iload_n 0, 1) := by decide +kernel
theorem d23_287 : decode method_6_code 287 = .ok (.castore, 1) := by decide +kernel
theorem d23_288 : decode method_6_code 288 = .ok (.dup, 1) := by decide +kernel
theorem d23_289 : decode method_6_code 289 = .ok (.bipush 58, 2) := by decide +kernel
theorem d23_291 : decode method_6_code 291 = .ok (.iload_n 0, 1) := by decide +kernel
theorem d23_292 : decode method_6_code 292 = .ok (.castore, 1) := by decide +kernel
theorem d23_293 : decode method_6_code 293 = .ok (.dup, 1) := by decide +kernel
theorem d23_294 : decode method_6_code 294 = .ok (.bipush 59, 2) := by decide +kernel
theorem d23_296 : decode method_6_code 296 = .ok (.iload_n 0, 1) := by decide +kernel
theorem d23_297 : decode method_6_code 297 = .ok (.castore, 1) := by decide +kernel
theorem d23_298 : decode method_6_code 298 = .ok (.dup, 1) := by decide +kernel
theorem d23_299 : decode method_6_code 299 = .ok (.bipush 60, 2) := by decide +kernel
theorem d23_301 : decode method_6_code 301 = .ok (.iload_n 0, 1) := by decide +kernel
theorem d23_302 : decode method_6_code 302 = .ok (.castore, 1) := by decide +kernel
theorem d23_303 : decode method_6_code 303 = .ok (.dup, 1) := by decide +kernel
theorem d23_304 : decode method_6_code 304 = .ok (.bipush 61, 2) := by decide +kernel
theorem d23_306 : decode method_6_code 306 = .ok (.iload_n 0, 1) := by decide +kernel
theorem d23_307 : decode method_6_code 307 = .ok (.castore, 1) := by decide +kernel
theorem d23_308 : decode method_6_code 308 = .ok (.dup, 1) := by decide +kernel
theorem d23_309 : decode method_6_code 309 = .ok (.bipush 62, 2) := by decide +kernel
theorem d23_311 : decode method_6_code 311 = .ok (.iload_n 0, 1) := by decide +kernel
theorem d23_312 : decode method_6_code 312 = .ok (.castore, 1) := by decide +kernel
theorem d23_313 : decode method_6_code 313 = .ok (.dup, 1) := by decide +kernel
theorem d23_314 : decode method_6_code 314 = .ok (.bipush 63, 2) := by decide +kernel
theorem d23_316 : decode method_6_code 316 = .ok (.iload_n 0, 1) := by decide +kernel
theorem d23_317 : decode method_6_code 317 = .ok (.castore, 1) := by decide +kernel
theorem d23_318 : decode method_6_code 318 = .ok (.dup, 1) := by decide +kernel
theorem d23_319 : decode method_6_code 319 = .ok (.bipush 64, 2) := by decide +kernel
theorem d23_321 : decode method_6_code 321 = .ok (.iload_n 0, 1) := by decide +kernel
theorem d23_322 : decode method_6_code 322 = .ok (.castore, 1) := by decide +kernel
theorem d23_323 : decode method_6_code 323 = .ok (.areturn, 1) := by decide +kernel
theorem d24_0 : decode prog_18_method_8_code 0 = .ok (.aload_n 0, 1) := by decide +kernel
theorem d24_1 : decode prog_18_method_8_code 1 = .ok (.invokevirtual 156, 3) := by decide +kernel
theorem pd__28__29_I : parseMethodDescriptor "()I" = some ⟨[], some .int⟩ := by decide +kernel
theorem d24_4 : decode prog_18_method_8_code 4 = .ok (.bipush 64, 2) := by decide +kernel
theorem d24_6 : decode prog_18_method_8_code 6 = .ok (.if_icmp .ne 7, 3) := by decide +kernel
theorem d24_14 : decode prog_18_method_8_code 14 = .ok (.istore_n 1, 1) := by decide +kernel
theorem d24_15 : decode prog_18_method_8_code 15 = .ok (.iconst 0, 1) := by decide +kernel
theorem d24_16 : decode prog_18_method_8_code 16 = .ok (.istore_n 2, 1) := by decide +kernel
theorem d24_17 : decode prog_18_method_8_code 17 = .ok (.iload_n 2, 1) := by decide +kernel
theorem d24_18 : decode prog_18_method_8_code 18 = .ok (.aload_n 0, 1) := by decide +kernel
theorem d24_19 : decode prog_18_method_8_code 19 = .ok (.invokevirtual 156, 3) := by decide +kernel
theorem d24_22 : decode prog_18_method_8_code 22 = .ok (.if_icmp .ge 37, 3) := by decide +kernel
theorem d24_59 : decode prog_18_method_8_code 59 = .ok (.iload_n 1, 1) := by decide +kernel
theorem d24_60 : decode prog_18_method_8_code 60 = .ok (.ifCond .lt 7, 3) := by decide +kernel
theorem d24_67 : decode prog_18_method_8_code 67 = .ok (.iconst 0, 1) := by decide +kernel
theorem d24_68 : decode prog_18_method_8_code 68 = .ok (.ireturn, 1) := by decide +kernel
theorem d24_63 : decode prog_18_method_8_code 63 = .ok (.iconst 1, 1) := by decide +kernel
theorem d24_64 : decode prog_18_method_8_code 64 = .ok (.goto 4, 3) := by decide +kernel
theorem d24_25 : decode prog_18_method_8_code 25 = .ok (.aload_n 0, 1) := by decide +kernel
theorem d24_26 : decode prog_18_method_8_code 26 = .ok (.iload_n 2, 1) := by decide +kernel
theorem d24_27 : decode prog_18_method_8_code 27 = .ok (.invokevirtual 160, 3) := by decide +kernel
theorem pd__28_I_29_C : parseMethodDescriptor "(I)C" = some ⟨[.int], some .char⟩ := by decide +kernel
theorem d24_30 : decode prog_18_method_8_code 30 = .ok (.istore_n 3, 1) := by decide +kernel
theorem d24_31 : decode prog_18_method_8_code 31 = .ok (.iload_n 1, 1) := by decide +kernel
theorem d24_32 : decode prog_18_method_8_code 32 = .ok (.iload_n 3, 1) := by decide +kernel
theorem d24_33 : decode prog_18_method_8_code 33 = .ok (.bipush 48, 2) := by decide +kernel
theorem d24_35 : decode prog_18_method_8_code 35 = .ok (.isub, 1) := by decide +kernel
theorem d24_36 : decode prog_18_method_8_code 36 = .ok (.bipush 57, 2) := by decide +kernel
theorem d24_38 : decode prog_18_method_8_code 38 = .ok (.iload_n 3, 1) := by decide +kernel
theorem d24_39 : decode prog_18_method_8_code 39 = .ok (.isub, 1) := by decide +kernel
theorem d24_40 : decode prog_18_method_8_code 40 = .ok (.ior, 1) := by decide +kernel
theorem d24_41 : decode prog_18_method_8_code 41 = .ok (.iload_n 3, 1) := by decide +kernel
theorem d24_42 : decode prog_18_method_8_code 42 = .ok (.bipush 97, 2) := by decide +kernel
theorem d24_44 : decode prog_18_method_8_code 44 = .ok (.isub, 1) := by decide +kernel
theorem d24_45 : decode prog_18_method_8_code 45 = .ok (.bipush 102, 2) := by decide +kernel
theorem d24_47 : decode prog_18_method_8_code 47 = .ok (.iload_n 3, 1) := by decide +kernel
theorem d24_48 : decode prog_18_method_8_code 48 = .ok (.isub, 1) := by decide +kernel
theorem d24_49 : decode prog_18_method_8_code 49 = .ok (.ior, 1) := by decide +kernel
theorem d24_50 : decode prog_18_method_8_code 50 = .ok (.iand, 1) := by decide +kernel
theorem d24_51 : decode prog_18_method_8_code 51 = .ok (.ior, 1) := by decide +kernel
theorem d24_52 : decode prog_18_method_8_code 52 = .ok (.istore_n 1, 1) := by decide +kernel
theorem d24_53 : decode prog_18_method_8_code 53 = .ok (.iinc 2 1, 3) := by decide +kernel
theorem d24_56 : decode prog_18_method_8_code 56 = .ok (.goto (-39), 3) := by decide +kernel
theorem d24_13 : decode prog_18_method_8_code 13 = .ok (.iconst (-1), 1) := by decide +kernel
theorem d24_9 : decode prog_18_method_8_code 9 = .ok (.iconst 0, 1) := by decide +kernel
theorem d24_10 : decode prog_18_method_8_code 10 = .ok (.goto 4, 3) := by decide +kernel
theorem pn_com_example_halysis_halysis_LogRecord : plainName "com/example/halysis/halysis/LogRecord" = true := by first | (simp [plainName, overriddenIn]; done) | decide +kernel
theorem pd__28__5b_C_29_V : parseMethodDescriptor "([C)V" = some ⟨[(.array .char)], none⟩ := by decide +kernel
theorem pd__28_Ljava_2f_lang_2f_String_3b__29_Z : parseMethodDescriptor "(Ljava/lang/String;)Z" = some ⟨[(.object "java/lang/String")], some .boolean⟩ := by decide +kernel
theorem pd__28_C_29_Z : parseMethodDescriptor "(C)Z" = some ⟨[.char], some .boolean⟩ := by decide +kernel
theorem pd__28_C_29__5b_C : parseMethodDescriptor "(C)[C" = some ⟨[.char], some (.array .char)⟩ := by decide +kernel
set_option maxRecDepth 65536 in
set_option maxHeartbeats 40000000 in
theorem c_cfal  (B : Base Z a0) {h : Heap} {d : Nat} {n cd : Int32} {cs : List Int32} {vs : List Value} (Ad : Ary Z h d .byte vs) (cod : Codes cs cd vs) (hn : n.toInt = cs.length) (h0 : 0 < n.toInt) : Con l Z a0 EL it n0 (⟨"java/lang/StringUTF16", "coderFromArrayLen", "([BI)B"⟩ : MethodName) 1 13 0 0 #[.ref d, .int n] h [] (fun v h' => v = some (.int cd) ∧ h = h') := by
  refine Met.con (bytes := jdk_52_method_15_code) (maxL := 2) (ret := (some .byte)) (rm := ({ frames := 0, cells := 0, slots := 0, locals := 0 } : Room)) (Met.of (own := "java/lang/StringUTF16") (nm := "coderFromArrayLen") #[.val (.ref d), .val (.int n)] (ew B) rfl rfl (plainFor_of_name pn_java_lang_StringUTF16) (fun m => by first | (simp [entryFrame, mkF, argsToLocals, Value.category]; done) | rfl) fun K C => ?_) (B.1 _ (List.mem_of_getElem? (i := 26) rfl)) (B.1 _ (List.mem_of_getElem? (i := 18) rfl)) rfl rfl rfl rfl
  have lA := Ad.len
  have em : (Int32.ofNat vs.length).toInt = vs.length := ofNat_int lA
  refine C.iloadN d0_0 rfl ?_
  refine C.aloadN d0_1 rfl rfl ?_
  refine C.alen (n := (Int32.ofNat vs.length)) Ad em d0_2 ?_
  refine C.isub d0_3 ?_
  refine C.bipush (v := (31 : Int32)) d0_4 (by first | rfl | decide) ?_
  refine C.iushr d0_6 ?_
  refine C.i2b d0_7 ?_
  refine C.topI (show ((n - (Int32.ofNat vs.length)).toUInt32 >>> ((31 : Int32) &&& 31).toUInt32).toInt32.toInt8.toInt32 = cd by exact cfal_eq cod hn h0 lA) ?_
  exact C.ireturn (t := .byte) rfl (by simp) (by rcases cod.cd with rfl | rfl <;> rfl) d0_8 (by decide) (by decide) ⟨rfl, rfl⟩
set_option maxRecDepth 65536 in
set_option maxHeartbeats 40000000 in
theorem c_cmp5  (B : Base Z a0) {h : Heap} {b d : Nat} {n : Int32} {cs : List Int32} (Ab : Ary Z h b .char (cs.map Value.int)) (Ad : Ary Z h d .byte (List.replicate cs.length (.int 0))) (nbd : b ≠ d) (hn : n.toInt = cs.length) (hp : (∀ c ∈ cs, 0 ≤ c.toInt ∧ c.toInt < 65536)) : Con l Z a0 EL it n0 (⟨"java/lang/StringUTF16", "compress", "([CI[BII)I"⟩ : MethodName) 1 18 0 0 #[.ref b, .int (0 : Int32), .ref d, .int (0 : Int32), .int n] h [d] (fun v h' => (v = some (.int n) ∧ (∀ c ∈ cs, c.toInt < 256) ∧ Ary Z h' d .byte (cs.map fun c => Value.int (lo8 c))) ∨ ∃ (k : Nat) (c : Int32), v = some (.int (Int32.ofNat k)) ∧ cs[k]? = some c ∧ 255 < c.toInt) := by
  refine Met.con (bytes := jdk_52_method_21_code) (maxL := 7) (ret := (some .int)) (rm := ({ frames := 0, cells := 0, slots := 0, locals := 0 } : Room)) (Met.of (own := "java/lang/StringUTF16") (nm := "compress") #[.val (.ref b), .val (.int (0 : Int32)), .val (.ref d), .val (.int (0 : Int32)), .val (.int n), .unset, .unset] (ew B) rfl rfl (plainFor_of_name pn_java_lang_StringUTF16) (fun m => by first | (simp [entryFrame, mkF, argsToLocals, Value.category]; done) | rfl) fun K C => ?_) (B.1 _ (List.mem_of_getElem? (i := 23) rfl)) (B.1 _ (List.mem_of_getElem? (i := 18) rfl)) rfl rfl rfl rfl
  have hlen := Ab.len
  rw [List.length_map] at hlen
  have k255 : (255 : Int32).toInt = 255 := by decide
  refine C.iconst (v := (0 : Int32)) d1_0 (by first | rfl | decide) ?_
  refine C.istore #[.val (.ref b), .val (.int (0 : Int32)), .val (.ref d), .val (.int (0 : Int32)), .val (.int n), .val (.int (0 : Int32)), .unset] d1_1 rfl ?_
  suffices LOOP : ∀ (j k : Nat) (h1 : Heap) (s6 : Slot), j + k = cs.length → One s6 → (∀ c ∈ cs.take k, c.toInt < 256) → Ary Z h1 b .char (cs.map Value.int) → Ary Z h1 d .byte ((cs.take k).map (fun c => Value.int (lo8 c)) ++ List.replicate j (.int 0)) → C.W h1 [d] 0 0 (mkF K.m 3 #[.val (.ref b), .val (.int (Int32.ofNat k)), .val (.ref d), .val (.int (Int32.ofNat k)), .val (.int n), .val (.int (Int32.ofNat k)), s6] []) from LOOP cs.length 0 h .unset (by omega) One.u (by simp) Ab Ad
  intro j
  induction j with
  | zero =>
    intro k h1 s6 hjk h6 hlt Ab Ad
    have ek : (Int32.ofNat k).toInt = k := ofNat_int (by omega)
    refine C.iload d1_3 rfl ?_
    refine C.iload d1_5 rfl ?_
    refine C.icmp_ge 44 d1_7 (by decide) (by decide) (fun q1 => ?_) (fun q1 => ?_)
    · refine C.iload d1_44 rfl ?_
      have ek2 : cs.take k = cs := List.take_of_length_le (by omega)
      rw [ek2] at Ad hlt
      exact C.ireturn (t := .int) rfl (by simp) rfl d1_46 (by decide) (by decide) (Or.inl ⟨rfl, hlt, by simpa using Ad⟩)
    · exfalso; omega
  | succ j ih =>
    intro k h1 s6 hjk h6 hlt Ab Ad
    have ek : (Int32.ofNat k).toInt = k := ofNat_int (by omega)
    refine C.iload d1_3 rfl ?_
    refine C.iload d1_5 rfl ?_
    refine C.icmp_ge 44 d1_7 (by decide) (by decide) (fun q2 => ?_) (fun q2 => ?_)
    · exfalso; omega
    · obtain ⟨c, hc⟩ : ∃ c, cs[k]? = some c := ⟨_, List.getElem?_eq_getElem (by omega)⟩
      have hcb := hp c (List.mem_of_getElem? hc)
      refine C.aloadN d1_10 rfl rfl ?_
      refine C.iloadN d1_11 rfl ?_
      refine C.caload (x := c) k Ab ek (by simp [hc]) d1_12 ?_
      refine C.istore #[.val (.ref b), .val (.int (Int32.ofNat k)), .val (.ref d), .val (.int (Int32.ofNat k)), .val (.int n), .val (.int (Int32.ofNat k)), .val (.int c)] d1_13 (XS.store1 rfl h6 rfl) ?_
      refine C.iload d1_15 rfl ?_
      refine C.sipush (v := (255 : Int32)) d1_17 (by first | rfl | decide) ?_
      refine C.icmp_le 26 d1_20 (by decide) (by decide) (fun q3 => ?_) (fun q3 => ?_)
      · refine C.aloadN d1_26 rfl rfl ?_
        refine C.iloadN d1_27 rfl ?_
        refine C.iload d1_28 rfl ?_
        refine C.i2b d1_30 ?_
        refine C.bastore k Ad ek (by simp; omega) d1_31 (List.mem_of_getElem? (i := 0) rfl) fun h4 z4 K4 Aw4 => ?_
        show C.W h4 [d] 0 0 (mkF K.m 32 #[.val (.ref b), .val (.int (Int32.ofNat k)), .val (.ref d), .val (.int (Int32.ofNat k)), .val (.int n), .val (.int (Int32.ofNat k)), .val (.int c)] [])
        have A4' : Ary Z h4 d .byte ((cs.take (k + 1)).map (fun c => Value.int (lo8 c)) ++ List.replicate j (.int 0)) := by
          rw [lo8_lo8] at Aw4
          rwa [← fill_step (fun c => Value.int (lo8 c)) (.int 0) hc]
        refine C.iinc (z := (1 : Int32)) #[.val (.ref b), .val (.int ((Int32.ofNat k) + (1 : Int32))), .val (.ref d), .val (.int (Int32.ofNat k)), .val (.int n), .val (.int (Int32.ofNat k)), .val (.int c)] d1_32 rfl (by first | rfl | decide) rfl ?_
        refine C.iinc (z := (1 : Int32)) #[.val (.ref b), .val (.int ((Int32.ofNat k) + (1 : Int32))), .val (.ref d), .val (.int ((Int32.ofNat k) + (1 : Int32))), .val (.int n), .val (.int (Int32.ofNat k)), .val (.int c)] d1_35 rfl (by first | rfl | decide) rfl ?_
        refine C.iinc (z := (1 : Int32)) #[.val (.ref b), .val (.int ((Int32.ofNat k) + (1 : Int32))), .val (.ref d), .val (.int ((Int32.ofNat k) + (1 : Int32))), .val (.int n), .val (.int ((Int32.ofNat k) + (1 : Int32))), .val (.int c)] d1_38 rfl (by first | rfl | decide) rfl ?_
        refine C.goto 3 d1_41 (by decide) (by decide) ?_
        rw [ofNat_succ]
        exact ih (k + 1) h4 _ (by omega) (One.val rfl) (take_all hlt hc (by omega)) (Ab.keep K4 (ninS nbd nin0)) A4'
      · refine C.iload d1_23 rfl ?_
        exact C.ireturn (t := .int) rfl (by simp) rfl d1_25 (by decide) (by decide) (Or.inr ⟨k, c, rfl, hc, by omega⟩)
set_option maxRecDepth 65536 in
set_option maxHeartbeats 40000000 in
theorem c_nbl  (B : Base Z a0) {h : Heap} {n : Int32} (hn : 0 ≤ n.toInt ∧ n.toInt ≤ 4000) : Con l Z a0 EL it n0 (⟨"java/lang/StringUTF16", "newBytesLength", "(I)I"⟩ : MethodName) 1 12 0 0 #[.int n] h [] (fun v h' => ∃ m : Int32, v = some (.int m) ∧ m.toInt = 2 * n.toInt ∧ h = h') := by
  refine Met.con (bytes := jdk_52_method_3_code) (maxL := 1) (ret := (some .int)) (rm := ({ frames := 0, cells := 0, slots := 0, locals := 0 } : Room)) (Met.of (own := "java/lang/StringUTF16") (nm := "newBytesLength") #[.val (.int n)] (ew B) rfl rfl (plainFor_of_name pn_java_lang_StringUTF16) (fun m => by first | (simp [entryFrame, mkF, argsToLocals, Value.category]; done) | rfl) fun K C => ?_) (B.1 _ (List.mem_of_getElem? (i := 85) rfl)) (B.1 _ (List.mem_of_getElem? (i := 18) rfl)) rfl rfl rfl rfl
  have kM : (1073741823 : Int32).toInt = 1073741823 := by decide
  refine C.iloadN d2_0 rfl ?_
  refine C.ifc_ge 12 d2_1 (by decide) (by decide) (fun q1 => ?_) (fun q1 => ?_)
  · refine C.iloadN d2_12 rfl ?_
    refine C.ldcInt (v := (1073741823 : Int32)) (B.1 _ (List.mem_of_getElem? (i := 86) rfl)) d2_13 ?_
    refine C.icmp_lt 55 d2_15 (by decide) (by decide) (fun q2 => ?_) (fun q2 => ?_)
    · refine C.iloadN d2_55 rfl ?_
      refine C.iconst (v := (1 : Int32)) d2_56 (by first | rfl | decide) ?_
      refine C.ishl d2_57 ?_
      exact C.ireturn (t := .int) rfl (by simp) rfl d2_58 (by decide) (by decide) ⟨_, rfl, shl1 (by omega) (by omega), rfl⟩
    · exfalso; omega
  · exfalso; omega
set_option maxRecDepth 65536 in
set_option maxHeartbeats 40000000 in
theorem c_nbf  (B : Base Z a0) {h : Heap} {n : Int32} {k : Nat} (hn : n.toInt = k) (hk : k ≤ 65) : Con l Z a0 EL it n0 (⟨"java/lang/StringUTF16", "newBytesFor", "(I)[B"⟩ : MethodName) 2 24 1 130 #[.int n] h [] (fun v h' => ∃ d : Nat, v = some (.ref d) ∧ h.size ≤ d ∧ d < h'.size ∧ n0 ≤ d ∧ Ary Z h' d .byte (List.replicate (2 * k) (.int 0))) := by
  refine Met.con (bytes := jdk_52_method_2_code) (maxL := 1) (ret := (some (.array .byte))) (rm := ({ frames := 1, cells := 1, slots := 130, locals := 12 } : Room)) (Met.of (own := "java/lang/StringUTF16") (nm := "newBytesFor") #[.val (.int n)] (ew B) rfl rfl (plainFor_of_name pn_java_lang_StringUTF16) (fun m => by first | (simp [entryFrame, mkF, argsToLocals, Value.category]; done) | rfl) fun K C => ?_) (B.1 _ (List.mem_of_getElem? (i := 82) rfl)) (B.1 _ (List.mem_of_getElem? (i := 18) rfl)) rfl rfl rfl rfl
  refine C.iloadN d3_0 rfl ?_
  refine C.callS [.int n] [] 0 (B.1 _ (List.mem_of_getElem? (i := 83) rfl)) (B.1 _ (List.mem_of_getElem? (i := 84) rfl)) (B.1 _ (List.mem_of_getElem? (i := 18) rfl)) (B.1 _ (List.mem_of_getElem? (i := 85) rfl)) (by decide) pd__28_I_29_I rfl id (c_nbl B (n := n) (by omega)) d3_1 rfl rfl rfl (by decide) (by decide) (by decide) (by decide) all0 fun v1 h1 z1 K1 q1 => ?_
  obtain ⟨m, rfl, hm, rfl⟩ := q1
  show C.W h [] 0 0 (mkF K.m 4 #[.val (.int n)] [.int m])
  refine C.newarr (2 * k) 130 (B.1 _ (List.mem_of_getElem? (i := 20) rfl)) d3_4 (by omega) (by omega) (by decide) (by decide) (by decide) fun h2 a3 g2 z2 o2 K2 An2 => ?_
  show C.W h2 [a3] 1 130 (mkF K.m 6 #[.val (.int n)] [.ref a3])
  exact C.areturn rfl rfl rfl d3_6 (by decide) (by decide) ⟨a3, rfl, by omega, by omega, o2, An2⟩
set_option maxRecDepth 65536 in
set_option maxHeartbeats 40000000 in
theorem c_putChar  (B : Base Z a0) {h : Heap} {d k : Nat} {i c : Int32} {vs : List Value} (Ad : Ary Z h d .byte vs) (hi : i.toInt = k) (hk : 2 * k + 1 < vs.length) : Con l Z a0 EL it n0 (⟨"java/lang/StringUTF16", "putChar", "([BII)V"⟩ : MethodName) 1 14 0 0 #[.ref d, .int i, .int c] h [d] (fun v h' => v = none ∧ Ary Z h' d .byte ((vs.set (2 * k) (.int (lo8 c))).set (2 * k + 1) (.int (hi8 c)))) := by
  refine Met.con (bytes := jdk_52_method_4_code) (maxL := 3) (ret := none) (rm := ({ frames := 0, cells := 0, slots := 0, locals := 0 } : Room)) (Met.of (own := "java/lang/StringUTF16") (nm := "putChar") #[.val (.ref d), .val (.int i), .val (.int c)] (ew B) rfl rfl (plainFor_of_name pn_java_lang_StringUTF16) (fun m => by first | (simp [entryFrame, mkF, argsToLocals, Value.category]; done) | rfl) fun K C => ?_) (B.1 _ (List.mem_of_getElem? (i := 89) rfl)) (B.1 _ (List.mem_of_getElem? (i := 18) rfl)) rfl rfl rfl rfl
  have lA := Ad.len
  have k1 : (1 : Int32).toInt = 1 := rfl
  have e2 := shl1 (x := i) (by omega) (by omega)
  have e3 : ((i <<< ((1 : Int32) &&& 31)) + (1 : Int32)).toInt = 2 * k + 1 := by rw [add_int (by omega) (by omega)]; omega
  refine C.getS (B.1 _ (List.mem_of_getElem? (i := 90) rfl)) Via.refl B.2.2.2.1 d4_0 ?_
  refine C.ifc_ne 28 d4_3 (by decide) (by decide) (fun q1 => ?_) (fun q1 => ?_)
  · refine C.iloadN d4_28 rfl ?_
    refine C.iconst (v := (1 : Int32)) d4_29 (by first | rfl | decide) ?_
    refine C.ishl d4_30 ?_
    refine C.istoreN #[.val (.ref d), .val (.int (i <<< ((1 : Int32) &&& 31))), .val (.int c)] d4_31 rfl ?_
    refine C.aloadN d4_32 rfl rfl ?_
    refine C.iloadN d4_33 rfl ?_
    refine C.iinc (z := (1 : Int32)) #[.val (.ref d), .val (.int ((i <<< ((1 : Int32) &&& 31)) + (1 : Int32))), .val (.int c)] d4_34 rfl (by first | rfl | decide) rfl ?_
    refine C.iloadN d4_37 rfl ?_
    refine C.getS (B.1 _ (List.mem_of_getElem? (i := 91) rfl)) Via.refl B.2.2.2.2.1 d4_38 ?_
    refine C.ishr d4_41 ?_
    refine C.topI (show (c >>> ((0 : Int32) &&& 31)) = c by exact shr0 c) ?_
    refine C.i2b d4_42 ?_
    refine C.bastore (2 * k) Ad (by omega) (by omega) d4_43 (List.mem_of_getElem? (i := 0) rfl) fun h2 z2 K2 Aw2 => ?_
    show C.W h2 [d] 0 0 (mkF K.m 44 #[.val (.ref d), .val (.int ((i <<< ((1 : Int32) &&& 31)) + (1 : Int32))), .val (.int c)] [])
    rw [lo8_lo8] at Aw2
    refine C.aloadN d4_44 rfl rfl ?_
    refine C.iloadN d4_45 rfl ?_
    refine C.iloadN d4_46 rfl ?_
    refine C.getS (B.1 _ (List.mem_of_getElem? (i := 92) rfl)) Via.refl B.2.2.2.2.2 d4_47 ?_
    refine C.ishr d4_50 ?_
    refine C.i2b d4_51 ?_
    refine C.bastore (2 * k + 1) Aw2 (by omega) (by simp; omega) d4_52 (List.mem_of_getElem? (i := 0) rfl) fun h3 z3 K3 Aw3 => ?_
    show C.W h3 [d] 0 0 (mkF K.m 53 #[.val (.ref d), .val (.int ((i <<< ((1 : Int32) &&& 31)) + (1 : Int32))), .val (.int c)] [])
    rw [lo8_lo8] at Aw3
    exact C.return_ rfl d4_53 (by decide) (by decide) ⟨rfl, Aw3⟩
  · exfalso; revert q1; decide
set_option maxRecDepth 65536 in
set_option maxHeartbeats 40000000 in
theorem c_getChar  (B : Base Z a0) {h : Heap} {d k : Nat} {i c : Int32} {cs : List Int32} (Ad : Ary Z h d .byte (wide cs)) (hi : i.toInt = k) (hc : cs[k]? = some c) (hb : 0 ≤ c.toInt ∧ c.toInt < 65536) : Con l Z a0 EL it n0 (⟨"java/lang/StringUTF16", "getChar", "([BI)C"⟩ : MethodName) 1 13 0 0 #[.ref d, .int i] h [] (fun v h' => v = some (.int c) ∧ h = h') := by
  refine Met.con (bytes := jdk_52_method_5_code) (maxL := 2) (ret := (some .char)) (rm := ({ frames := 0, cells := 0, slots := 0, locals := 0 } : Room)) (Met.of (own := "java/lang/StringUTF16") (nm := "getChar") #[.val (.ref d), .val (.int i)] (ew B) rfl rfl (plainFor_of_name pn_java_lang_StringUTF16) (fun m => by first | (simp [entryFrame, mkF, argsToLocals, Value.category]; done) | rfl) fun K C => ?_) (B.1 _ (List.mem_of_getElem? (i := 95) rfl)) (B.1 _ (List.mem_of_getElem? (i := 18) rfl)) rfl rfl rfl rfl
  have lA := Ad.len
  rw [wide_len] at lA
  have hk : k < cs.length := (List.getElem?_eq_some_iff.mp hc).1
  obtain ⟨g1, g2⟩ := wide_get hc
  have k1 : (1 : Int32).toInt = 1 := rfl
  have e2 := shl1 (x := i) (by omega) (by omega)
  have e3 : ((i <<< ((1 : Int32) &&& 31)) + (1 : Int32)).toInt = 2 * k + 1 := by rw [add_int (by omega) (by omega)]; omega
  refine C.getS (B.1 _ (List.mem_of_getElem? (i := 90) rfl)) Via.refl B.2.2.2.1 d5_0 ?_
  refine C.ifc_ne 28 d5_3 (by decide) (by decide) (fun q1 => ?_) (fun q1 => ?_)
  · refine C.iloadN d5_28 rfl ?_
    refine C.iconst (v := (1 : Int32)) d5_29 (by first | rfl | decide) ?_
    refine C.ishl d5_30 ?_
    refine C.istoreN #[.val (.ref d), .val (.int (i <<< ((1 : Int32) &&& 31)))] d5_31 rfl ?_
    refine C.aloadN d5_32 rfl rfl ?_
    refine C.iloadN d5_33 rfl ?_
    refine C.iinc (z := (1 : Int32)) #[.val (.ref d), .val (.int ((i <<< ((1 : Int32) &&& 31)) + (1 : Int32)))] d5_34 rfl (by first | rfl | decide) rfl ?_
    refine C.baload (x := (lo8 c)) (2 * k) Ad (by omega) g1 d5_37 ?_
    refine C.sipush (v := (255 : Int32)) d5_38 (by first | rfl | decide) ?_
    refine C.iand d5_41 ?_
    refine C.getS (B.1 _ (List.mem_of_getElem? (i := 91) rfl)) Via.refl B.2.2.2.2.1 d5_42 ?_
    refine C.ishl d5_45 ?_
    refine C.aloadN d5_46 rfl rfl ?_
    refine C.iloadN d5_47 rfl ?_
    refine C.baload (x := (hi8 c)) (2 * k + 1) Ad (by omega) g2 d5_48 ?_
    refine C.sipush (v := (255 : Int32)) d5_49 (by first | rfl | decide) ?_
    refine C.iand d5_52 ?_
    refine C.getS (B.1 _ (List.mem_of_getElem? (i := 92) rfl)) Via.refl B.2.2.2.2.2 d5_53 ?_
    refine C.ishl d5_56 ?_
    refine C.ior d5_57 ?_
    refine C.i2c d5_58 ?_
    refine C.topI (show ((((lo8 c) &&& (255 : Int32)) <<< ((0 : Int32) &&& 31)) ||| (((hi8 c) &&& (255 : Int32)) <<< ((8 : Int32) &&& 31))).toUInt32.toUInt16.toUInt32.toInt32 = c by exact pair_chr hb.1 hb.2) ?_
    exact C.ireturn (t := .char) rfl (by simp) (nchar hb.1 hb.2) d5_59 (by decide) (by decide) ⟨rfl, rfl⟩
  · exfalso; revert q1; decide
set_option maxRecDepth 65536 in
set_option maxHeartbeats 40000000 in
theorem c_toBytes  (B : Base Z a0) {h : Heap} {b : Nat} {n : Int32} {cs : List Int32} (Ab : Ary Z h b .char (cs.map Value.int)) (hn : n.toInt = cs.length) (hc : cs.length ≤ 65) : Con l Z a0 EL it n0 (⟨"java/lang/StringUTF16", "toBytes", "([CII)[B"⟩ : MethodName) 3 40 1 130 #[.ref b, .int (0 : Int32), .int n] h [] (fun v h' => ∃ d : Nat, v = some (.ref d) ∧ h.size ≤ d ∧ d < h'.size ∧ Ary Z h' d .byte (wide cs)) := by
  refine Met.con (bytes := jdk_52_method_14_code) (maxL := 5) (ret := (some (.array .byte))) (rm := ({ frames := 2, cells := 1, slots := 130, locals := 24 } : Room)) (Met.of (own := "java/lang/StringUTF16") (nm := "toBytes") #[.val (.ref b), .val (.int (0 : Int32)), .val (.int n), .unset, .unset] (ew B) rfl rfl (plainFor_of_name pn_java_lang_StringUTF16) (fun m => by first | (simp [entryFrame, mkF, argsToLocals, Value.category]; done) | rfl) fun K C => ?_) (B.1 _ (List.mem_of_getElem? (i := 79) rfl)) (B.1 _ (List.mem_of_getElem? (i := 18) rfl)) rfl rfl rfl rfl
  have lb := Ab.lt
  refine C.iloadN d6_0 rfl ?_
  refine C.callSo [.int n] [] 0 (B.1 _ (List.mem_of_getElem? (i := 80) rfl)) (B.1 _ (List.mem_of_getElem? (i := 81) rfl)) (B.1 _ (List.mem_of_getElem? (i := 18) rfl)) (B.1 _ (List.mem_of_getElem? (i := 82) rfl)) (by decide) pd__28_I_29__5b_B rfl (c_nbf (it := False) B hn hc) d6_1 rfl rfl rfl (by decide) (by decide) (by decide) (by decide) all0 fun v1 h1 z1 K1 q1 => ?_
  obtain ⟨d, rfl, ld, lt, nd, Ad⟩ := q1
  refine ⟨[d], fun x hx => by cases List.mem_singleton.mp hx; exact ⟨ld, lt⟩, ?_⟩
  show C.W h1 [d] 1 130 (mkF K.m 4 #[.val (.ref b), .val (.int (0 : Int32)), .val (.int n), .unset, .unset] [.ref d])
  refine C.astoreN #[.val (.ref b), .val (.int (0 : Int32)), .val (.int n), .val (.ref d), .unset] d6_4 rfl rfl ?_
  refine C.iconst (v := (0 : Int32)) d6_5 (by first | rfl | decide) ?_
  refine C.istore #[.val (.ref b), .val (.int (0 : Int32)), .val (.int n), .val (.ref d), .val (.int (0 : Int32))] d6_6 rfl ?_
  have Ab_2 := (Ab.keep K1 nin0)
  suffices LOOP : ∀ (j k : Nat) (hL : Heap), j + k = cs.length → h1.size ≤ hL.size → Ary Z hL b .char (cs.map Value.int) → Ary Z hL d .byte (wide (cs.take k) ++ List.replicate (2 * j) (.int 0)) → C.W hL [d] 1 130 (mkF K.m 8 #[.val (.ref b), .val (.int (Int32.ofNat k)), .val (.int n), .val (.ref d), .val (.int (Int32.ofNat k))] []) from LOOP cs.length 0 h1 (by omega) (Nat.le_refl _) Ab_2 Ad
  intro j
  induction j with
  | zero =>
    intro k hL hjk hsz Ab Ad
    have ek : (Int32.ofNat k).toInt = k := ofNat_int (by omega)
    refine C.iload d6_8 rfl ?_
    refine C.iloadN d6_10 rfl ?_
    refine C.icmp_ge 32 d6_11 (by decide) (by decide) (fun q3 => ?_) (fun q3 => ?_)
    · refine C.aloadN d6_32 rfl rfl ?_
      rw [List.take_of_length_le (by omega)] at Ad
      exact C.areturn rfl rfl rfl d6_33 (by decide) (by decide) ⟨d, rfl, ld, by omega, by simpa using Ad⟩
    · exfalso; omega
  | succ j ih =>
    intro k hL hjk hsz Ab Ad
    have ek : (Int32.ofNat k).toInt = k := ofNat_int (by omega)
    refine C.iload d6_8 rfl ?_
    refine C.iloadN d6_10 rfl ?_
    refine C.icmp_ge 32 d6_11 (by decide) (by decide) (fun q4 => ?_) (fun q4 => ?_)
    · exfalso; omega
    · obtain ⟨c, hc⟩ : ∃ c, cs[k]? = some c := ⟨_, List.getElem?_eq_getElem (by omega)⟩
      refine C.aloadN d6_14 rfl rfl ?_
      refine C.iload d6_15 rfl ?_
      refine C.aloadN d6_17 rfl rfl ?_
      refine C.iloadN d6_18 rfl ?_
      refine C.caload (x := c) k Ab ek (by simp [hc]) d6_19 ?_
      refine C.callS [.ref d, .int (Int32.ofNat k), .int c] [] 0 (B.1 _ (List.mem_of_getElem? (i := 87) rfl)) (B.1 _ (List.mem_of_getElem? (i := 88) rfl)) (B.1 _ (List.mem_of_getElem? (i := 18) rfl)) (B.1 _ (List.mem_of_getElem? (i := 89) rfl)) (by decide) pd__28__5b_BII_29_V rfl id (c_putChar B (c := c) Ad ek (by simp [wide_len]; omega)) d6_20 rfl rfl rfl (by decide) (by decide) (by decide) (by decide) (allS (List.mem_of_getElem? (i := 0) rfl) all0) fun v5 h5 z5 K5 q5 => ?_
      obtain ⟨rfl, Ad5⟩ := q5
      show C.W h5 [d] 1 130 (mkF K.m 23 #[.val (.ref b), .val (.int (Int32.ofNat k)), .val (.int n), .val (.ref d), .val (.int (Int32.ofNat k))] [])
      refine C.iinc (z := (1 : Int32)) #[.val (.ref b), .val (.int ((Int32.ofNat k) + (1 : Int32))), .val (.int n), .val (.ref d), .val (.int (Int32.ofNat k))] d6_23 rfl (by first | rfl | decide) rfl ?_
      refine C.iinc (z := (1 : Int32)) #[.val (.ref b), .val (.int ((Int32.ofNat k) + (1 : Int32))), .val (.int n), .val (.ref d), .val (.int ((Int32.ofNat k) + (1 : Int32)))] d6_26 rfl (by first | rfl | decide) rfl ?_
      refine C.goto 8 d6_29 (by decide) (by decide) ?_
      rw [ofNat_succ]
      rw [wide_step hc] at Ad5
      exact ih (k + 1) h5 (by omega) (by omega) (Ab.keep K5 (ninS (neA (by omega)) nin0)) Ad5
set_option maxRecDepth 65536 in
set_option maxHeartbeats 40000000 in
theorem c_cmp3  (B : Base Z a0) {h : Heap} {b : Nat} {n : Int32} {cs : List Int32} (Ab : Ary Z h b .char (cs.map Value.int)) (hn : n.toInt = cs.length) (hc : cs.length ≤ 65) (hp : (∀ c ∈ cs, 0 ≤ c.toInt ∧ c.toInt < 65536)) : Con l Z a0 EL it n0 (⟨"java/lang/StringUTF16", "compress", "([CII)[B"⟩ : MethodName) 4 57 2 195 #[.ref b, .int (0 : Int32), .int n] h [] (fun v h' => ∃ (d : Nat) (cd : Int32) (vs : List Value), v = some (.ref d) ∧ h.size ≤ d ∧ d < h'.size ∧ Ary Z h' d .byte vs ∧ Codes cs cd vs) := by
  refine Met.con (bytes := jdk_52_method_16_code) (maxL := 6) (ret := (some (.array .byte))) (rm := ({ frames := 3, cells := 2, slots := 195, locals := 40 } : Room)) (Met.of (own := "java/lang/StringUTF16") (nm := "compress") #[.val (.ref b), .val (.int (0 : Int32)), .val (.int n), .unset, .unset, .unset] (ew B) rfl rfl (plainFor_of_name pn_java_lang_StringUTF16) (fun m => by first | (simp [entryFrame, mkF, argsToLocals, Value.category]; done) | rfl) fun K C => ?_) (B.1 _ (List.mem_of_getElem? (i := 19) rfl)) (B.1 _ (List.mem_of_getElem? (i := 18) rfl)) rfl rfl rfl rfl
  have lb := Ab.lt
  have k255 : (255 : Int32).toInt = 255 := by decide
  refine C.iloadN d7_0 rfl ?_
  refine C.newarr cs.length 65 (B.1 _ (List.mem_of_getElem? (i := 20) rfl)) d7_1 hn hc (by decide) (by decide) (by decide) fun h1 a2 g1 z1 o1 K1 An1 => ?_
  show C.W h1 [a2] 1 65 (mkF K.m 3 #[.val (.ref b), .val (.int (0 : Int32)), .val (.int n), .unset, .unset, .unset] [.ref a2])
  refine C.astoreN #[.val (.ref b), .val (.int (0 : Int32)), .val (.int n), .val (.ref a2), .unset, .unset] d7_3 rfl rfl ?_
  refine C.aloadN d7_4 rfl rfl ?_
  refine C.iloadN d7_5 rfl ?_
  refine C.aloadN d7_6 rfl rfl ?_
  refine C.iconst (v := (0 : Int32)) d7_7 (by first | rfl | decide) ?_
  refine C.iloadN d7_8 rfl ?_
  have Ab_3 := (Ab.keep K1 nin0)
  refine C.callS [.ref b, .int (0 : Int32), .ref a2, .int (0 : Int32), .int n] [] 0 (B.1 _ (List.mem_of_getElem? (i := 21) rfl)) (B.1 _ (List.mem_of_getElem? (i := 22) rfl)) (B.1 _ (List.mem_of_getElem? (i := 18) rfl)) (B.1 _ (List.mem_of_getElem? (i := 23) rfl)) (by decide) pd__28__5b_CI_5b_BII_29_I rfl id (c_cmp5 B Ab_3 An1 (neA (by omega)) hn hp) d7_9 rfl rfl rfl (by decide) (by decide) (by decide) (by decide) (allS (List.mem_of_getElem? (i := 0) rfl) all0) fun v4 h4 z4 K4 q4 => ?_
  have hq := q4
  rcases hq with ⟨rfl, hlt, A4⟩ | ⟨k, c, rfl, hk, hgt⟩
  · skip
    show C.W h4 [a2] 1 65 (mkF K.m 12 #[.val (.ref b), .val (.int (0 : Int32)), .val (.int n), .val (.ref a2), .unset, .unset] [.int n])
    refine C.istore #[.val (.ref b), .val (.int (0 : Int32)), .val (.int n), .val (.ref a2), .val (.int n), .unset] d7_12 rfl ?_
    refine C.iload d7_14 rfl ?_
    refine C.iloadN d7_16 rfl ?_
    refine C.icmp_eq 57 d7_17 (by decide) (by decide) (fun q5 => ?_) (fun q5 => ?_)
    · refine C.aloadN d7_57 rfl rfl ?_
      exact C.areturn rfl rfl rfl d7_58 (by decide) (by decide) ⟨a2, 0, _, rfl, by omega, by omega, A4, Or.inl ⟨rfl, rfl, fun c hcm => ⟨(hp c hcm).1, hlt c hcm⟩⟩⟩
    · exfalso; exact absurd rfl q5
  · skip
    show C.W h4 [a2] 1 65 (mkF K.m 12 #[.val (.ref b), .val (.int (0 : Int32)), .val (.int n), .val (.ref a2), .unset, .unset] [.int (Int32.ofNat k)])
    have hkl : k < cs.length := (List.getElem?_eq_some_iff.mp hk).1
    have ek : (Int32.ofNat k).toInt = k := ofNat_int (by omega)
    refine C.istore #[.val (.ref b), .val (.int (0 : Int32)), .val (.int n), .val (.ref a2), .val (.int (Int32.ofNat k)), .unset] d7_12 rfl ?_
    refine C.iload d7_14 rfl ?_
    refine C.iloadN d7_16 rfl ?_
    refine C.icmp_eq 57 d7_17 (by decide) (by decide) (fun q6 => ?_) (fun q6 => ?_)
    · exfalso; omega
    · refine C.aloadN d7_20 rfl rfl ?_
      refine C.iloadN d7_21 rfl ?_
      refine C.iloadN d7_22 rfl ?_
      have Ab_7 := (Ab_3.keep K4 (ninS (neA (by omega)) nin0))
      refine C.callS [.ref b, .int (0 : Int32), .int n] [] 0 (B.1 _ (List.mem_of_getElem? (i := 77) rfl)) (B.1 _ (List.mem_of_getElem? (i := 78) rfl)) (B.1 _ (List.mem_of_getElem? (i := 18) rfl)) (B.1 _ (List.mem_of_getElem? (i := 79) rfl)) (by decide) pd__28__5b_CII_29__5b_B rfl id (c_toBytes B Ab_7 hn hc) d7_23 rfl rfl rfl (by decide) (by decide) (by decide) (by decide) all0 fun v8 h8 z8 K8 q8 => ?_
      obtain ⟨d, rfl, ld, lt, Ad⟩ := q8
      show C.W h8 [a2] 2 195 (mkF K.m 26 #[.val (.ref b), .val (.int (0 : Int32)), .val (.int n), .val (.ref a2), .val (.int (Int32.ofNat k)), .unset] [.ref d])
      refine C.astore #[.val (.ref b), .val (.int (0 : Int32)), .val (.int n), .val (.ref a2), .val (.int (Int32.ofNat k)), .val (.ref d)] d7_26 rfl rfl ?_
      refine C.aload d7_28 rfl rfl ?_
      refine C.iload d7_30 rfl ?_
      refine C.callS [.ref d, .int (Int32.ofNat k)] [] 0 (B.1 _ (List.mem_of_getElem? (i := 93) rfl)) (B.1 _ (List.mem_of_getElem? (i := 94) rfl)) (B.1 _ (List.mem_of_getElem? (i := 18) rfl)) (B.1 _ (List.mem_of_getElem? (i := 95) rfl)) (by decide) pd__28__5b_BI_29_C rfl id (c_getChar B Ad ek hk (hp c (List.mem_of_getElem? hk))) d7_32 rfl rfl rfl (by decide) (by decide) (by decide) (by decide) all0 fun v9 h9 z9 K9 q9 => ?_
      obtain ⟨rfl, rfl⟩ := q9
      show C.W h8 [a2] 2 195 (mkF K.m 35 #[.val (.ref b), .val (.int (0 : Int32)), .val (.int n), .val (.ref a2), .val (.int (Int32.ofNat k)), .val (.ref d)] [.int c])
      refine C.sipush (v := (255 : Int32)) d7_35 (by first | rfl | decide) ?_
      refine C.icmp_gt 54 d7_38 (by decide) (by decide) (fun q10 => ?_) (fun q10 => ?_)
      · refine C.aload d7_54 rfl rfl ?_
        exact C.areturn rfl rfl rfl d7_56 (by decide) (by decide) ⟨d, 1, _, rfl, by omega, by omega, Ad, Or.inr ⟨rfl, rfl, hp, c, List.mem_of_getElem? hk, hgt⟩⟩
      · exfalso; omega
set_option maxRecDepth 65536 in
set_option maxHeartbeats 40000000 in
theorem c_init4  (B : Base Z a0) (hit : it) {h : Heap} {x b : Nat} {n : Int32} {cs : List Int32} {v0 c0 : Value} (Ex : Exa Z h x "java/lang/String") (Fv : Fld Z h x "java/lang/String" "value" "[B" v0) (Fc : Fld Z h x "java/lang/String" "coder" "B" c0) (Ab : Ary Z h b .char (cs.map Value.int)) (hn : n.toInt = cs.length) (hc : cs.length ≤ 65) (hp : (∀ c ∈ cs, 0 ≤ c.toInt ∧ c.toInt < 65536)) : Con l Z a0 EL it n0 (⟨"java/lang/String", "<init>", "([CIILjava/lang/Void;)V"⟩ : MethodName) 5 74 4 195 #[.ref x, .ref b, .int (0 : Int32), .int n, .null] h [x] (fun v h' => v = none ∧ Str Z h' h'.size x cs) := by
  refine Met.con (bytes := jdk_42_method_149_code) (maxL := 6) (ret := none) (rm := ({ frames := 4, cells := 4, slots := 195, locals := 57 } : Room)) (Met.of (own := "java/lang/String") (nm := "<init>") #[.val (.ref x), .val (.ref b), .val (.int (0 : Int32)), .val (.int n), .val .null, .unset] (ew B) rfl rfl (plainFor_of_name pn_java_lang_String) (fun m => by first | (simp [entryFrame, mkF, argsToLocals, Value.category]; done) | rfl) fun K C => ?_) (B.1 _ (List.mem_of_getElem? (i := 11) rfl)) (B.1 _ (List.mem_of_getElem? (i := 4) rfl)) rfl rfl rfl rfl
  obtain ⟨zc, Sc, hzc⟩ := B.2.1
  have lx := exaLt Ex
  have lb := Ab.lt
  refine C.aloadN d8_0 rfl rfl ?_
  refine C.initO 0 (B.1 _ (List.mem_of_getElem? (i := 12) rfl)) (B.1 _ (List.mem_of_getElem? (i := 13) rfl)) (B.1 _ (List.mem_of_getElem? (i := 14) rfl)) d8_1 rfl rfl (by decide) (by decide) ?_
  show C.W h [x] 0 0 (mkF K.m 4 #[.val (.ref x), .val (.ref b), .val (.int (0 : Int32)), .val (.int n), .val .null, .unset] [])
  refine C.iloadN d8_4 rfl ?_
  refine C.ifc_ne 27 d8_5 (by decide) (by decide) (fun q1 => ?_) (fun q1 => ?_)
  · refine C.getS (B.1 _ (List.mem_of_getElem? (i := 15) rfl)) Via.refl Sc d8_27 ?_
    refine C.ifc_eq 58 d8_30 (by decide) (by decide) (fun q2 => ?_) (fun q2 => ?_)
    · exfalso; exact hzc (Int32.toInt_inj.mp q2)
    · refine C.aloadN d8_33 rfl rfl ?_
      refine C.iloadN d8_34 rfl ?_
      refine C.iloadN d8_35 rfl ?_
      refine C.callS [.ref b, .int (0 : Int32), .int n] [] 0 (B.1 _ (List.mem_of_getElem? (i := 16) rfl)) (B.1 _ (List.mem_of_getElem? (i := 17) rfl)) (B.1 _ (List.mem_of_getElem? (i := 18) rfl)) (B.1 _ (List.mem_of_getElem? (i := 19) rfl)) (by decide) pd__28__5b_CII_29__5b_B rfl id (c_cmp3 B Ab hn hc hp) d8_36 rfl rfl rfl (by decide) (by decide) (by decide) (by decide) all0 fun v3 h3 z3 K3 q3 => ?_
      obtain ⟨d3, cd3, vs3, rfl, ld3, lt3, A3, cod3⟩ := q3
      show C.W h3 [x] 2 195 (mkF K.m 39 #[.val (.ref x), .val (.ref b), .val (.int (0 : Int32)), .val (.int n), .val .null, .unset] [.ref d3])
      refine C.astore #[.val (.ref x), .val (.ref b), .val (.int (0 : Int32)), .val (.int n), .val .null, .val (.ref d3)] d8_39 rfl rfl ?_
      refine C.aloadN d8_41 rfl rfl ?_
      refine C.aload d8_42 rfl rfl ?_
      refine C.iloadN d8_44 rfl ?_
      refine C.callS [.ref d3, .int n] [.ref x] 1 (B.1 _ (List.mem_of_getElem? (i := 24) rfl)) (B.1 _ (List.mem_of_getElem? (i := 25) rfl)) (B.1 _ (List.mem_of_getElem? (i := 18) rfl)) (B.1 _ (List.mem_of_getElem? (i := 26) rfl)) (by decide) pd__28__5b_BI_29_B rfl id (c_cfal B A3 cod3 hn (by omega)) d8_45 rfl rfl rfl (by decide) (by decide) (by decide) (by decide) all0 fun v4 h4 z4 K4 q4 => ?_
      obtain ⟨rfl, rfl⟩ := q4
      show C.W h3 [x] 2 195 (mkF K.m 48 #[.val (.ref x), .val (.ref b), .val (.int (0 : Int32)), .val (.int n), .val .null, .val (.ref d3)] [.int cd3, .ref x])
      have Fc_5 := (Fc.keep K3 nin0)
      have Ex_6 := (Ex.keep K3)
      have Fv_7 := (Fv.keep K3 nin0)
      refine C.putF (host := "") (Or.inl (B.1 _ (List.mem_of_getElem? (i := 27) rfl))) Via.refl Fc_5 Ex_6 (Or.inr ⟨(B.1 _ (List.mem_of_getElem? (i := 28) rfl)), rfl, rfl⟩) (B.1 _ (List.mem_of_getElem? (i := 3) rfl)) (ty := .byte) (by decide) (by rcases cod3.cd with e | e <;> rw [e] <;> rfl) (by rcases cod3.cd with e | e <;> rw [e] <;> rfl) d8_48 (List.mem_of_getElem? (i := 0) rfl) fun h8 z8 K8 Ew8 Fw8 Gw8 => ?_
      have Fv_9 := Gw8 (slot_ne (Or.inr (B.1 _ (List.mem_of_getElem? (i := 30) rfl))) (Or.inr (B.1 _ (List.mem_of_getElem? (i := 28) rfl))) (by decide) (t := (.array .byte)) (t' := .byte) (by decide) (by decide)) Fv_7
      show C.W h8 [x] 2 195 (mkF K.m 51 #[.val (.ref x), .val (.ref b), .val (.int (0 : Int32)), .val (.int n), .val .null, .val (.ref d3)] [])
      refine C.aloadN d8_51 rfl rfl ?_
      refine C.aload d8_52 rfl rfl ?_
      refine C.putF (host := "") (Or.inl (B.1 _ (List.mem_of_getElem? (i := 29) rfl))) Via.refl Fv_9 Ew8 (Or.inr ⟨(B.1 _ (List.mem_of_getElem? (i := 30) rfl)), rfl, rfl⟩) (B.1 _ (List.mem_of_getElem? (i := 3) rfl)) (ty := (.array .byte)) (by decide) rfl rfl d8_54 (List.mem_of_getElem? (i := 0) rfl) fun h10 z10 K10 Ew10 Fw10 Gw10 => ?_
      have Fc_11 := Gw10 (slot_ne (Or.inr (B.1 _ (List.mem_of_getElem? (i := 28) rfl))) (Or.inr (B.1 _ (List.mem_of_getElem? (i := 30) rfl))) (by decide) (t := .byte) (t' := (.array .byte)) (by decide) (by decide)) Fw8
      show C.W h10 [x] 2 195 (mkF K.m 57 #[.val (.ref x), .val (.ref b), .val (.int (0 : Int32)), .val (.int n), .val .null, .val (.ref d3)] [])
      have A3_12 := ((A3.keep K8 (ninS (neA (by omega)) nin0)).keep K10 (ninS (neA (by omega)) nin0))
      exact C.return_ rfl d8_57 (by decide) (by decide) ⟨rfl, Ew10, by omega, Nat.le_refl _, d3, _, _, by omega, Fw10, Fc_11, A3_12, cod3⟩
  · have ecs : cs = [] := List.length_eq_zero_iff.mp (by omega)
    refine C.aloadN d8_8 rfl rfl ?_
    refine C.ldcC hit (vs := []) (z := 0) 0 (B.1 _ (List.mem_of_getElem? (i := 67) rfl)) (sA B) (by simp [EL]) ⟨by decide, by first | rfl | decide⟩ (by decide) (by first | rfl | decide) (by decide) (by decide) d8_9 (by decide) (by decide) fun h13 s13 t13 z13 K13 ls13 lt13 ne13 Es13 Cs13 Fs13 As13 => ?_
    have nt13_x := (ne13 x (List.mem_of_getElem? (i := 0) rfl)).2
    have ns13_x := (ne13 x (List.mem_of_getElem? (i := 0) rfl)).1
    show C.W h13 [x] 2 4 (mkF K.m 11 #[.val (.ref x), .val (.ref b), .val (.int (0 : Int32)), .val (.int n), .val .null, .unset] [.ref s13, .ref x])
    refine C.getF (host := "") (Or.inl (B.1 _ (List.mem_of_getElem? (i := 29) rfl))) Via.refl Fs13 d8_11 ?_
    have Fv_14 := (Fv.keep K13 nin0)
    have Ex_15 := (Ex.keep K13)
    have Fc_16 := (Fc.keep K13 nin0)
    refine C.putF (host := "") (Or.inl (B.1 _ (List.mem_of_getElem? (i := 29) rfl))) Via.refl Fv_14 Ex_15 (Or.inr ⟨(B.1 _ (List.mem_of_getElem? (i := 30) rfl)), rfl, rfl⟩) (B.1 _ (List.mem_of_getElem? (i := 3) rfl)) (ty := (.array .byte)) (by decide) rfl rfl d8_14 (List.mem_of_getElem? (i := 0) rfl) fun h17 z17 K17 Ew17 Fw17 Gw17 => ?_
    have Fc_18 := Gw17 (slot_ne (Or.inr (B.1 _ (List.mem_of_getElem? (i := 28) rfl))) (Or.inr (B.1 _ (List.mem_of_getElem? (i := 30) rfl))) (by decide) (t := .byte) (t' := (.array .byte)) (by decide) (by decide)) Fc_16
    show C.W h17 [x] 2 4 (mkF K.m 17 #[.val (.ref x), .val (.ref b), .val (.int (0 : Int32)), .val (.int n), .val .null, .unset] [])
    refine C.aloadN d8_17 rfl rfl ?_
    refine C.ldcC hit (vs := []) (z := 0) 0 (B.1 _ (List.mem_of_getElem? (i := 67) rfl)) (sA B) (by simp [EL]) ⟨by decide, by first | rfl | decide⟩ (by decide) (by first | rfl | decide) (by decide) (by decide) d8_18 (by decide) (by decide) fun h19 s19 t19 z19 K19 ls19 lt19 ne19 Es19 Cs19 Fs19 As19 => ?_
    have nt19_x := (ne19 x (List.mem_of_getElem? (i := 0) rfl)).2
    have ns19_x := (ne19 x (List.mem_of_getElem? (i := 0) rfl)).1
    show C.W h19 [x] 4 8 (mkF K.m 20 #[.val (.ref x), .val (.ref b), .val (.int (0 : Int32)), .val (.int n), .val .null, .unset] [.ref s19, .ref x])
    refine C.getF (host := "") (Or.inl (B.1 _ (List.mem_of_getElem? (i := 27) rfl))) Via.refl Cs19 d8_20 ?_
    have Fc_20 := (Fc_18.keep K19 nin0)
    have Ex_21 := (Ew17.keep K19)
    have Fv_22 := (Fw17.keep K19 nin0)
    refine C.putF (host := "") (Or.inl (B.1 _ (List.mem_of_getElem? (i := 27) rfl))) Via.refl Fc_20 Ex_21 (Or.inr ⟨(B.1 _ (List.mem_of_getElem? (i := 28) rfl)), rfl, rfl⟩) (B.1 _ (List.mem_of_getElem? (i := 3) rfl)) (ty := .byte) (by decide) rfl rfl d8_23 (List.mem_of_getElem? (i := 0) rfl) fun h23 z23 K23 Ew23 Fw23 Gw23 => ?_
    have Fv_24 := Gw23 (slot_ne (Or.inr (B.1 _ (List.mem_of_getElem? (i := 30) rfl))) (Or.inr (B.1 _ (List.mem_of_getElem? (i := 28) rfl))) (by decide) (t := (.array .byte)) (t' := .byte) (by decide) (by decide)) Fv_22
    show C.W h23 [x] 4 8 (mkF K.m 26 #[.val (.ref x), .val (.ref b), .val (.int (0 : Int32)), .val (.int n), .val .null, .unset] [])
    have As13_25 := (((As13.keep K17 (ninS (neA (by omega)) nin0)).keep K19 nin0).keep K23 (ninS (neA (by omega)) nin0))
    exact C.return_ rfl d8_26 (by decide) (by decide) ⟨rfl, Ew23, by omega, Nat.le_refl _, t13, 0, [], by omega, Fv_24, Fw23, As13_25, Or.inl ⟨rfl, by rw [ecs]; rfl, by rw [ecs]; simp⟩⟩
set_option maxRecDepth 65536 in
set_option maxHeartbeats 40000000 in
theorem c_init1  (B : Base Z a0) (hit : it) {h : Heap} {x b : Nat} {cs : List Int32} {v0 c0 : Value} (Ex : Exa Z h x "java/lang/String") (Fv : Fld Z h x "java/lang/String" "value" "[B" v0) (Fc : Fld Z h x "java/lang/String" "coder" "B" c0) (Ab : Ary Z h b .char (cs.map Value.int)) (hc : cs.length ≤ 65) (hp : (∀ c ∈ cs, 0 ≤ c.toInt ∧ c.toInt < 65536)) : Con l Z a0 EL it n0 (⟨"java/lang/String", "<init>", "([C)V"⟩ : MethodName) 6 87 4 195 #[.ref x, .ref b] h [x] (fun v h' => v = none ∧ Str Z h' h'.size x cs) := by
  refine Met.con (bytes := jdk_42_method_3_code) (maxL := 2) (ret := none) (rm := ({ frames := 5, cells := 4, slots := 195, locals := 74 } : Room)) (Met.of (own := "java/lang/String") (nm := "<init>") #[.val (.ref x), .val (.ref b)] (ew B) rfl rfl (plainFor_of_name pn_java_lang_String) (fun m => by first | (simp [entryFrame, mkF, argsToLocals, Value.category]; done) | rfl) fun K C => ?_) (B.1 _ (List.mem_of_getElem? (i := 7) rfl)) (B.1 _ (List.mem_of_getElem? (i := 4) rfl)) rfl rfl rfl rfl
  have hn : (Int32.ofNat cs.length).toInt = cs.length := ofNat_int (by omega)
  refine C.aloadN d9_0 rfl rfl ?_
  refine C.aloadN d9_1 rfl rfl ?_
  refine C.iconst (v := (0 : Int32)) d9_2 (by first | rfl | decide) ?_
  refine C.aloadN d9_3 rfl rfl ?_
  refine C.alen (n := (Int32.ofNat cs.length)) Ab (by simpa using hn) d9_4 ?_
  refine C.aconstNull d9_5 ?_
  refine C.callN x [.ref b, .int (0 : Int32), .int (Int32.ofNat cs.length), .null] [] 0 (B.1 _ (List.mem_of_getElem? (i := 8) rfl)) (B.1 _ (List.mem_of_getElem? (i := 9) rfl)) (B.1 _ (List.mem_of_getElem? (i := 11) rfl)) rfl (by decide) pd__28__5b_CIILjava_2f_lang_2f_Void_3b__29_V rfl id (c_init4 B hit Ex Fv Fc Ab hn hc hp) d9_6 rfl rfl rfl (by decide) (by decide) (by decide) (by decide) (allS (List.mem_of_getElem? (i := 0) rfl) all0) fun v1 h1 z1 K1 q1 => ?_
  obtain ⟨rfl, S1⟩ := q1
  show C.W h1 [x] 4 195 (mkF K.m 9 #[.val (.ref x), .val (.ref b)] [])
  exact C.return_ rfl d9_9 (by decide) (by decide) ⟨rfl, S1⟩
set_option maxRecDepth 65536 in
set_option maxHeartbeats 40000000 in
theorem c_coder  (B : Base Z a0) {h : Heap} {x : Nat} {cd : Int32} (Fc : Fld Z h x "java/lang/String" "coder" "B" (.int cd)) (hcd : cd = 0 ∨ cd = 1) : Con l Z a0 EL it n0 (⟨"java/lang/String", "coder", "()B"⟩ : MethodName) 1 12 0 0 #[.ref x] h [] (fun v h' => v = some (.int cd) ∧ h = h') := by
  refine Met.con (bytes := jdk_42_method_152_code) (maxL := 1) (ret := (some .byte)) (rm := ({ frames := 0, cells := 0, slots := 0, locals := 0 } : Room)) (Met.of (own := "java/lang/String") (nm := "coder") #[.val (.ref x)] (ew B) rfl rfl (plainFor_of_name pn_java_lang_String) (fun m => by first | (simp [entryFrame, mkF, argsToLocals, Value.category]; done) | rfl) fun K C => ?_) (B.1 _ (List.mem_of_getElem? (i := 44) rfl)) (B.1 _ (List.mem_of_getElem? (i := 4) rfl)) rfl rfl rfl rfl
  obtain ⟨zc, Sc, hzc⟩ := B.2.1
  refine C.getS (B.1 _ (List.mem_of_getElem? (i := 15) rfl)) Via.refl Sc d10_0 ?_
  refine C.ifc_eq 13 d10_3 (by decide) (by decide) (fun q1 => ?_) (fun q1 => ?_)
  · exfalso; exact hzc (Int32.toInt_inj.mp q1)
  · refine C.aloadN d10_6 rfl rfl ?_
    refine C.getF (host := "") (Or.inl (B.1 _ (List.mem_of_getElem? (i := 27) rfl))) Via.refl Fc d10_7 ?_
    refine C.goto 14 d10_10 (by decide) (by decide) ?_
    exact C.ireturn (t := .byte) rfl (by simp) (by rcases hcd with rfl | rfl <;> rfl) d10_14 (by decide) (by decide) ⟨rfl, rfl⟩
set_option maxRecDepth 65536 in
set_option maxHeartbeats 40000000 in
theorem c_length  (B : Base Z a0) {h : Heap} {N : Nat} {x : Nat} {cs : List Int32} (S : Str Z h N x cs) : Con l Z a0 EL it n0 (⟨"java/lang/String", "length", "()I"⟩ : MethodName) 2 25 0 0 #[.ref x] h [] (fun v h' => v = some (.int (Int32.ofNat cs.length)) ∧ h = h') := by
  refine Met.con (bytes := jdk_42_method_54_code) (maxL := 1) (ret := (some .int)) (rm := ({ frames := 1, cells := 0, slots := 0, locals := 13 } : Room)) (Met.of (own := "java/lang/String") (nm := "length") #[.val (.ref x)] (ew B) rfl rfl (plainFor_of_name pn_java_lang_String) (fun m => by first | (simp [entryFrame, mkF, argsToLocals, Value.category]; done) | rfl) fun K C => ?_) (B.1 _ (List.mem_of_getElem? (i := 39) rfl)) (B.1 _ (List.mem_of_getElem? (i := 4) rfl)) rfl rfl rfl rfl
  obtain ⟨Ex, lx, lN, t, cd, vs, lt, Fv, Fc, At, cod⟩ := S
  have hl := At.len
  have hn : (Int32.ofNat vs.length).toInt = vs.length := ofNat_int hl
  refine C.aloadN d11_0 rfl rfl ?_
  refine C.getF (host := "") (Or.inl (B.1 _ (List.mem_of_getElem? (i := 29) rfl))) Via.refl Fv d11_1 ?_
  refine C.alen (n := (Int32.ofNat vs.length)) At hn d11_4 ?_
  refine C.aloadN d11_5 rfl rfl ?_
  refine C.callV x [] [.int (Int32.ofNat vs.length)] 1 (B.1 _ (List.mem_of_getElem? (i := 40) rfl)) (B.1 _ (List.mem_of_getElem? (i := 41) rfl)) (B.1 _ (List.mem_of_getElem? (i := 43) rfl)) (B.1 _ (List.mem_of_getElem? (i := 42) rfl)) (by decide) rfl Ex pd__28__29_B rfl id (c_coder B Fc cod.cd) d11_6 rfl rfl rfl (by decide) (by decide) (by decide) (by decide) all0 fun v1 h1 z1 K1 q1 => ?_
  obtain ⟨rfl, rfl⟩ := q1
  show C.W h [] 0 0 (mkF K.m 9 #[.val (.ref x)] [.int cd, .int (Int32.ofNat vs.length)])
  refine C.ishr d11_9 ?_
  refine C.topI (show ((Int32.ofNat vs.length) >>> (cd &&& 31)) = (Int32.ofNat cs.length) by exact cod.len hl) ?_
  exact C.ireturn (t := .int) rfl (by simp) rfl d11_10 (by decide) (by decide) ⟨rfl, rfl⟩
set_option maxRecDepth 65536 in
set_option maxHeartbeats 40000000 in
theorem c_isLat  (B : Base Z a0) {h : Heap} {x : Nat} {cd : Int32} (Fc : Fld Z h x "java/lang/String" "coder" "B" (.int cd)) : Con l Z a0 EL it n0 (⟨"java/lang/String", "isLatin1", "()Z"⟩ : MethodName) 1 12 0 0 #[.ref x] h [] (fun v h' => v = some (.int (if cd = 0 then 1 else 0)) ∧ h = h') := by
  refine Met.con (bytes := jdk_42_method_154_code) (maxL := 1) (ret := (some .boolean)) (rm := ({ frames := 0, cells := 0, slots := 0, locals := 0 } : Room)) (Met.of (own := "java/lang/String") (nm := "isLatin1") #[.val (.ref x)] (ew B) rfl rfl (plainFor_of_name pn_java_lang_String) (fun m => by first | (simp [entryFrame, mkF, argsToLocals, Value.category]; done) | rfl) fun K C => ?_) (B.1 _ (List.mem_of_getElem? (i := 54) rfl)) (B.1 _ (List.mem_of_getElem? (i := 4) rfl)) rfl rfl rfl rfl
  obtain ⟨zc, Sc, hzc⟩ := B.2.1
  refine C.getS (B.1 _ (List.mem_of_getElem? (i := 15) rfl)) Via.refl Sc d12_0 ?_
  refine C.ifc_eq 17 d12_3 (by decide) (by decide) (fun q1 => ?_) (fun q1 => ?_)
  · exfalso; exact hzc (Int32.toInt_inj.mp q1)
  · refine C.aloadN d12_6 rfl rfl ?_
    refine C.getF (host := "") (Or.inl (B.1 _ (List.mem_of_getElem? (i := 27) rfl))) Via.refl Fc d12_7 ?_
    refine C.ifc_ne 17 d12_10 (by decide) (by decide) (fun q2 => ?_) (fun q2 => ?_)
    · refine C.iconst (v := (0 : Int32)) d12_17 (by first | rfl | decide) ?_
      exact C.ireturn (t := .boolean) rfl (by simp) rfl d12_18 (by decide) (by decide) ⟨by rw [if_neg (fun e => q2 (by rw [e]; rfl))], rfl⟩
    · refine C.iconst (v := (1 : Int32)) d12_13 (by first | rfl | decide) ?_
      refine C.goto 18 d12_14 (by decide) (by decide) ?_
      exact C.ireturn (t := .boolean) rfl (by simp) rfl d12_18 (by decide) (by decide) ⟨by rw [if_pos (Int32.toInt_inj.mp q2)], rfl⟩
set_option maxRecDepth 65536 in
set_option maxHeartbeats 40000000 in
theorem c_pciN  (B : Base Z a0) {h : Heap} {i n : Int32} (h0 : 0 ≤ i.toInt) (h1 : i.toInt < n.toInt) : Con l Z a0 EL it n0 (⟨"jdk/internal/util/Preconditions", "checkIndex", "(IILjava/util/function/BiFunction;)I"⟩ : MethodName) 1 14 0 0 #[.int i, .int n, .null] h [] (fun v h' => v = some (.int i) ∧ h = h') := by
  refine Met.con (bytes := jdk_41_method_11_code) (maxL := 3) (ret := (some .int)) (rm := ({ frames := 0, cells := 0, slots := 0, locals := 0 } : Room)) (Met.of (own := "jdk/internal/util/Preconditions") (nm := "checkIndex") #[.val (.int i), .val (.int n), .val .null] (ew B) rfl rfl (plainFor_of_name pn_jdk_internal_util_Preconditions) (fun m => by first | (simp [entryFrame, mkF, argsToLocals, Value.category]; done) | rfl) fun K C => ?_) (B.1 _ (List.mem_of_getElem? (i := 66) rfl)) (B.1 _ (List.mem_of_getElem? (i := 63) rfl)) rfl rfl rfl rfl
  refine C.iloadN d13_0 rfl ?_
  refine C.ifc_lt 9 d13_1 (by decide) (by decide) (fun q1 => ?_) (fun q1 => ?_)
  · exfalso; omega
  · refine C.iloadN d13_4 rfl ?_
    refine C.iloadN d13_5 rfl ?_
    refine C.icmp_lt 16 d13_6 (by decide) (by decide) (fun q2 => ?_) (fun q2 => ?_)
    · refine C.iloadN d13_16 rfl ?_
      exact C.ireturn (t := .int) rfl (by simp) rfl d13_17 (by decide) (by decide) ⟨rfl, rfl⟩
    · exfalso; omega
set_option maxRecDepth 65536 in
set_option maxHeartbeats 40000000 in
theorem c_pciA  (B : Base Z a0) {h : Heap} {i n : Int32} {g : Nat} (h0 : 0 ≤ i.toInt) (h1 : i.toInt < n.toInt) : Con l Z a0 EL it n0 (⟨"jdk/internal/util/Preconditions", "checkIndex", "(IILjava/util/function/BiFunction;)I"⟩ : MethodName) 1 14 0 0 #[.int i, .int n, .ref g] h [] (fun v h' => v = some (.int i) ∧ h = h') := by
  refine Met.con (bytes := jdk_41_method_11_code) (maxL := 3) (ret := (some .int)) (rm := ({ frames := 0, cells := 0, slots := 0, locals := 0 } : Room)) (Met.of (own := "jdk/internal/util/Preconditions") (nm := "checkIndex") #[.val (.int i), .val (.int n), .val (.ref g)] (ew B) rfl rfl (plainFor_of_name pn_jdk_internal_util_Preconditions) (fun m => by first | (simp [entryFrame, mkF, argsToLocals, Value.category]; done) | rfl) fun K C => ?_) (B.1 _ (List.mem_of_getElem? (i := 66) rfl)) (B.1 _ (List.mem_of_getElem? (i := 63) rfl)) rfl rfl rfl rfl
  refine C.iloadN d13_0 rfl ?_
  refine C.ifc_lt 9 d13_1 (by decide) (by decide) (fun q1 => ?_) (fun q1 => ?_)
  · exfalso; omega
  · refine C.iloadN d13_4 rfl ?_
    refine C.iloadN d13_5 rfl ?_
    refine C.icmp_lt 16 d13_6 (by decide) (by decide) (fun q2 => ?_) (fun q2 => ?_)
    · refine C.iloadN d13_16 rfl ?_
      exact C.ireturn (t := .int) rfl (by simp) rfl d13_17 (by decide) (by decide) ⟨rfl, rfl⟩
    · exfalso; omega
set_option maxRecDepth 65536 in
set_option maxHeartbeats 40000000 in
theorem c_sci  (B : Base Z a0) {h : Heap} {i n : Int32} (h0 : 0 ≤ i.toInt) (h1 : i.toInt < n.toInt) : Con l Z a0 EL it n0 (⟨"java/lang/String", "checkIndex", "(II)V"⟩ : MethodName) 2 27 0 0 #[.int i, .int n] h [] (fun v h' => v = none ∧ h = h') := by
  refine Met.con (bytes := jdk_42_method_155_code) (maxL := 2) (ret := none) (rm := ({ frames := 1, cells := 0, slots := 0, locals := 14 } : Room)) (Met.of (own := "java/lang/String") (nm := "checkIndex") #[.val (.int i), .val (.int n)] (ew B) rfl rfl (plainFor_of_name pn_java_lang_String) (fun m => by first | (simp [entryFrame, mkF, argsToLocals, Value.category]; done) | rfl) fun K C => ?_) (B.1 _ (List.mem_of_getElem? (i := 61) rfl)) (B.1 _ (List.mem_of_getElem? (i := 4) rfl)) rfl rfl rfl rfl
  obtain ⟨fm, Sf, hf⟩ := B.2.2.1
  rcases ref_cases hf with rfl | ⟨f, rfl⟩
  · skip
    refine C.iloadN d14_0 rfl ?_
    refine C.iloadN d14_1 rfl ?_
    refine C.getS (B.1 _ (List.mem_of_getElem? (i := 62) rfl)) Via.refl Sf d14_2 ?_
    refine C.callS [.int i, .int n, .null] [] 0 (B.1 _ (List.mem_of_getElem? (i := 64) rfl)) (B.1 _ (List.mem_of_getElem? (i := 65) rfl)) (B.1 _ (List.mem_of_getElem? (i := 63) rfl)) (B.1 _ (List.mem_of_getElem? (i := 66) rfl)) (by decide) pd__28_IILjava_2f_util_2f_function_2f_BiFunction_3b__29_I rfl id (c_pciN B h0 h1) d14_5 rfl rfl rfl (by decide) (by decide) (by decide) (by decide) all0 fun v1 h1 z1 K1 q1 => ?_
    obtain ⟨rfl, rfl⟩ := q1
    show C.W h [] 0 0 (mkF K.m 8 #[.val (.int i), .val (.int n)] [.int i])
    refine C.pop rfl d14_8 ?_
    exact C.return_ rfl d14_9 (by decide) (by decide) ⟨rfl, rfl⟩
  · skip
    refine C.iloadN d14_0 rfl ?_
    refine C.iloadN d14_1 rfl ?_
    refine C.getS (B.1 _ (List.mem_of_getElem? (i := 62) rfl)) Via.refl Sf d14_2 ?_
    refine C.callS [.int i, .int n, .ref f] [] 0 (B.1 _ (List.mem_of_getElem? (i := 64) rfl)) (B.1 _ (List.mem_of_getElem? (i := 65) rfl)) (B.1 _ (List.mem_of_getElem? (i := 63) rfl)) (B.1 _ (List.mem_of_getElem? (i := 66) rfl)) (by decide) pd__28_IILjava_2f_util_2f_function_2f_BiFunction_3b__29_I rfl id (c_pciA B h0 h1) d14_5 rfl rfl rfl (by decide) (by decide) (by decide) (by decide) all0 fun v2 h2 z2 K2 q2 => ?_
    obtain ⟨rfl, rfl⟩ := q2
    show C.W h [] 0 0 (mkF K.m 8 #[.val (.int i), .val (.int n)] [.int i])
    refine C.pop rfl d14_8 ?_
    exact C.return_ rfl d14_9 (by decide) (by decide) ⟨rfl, rfl⟩
set_option maxRecDepth 65536 in
set_option maxHeartbeats 40000000 in
theorem c_l1cha  (B : Base Z a0) {h : Heap} {d k : Nat} {i c : Int32} {cs : List Int32} (Ad : Ary Z h d .byte (cs.map fun c => Value.int (lo8 c))) (hi : i.toInt = k) (hc : cs[k]? = some c) (hb : 0 ≤ c.toInt ∧ c.toInt < 256) : Con l Z a0 EL it n0 (⟨"java/lang/StringLatin1", "charAt", "([BI)C"⟩ : MethodName) 3 40 0 0 #[.ref d, .int i] h [] (fun v h' => v = some (.int c) ∧ h = h') := by
  refine Met.con (bytes := jdk_43_method_2_code) (maxL := 2) (ret := (some .char)) (rm := ({ frames := 2, cells := 0, slots := 0, locals := 27 } : Room)) (Met.of (own := "java/lang/StringLatin1") (nm := "charAt") #[.val (.ref d), .val (.int i)] (ew B) rfl rfl (plainFor_of_name pn_java_lang_StringLatin1) (fun m => by first | (simp [entryFrame, mkF, argsToLocals, Value.category]; done) | rfl) fun K C => ?_) (B.1 _ (List.mem_of_getElem? (i := 58) rfl)) (B.1 _ (List.mem_of_getElem? (i := 57) rfl)) rfl rfl rfl rfl
  have lA := Ad.len
  rw [List.length_map] at lA
  have hk : k < cs.length := (List.getElem?_eq_some_iff.mp hc).1
  have em : (Int32.ofNat cs.length).toInt = cs.length := ofNat_int lA
  refine C.iloadN d15_0 rfl ?_
  refine C.aloadN d15_1 rfl rfl ?_
  refine C.alen (n := (Int32.ofNat cs.length)) Ad (by rw [List.length_map]; exact em) d15_2 ?_
  refine C.callS [.int i, .int (Int32.ofNat cs.length)] [] 0 (B.1 _ (List.mem_of_getElem? (i := 59) rfl)) (B.1 _ (List.mem_of_getElem? (i := 60) rfl)) (B.1 _ (List.mem_of_getElem? (i := 4) rfl)) (B.1 _ (List.mem_of_getElem? (i := 61) rfl)) (by decide) pd__28_II_29_V rfl id (c_sci B (by omega) (by omega)) d15_3 rfl rfl rfl (by decide) (by decide) (by decide) (by decide) all0 fun v1 h1 z1 K1 q1 => ?_
  obtain ⟨rfl, rfl⟩ := q1
  show C.W h [] 0 0 (mkF K.m 6 #[.val (.ref d), .val (.int i)] [])
  refine C.aloadN d15_6 rfl rfl ?_
  refine C.iloadN d15_7 rfl ?_
  refine C.baload (x := (lo8 c)) k Ad hi (by simp [hc]) d15_8 ?_
  refine C.sipush (v := (255 : Int32)) d15_9 (by first | rfl | decide) ?_
  refine C.iand d15_12 ?_
  refine C.i2c d15_13 ?_
  refine C.topI (show ((lo8 c) &&& (255 : Int32)).toUInt32.toUInt16.toUInt32.toInt32 = c by have q := lo8_and c; have e : (lo8 c &&& 255) = c := Int32.toInt_inj.mp (by omega); rw [e]; exact i2c_id (by omega) (by omega)) ?_
  exact C.ireturn (t := .char) rfl (by simp) (nchar (by omega) (by omega)) d15_14 (by decide) (by decide) ⟨rfl, rfl⟩
set_option maxRecDepth 65536 in
set_option maxHeartbeats 40000000 in
theorem c_ulen  (B : Base Z a0) {h : Heap} {d : Nat} {vs : List Value} (Ad : Ary Z h d .byte vs) : Con l Z a0 EL it n0 (⟨"java/lang/StringUTF16", "length", "([B)I"⟩ : MethodName) 1 12 0 0 #[.ref d] h [] (fun v h' => ∃ m : Int32, v = some (.int m) ∧ m.toInt = vs.length / 2 ∧ h = h') := by
  refine Met.con (bytes := jdk_52_method_6_code) (maxL := 1) (ret := (some .int)) (rm := ({ frames := 0, cells := 0, slots := 0, locals := 0 } : Room)) (Met.of (own := "java/lang/StringUTF16") (nm := "length") #[.val (.ref d)] (ew B) rfl rfl (plainFor_of_name pn_java_lang_StringUTF16) (fun m => by first | (simp [entryFrame, mkF, argsToLocals, Value.category]; done) | rfl) fun K C => ?_) (B.1 _ (List.mem_of_getElem? (i := 104) rfl)) (B.1 _ (List.mem_of_getElem? (i := 18) rfl)) rfl rfl rfl rfl
  have lA := Ad.len
  have em : (Int32.ofNat vs.length).toInt = vs.length := ofNat_int lA
  refine C.aloadN d16_0 rfl rfl ?_
  refine C.alen (n := (Int32.ofNat vs.length)) Ad em d16_1 ?_
  refine C.iconst (v := (1 : Int32)) d16_2 (by first | rfl | decide) ?_
  refine C.ishr d16_3 ?_
  have e := c_ishr (Int32.ofNat vs.length) 1 1 (by decide)
  exact C.ireturn (t := .int) rfl (by simp) rfl d16_4 (by decide) (by decide) ⟨_, rfl, by rw [e, em]; simp, rfl⟩
set_option maxRecDepth 65536 in
set_option maxHeartbeats 40000000 in
theorem c_uci  (B : Base Z a0) {h : Heap} {d : Nat} {i : Int32} {vs : List Value} (Ad : Ary Z h d .byte vs) (h0 : 0 ≤ i.toInt) (h1 : i.toInt < vs.length / 2) : Con l Z a0 EL it n0 (⟨"java/lang/StringUTF16", "checkIndex", "(I[B)V"⟩ : MethodName) 3 40 0 0 #[.int i, .ref d] h [] (fun v h' => v = none ∧ h = h') := by
  refine Met.con (bytes := jdk_52_method_91_code) (maxL := 2) (ret := none) (rm := ({ frames := 2, cells := 0, slots := 0, locals := 27 } : Room)) (Met.of (own := "java/lang/StringUTF16") (nm := "checkIndex") #[.val (.int i), .val (.ref d)] (ew B) rfl rfl (plainFor_of_name pn_java_lang_StringUTF16) (fun m => by first | (simp [entryFrame, mkF, argsToLocals, Value.category]; done) | rfl) fun K C => ?_) (B.1 _ (List.mem_of_getElem? (i := 101) rfl)) (B.1 _ (List.mem_of_getElem? (i := 18) rfl)) rfl rfl rfl rfl
  refine C.iloadN d17_0 rfl ?_
  refine C.aloadN d17_1 rfl rfl ?_
  refine C.callS [.ref d] [.int i] 1 (B.1 _ (List.mem_of_getElem? (i := 102) rfl)) (B.1 _ (List.mem_of_getElem? (i := 103) rfl)) (B.1 _ (List.mem_of_getElem? (i := 18) rfl)) (B.1 _ (List.mem_of_getElem? (i := 104) rfl)) (by decide) pd__28__5b_B_29_I rfl id (c_ulen B Ad) d17_2 rfl rfl rfl (by decide) (by decide) (by decide) (by decide) all0 fun v1 h1 z1 K1 q1 => ?_
  obtain ⟨m, rfl, hm, rfl⟩ := q1
  show C.W h [] 0 0 (mkF K.m 5 #[.val (.int i), .val (.ref d)] [.int m, .int i])
  refine C.callS [.int i, .int m] [] 0 (B.1 _ (List.mem_of_getElem? (i := 105) rfl)) (B.1 _ (List.mem_of_getElem? (i := 60) rfl)) (B.1 _ (List.mem_of_getElem? (i := 4) rfl)) (B.1 _ (List.mem_of_getElem? (i := 61) rfl)) (by decide) pd__28_II_29_V rfl id (c_sci B h0 (by omega)) d17_5 rfl rfl rfl (by decide) (by decide) (by decide) (by decide) all0 fun v2 h2 z2 K2 q2 => ?_
  obtain ⟨rfl, rfl⟩ := q2
  show C.W h [] 0 0 (mkF K.m 8 #[.val (.int i), .val (.ref d)] [])
  exact C.return_ rfl d17_8 (by decide) (by decide) ⟨rfl, rfl⟩
set_option maxRecDepth 65536 in
set_option maxHeartbeats 40000000 in
theorem c_ucha  (B : Base Z a0) {h : Heap} {d k : Nat} {i c : Int32} {cs : List Int32} (Ad : Ary Z h d .byte (wide cs)) (hi : i.toInt = k) (hc : cs[k]? = some c) (hb : 0 ≤ c.toInt ∧ c.toInt < 65536) : Con l Z a0 EL it n0 (⟨"java/lang/StringUTF16", "charAt", "([BI)C"⟩ : MethodName) 4 53 0 0 #[.ref d, .int i] h [] (fun v h' => v = some (.int c) ∧ h = h') := by
  refine Met.con (bytes := jdk_52_method_83_code) (maxL := 2) (ret := (some .char)) (rm := ({ frames := 3, cells := 0, slots := 0, locals := 40 } : Room)) (Met.of (own := "java/lang/StringUTF16") (nm := "charAt") #[.val (.ref d), .val (.int i)] (ew B) rfl rfl (plainFor_of_name pn_java_lang_StringUTF16) (fun m => by first | (simp [entryFrame, mkF, argsToLocals, Value.category]; done) | rfl) fun K C => ?_) (B.1 _ (List.mem_of_getElem? (i := 98) rfl)) (B.1 _ (List.mem_of_getElem? (i := 18) rfl)) rfl rfl rfl rfl
  have hk : k < cs.length := (List.getElem?_eq_some_iff.mp hc).1
  refine C.iloadN d18_0 rfl ?_
  refine C.aloadN d18_1 rfl rfl ?_
  refine C.callS [.int i, .ref d] [] 0 (B.1 _ (List.mem_of_getElem? (i := 99) rfl)) (B.1 _ (List.mem_of_getElem? (i := 100) rfl)) (B.1 _ (List.mem_of_getElem? (i := 18) rfl)) (B.1 _ (List.mem_of_getElem? (i := 101) rfl)) (by decide) pd__28_I_5b_B_29_V rfl id (c_uci B Ad (by omega) (by rw [wide_len]; omega)) d18_2 rfl rfl rfl (by decide) (by decide) (by decide) (by decide) all0 fun v1 h1 z1 K1 q1 => ?_
  obtain ⟨rfl, rfl⟩ := q1
  show C.W h [] 0 0 (mkF K.m 5 #[.val (.ref d), .val (.int i)] [])
  refine C.aloadN d18_5 rfl rfl ?_
  refine C.iloadN d18_6 rfl ?_
  refine C.callS [.ref d, .int i] [] 0 (B.1 _ (List.mem_of_getElem? (i := 93) rfl)) (B.1 _ (List.mem_of_getElem? (i := 94) rfl)) (B.1 _ (List.mem_of_getElem? (i := 18) rfl)) (B.1 _ (List.mem_of_getElem? (i := 95) rfl)) (by decide) pd__28__5b_BI_29_C rfl id (c_getChar B Ad hi hc hb) d18_7 rfl rfl rfl (by decide) (by decide) (by decide) (by decide) all0 fun v2 h2 z2 K2 q2 => ?_
  obtain ⟨rfl, rfl⟩ := q2
  show C.W h [] 0 0 (mkF K.m 10 #[.val (.ref d), .val (.int i)] [.int c])
  exact C.ireturn (t := .char) rfl (by simp) (nchar hb.1 hb.2) d18_10 (by decide) (by decide) ⟨rfl, rfl⟩
set_option maxRecDepth 65536 in
set_option maxHeartbeats 40000000 in
theorem c_charAt  (B : Base Z a0) {h : Heap} {N k : Nat} {x : Nat} {i c : Int32} {cs : List Int32} (S : Str Z h N x cs) (hi : i.toInt = k) (hc : cs[k]? = some c) : Con l Z a0 EL it n0 (⟨"java/lang/String", "charAt", "(I)C"⟩ : MethodName) 5 66 0 0 #[.ref x, .int i] h [] (fun v h' => v = some (.int c) ∧ h = h') := by
  refine Met.con (bytes := jdk_42_method_56_code) (maxL := 2) (ret := (some .char)) (rm := ({ frames := 4, cells := 0, slots := 0, locals := 53 } : Room)) (Met.of (own := "java/lang/String") (nm := "charAt") #[.val (.ref x), .val (.int i)] (ew B) rfl rfl (plainFor_of_name pn_java_lang_String) (fun m => by first | (simp [entryFrame, mkF, argsToLocals, Value.category]; done) | rfl) fun K C => ?_) (B.1 _ (List.mem_of_getElem? (i := 49) rfl)) (B.1 _ (List.mem_of_getElem? (i := 4) rfl)) rfl rfl rfl rfl
  obtain ⟨Ex, lx1, lx2, tx, cx, vx, ltx, Vx, Cx, Ax, codx⟩ := S
  refine C.aloadN d19_0 rfl rfl ?_
  refine C.callV x [] [] 0 (B.1 _ (List.mem_of_getElem? (i := 50) rfl)) (B.1 _ (List.mem_of_getElem? (i := 51) rfl)) (B.1 _ (List.mem_of_getElem? (i := 53) rfl)) (B.1 _ (List.mem_of_getElem? (i := 52) rfl)) (by decide) rfl Ex pd__28__29_Z rfl id (c_isLat B Cx) d19_1 rfl rfl rfl (by decide) (by decide) (by decide) (by decide) all0 fun v1 h1 z1 K1 q1 => ?_
  obtain ⟨rfl, rfl⟩ := q1
  show C.W h [] 0 0 (mkF K.m 4 #[.val (.ref x), .val (.int i)] [.int (if cx = 0 then (1 : Int32) else 0)])
  refine C.ifc_eq 16 d19_4 (by decide) (by decide) (fun q2 => ?_) (fun q2 => ?_)
  · have hcx : cx = 1 := codx.cd.resolve_left fun e => by rw [if_pos e] at q2; revert q2; decide
    obtain ⟨rfl, hpx⟩ := codx.wid hcx
    refine C.aloadN d19_16 rfl rfl ?_
    refine C.getF (host := "") (Or.inl (B.1 _ (List.mem_of_getElem? (i := 29) rfl))) Via.refl Vx d19_17 ?_
    refine C.iloadN d19_20 rfl ?_
    refine C.callS [.ref tx, .int i] [] 0 (B.1 _ (List.mem_of_getElem? (i := 96) rfl)) (B.1 _ (List.mem_of_getElem? (i := 97) rfl)) (B.1 _ (List.mem_of_getElem? (i := 18) rfl)) (B.1 _ (List.mem_of_getElem? (i := 98) rfl)) (by decide) pd__28__5b_BI_29_C rfl id (c_ucha B Ax hi hc (hpx c (List.mem_of_getElem? hc))) d19_21 rfl rfl rfl (by decide) (by decide) (by decide) (by decide) all0 fun v3 h3 z3 K3 q3 => ?_
    obtain ⟨rfl, rfl⟩ := q3
    show C.W h [] 0 0 (mkF K.m 24 #[.val (.ref x), .val (.int i)] [.int c])
    have hb := hpx c (List.mem_of_getElem? hc)
    exact C.ireturn (t := .char) rfl (by simp) (nchar hb.1 hb.2) d19_24 (by decide) (by decide) ⟨rfl, rfl⟩
  · have hcx : cx = 0 := Classical.byContradiction fun e => by rw [if_neg e] at q2; exact q2 rfl
    obtain ⟨rfl, hpx⟩ := codx.lo hcx
    have hb := hpx c (List.mem_of_getElem? hc)
    refine C.aloadN d19_7 rfl rfl ?_
    refine C.getF (host := "") (Or.inl (B.1 _ (List.mem_of_getElem? (i := 29) rfl))) Via.refl Vx d19_8 ?_
    refine C.iloadN d19_11 rfl ?_
    refine C.callS [.ref tx, .int i] [] 0 (B.1 _ (List.mem_of_getElem? (i := 55) rfl)) (B.1 _ (List.mem_of_getElem? (i := 56) rfl)) (B.1 _ (List.mem_of_getElem? (i := 57) rfl)) (B.1 _ (List.mem_of_getElem? (i := 58) rfl)) (by decide) pd__28__5b_BI_29_C rfl id (c_l1cha B Ax hi hc hb) d19_12 rfl rfl rfl (by decide) (by decide) (by decide) (by decide) all0 fun v4 h4 z4 K4 q4 => ?_
    obtain ⟨rfl, rfl⟩ := q4
    show C.W h [] 0 0 (mkF K.m 15 #[.val (.ref x), .val (.int i)] [.int c])
    exact C.ireturn (t := .char) rfl (by simp) (nchar (by omega) (by omega)) d19_15 (by decide) (by decide) ⟨rfl, rfl⟩
def HX (c : Int32) : Prop := (48 ≤ c.toInt ∧ c.toInt ≤ 57) ∨ (97 ≤ c.toInt ∧ c.toInt ≤ 102)
instance (c : Int32) : Decidable (HX c) := by unfold HX; infer_instance
theorem hexbit {t c : Int32} (hc : 0 ≤ c.toInt ∧ c.toInt < 65536) : (t ||| (((c - (48 : Int32)) ||| ((57 : Int32) - c)) &&& ((c - (97 : Int32)) ||| ((102 : Int32) - c)))).toInt < 0 ↔ (t.toInt < 0 ∨ ¬ HX c) := by
  have k1 : (48 : Int32).toInt = 48 := by decide
  have k2 : (57 : Int32).toInt = 57 := by decide
  have k3 : (97 : Int32).toInt = 97 := by decide
  have k4 : (102 : Int32).toInt = 102 := by decide
  have s1 := sub_int (x := c) (y := 48) (by omega) (by omega)
  have s2 := sub_int (x := 57) (y := c) (by omega) (by omega)
  have s3 := sub_int (x := c) (y := 97) (by omega) (by omega)
  have s4 := sub_int (x := 102) (y := c) (by omega) (by omega)
  have o1 := c_orS (c - 48) (57 - c)
  have o2 := c_orS (c - 97) (102 - c)
  have a1 := c_andS ((c - 48) ||| (57 - c)) ((c - 97) ||| (102 - c))
  have o3 := c_orS t (((c - 48) ||| (57 - c)) &&& ((c - 97) ||| (102 - c)))
  unfold HX
  generalize ((c - 48) ||| (57 - c)) = x at *
  generalize ((c - 97) ||| (102 - c)) = y at *
  generalize (x &&& y) = z at *
  generalize (t ||| z) = r at *
  generalize (c - 48) = d1 at *
  generalize (57 - c) = d2 at *
  generalize (c - 97) = d3 at *
  generalize (102 - c) = d4 at *
  have e1 : x.toInt < 0 ↔ ¬ (48 ≤ c.toInt ∧ c.toInt ≤ 57) := by
    constructor
    · intro h; intro g; have := o1.1 (by omega) (by omega); omega
    · intro h
      by_cases g : c.toInt < 48
      · exact o1.2.1 (by omega)
      · exact o1.2.2 (by omega)
  have e2 : y.toInt < 0 ↔ ¬ (97 ≤ c.toInt ∧ c.toInt ≤ 102) := by
    constructor
    · intro h; intro g; have := o2.1 (by omega) (by omega); omega
    · intro h
      by_cases g : c.toInt < 97
      · exact o2.2.1 (by omega)
      · exact o2.2.2 (by omega)
  have e3 : z.toInt < 0 ↔ (x.toInt < 0 ∧ y.toInt < 0) := by
    constructor
    · intro h
      refine ⟨Int.not_le.mp fun g => ?_, Int.not_le.mp fun g => ?_⟩
      · have := a1.2.1 g; omega
      · have := a1.2.2 g; omega
    · intro h; exact a1.1 h.1 h.2
  have e4 : r.toInt < 0 ↔ (t.toInt < 0 ∨ z.toInt < 0) := by
    constructor
    · intro h
      by_cases g : t.toInt < 0
      · exact Or.inl g
      · refine Or.inr (Int.not_le.mp fun g2 => ?_)
        have := o3.1 (by omega) g2
        omega
    · intro h
      rcases h with h | h
      · exact o3.2.1 h
      · exact o3.2.2 h
  rw [e4, e3, e1, e2, not_or]
theorem hexset {H : Int32 → Prop} {k i j : Nat} {x y z : Int32} (hk : 3 ≤ k) (hi : i < k) (hj : j < k) : (∀ c ∈ ((List.replicate k x).set i y).set j z, H c) ↔ (H x ∧ H z ∧ (i = j ∨ H y)) := by
  have g : ∀ p : Nat, p < k → (((List.replicate k x).set i y).set j z)[p]? = some (if p = j then z else if p = i then y else x) := by
    intro p hp
    rw [List.getElem?_set, List.getElem?_set]
    simp only [List.length_set, List.length_replicate]
    by_cases h1 : j = p
    · rw [if_pos h1, if_pos (by omega), if_pos h1.symm]
    · rw [if_neg h1, if_neg (c := p = j) (fun q => h1 q.symm)]
      by_cases h2 : i = p
      · rw [if_pos h2, if_pos (by omega), if_pos h2.symm]
      · rw [if_neg h2, if_neg (c := p = i) (fun q => h2 q.symm), List.getElem?_replicate, if_pos hp]
  constructor
  · intro h
    have h' : ∀ p : Nat, p < k → H (if p = j then z else if p = i then y else x) := fun p hp => h _ (List.mem_of_getElem? (g p hp))
    refine ⟨?_, by have := h' j hj; rwa [if_pos rfl] at this, ?_⟩
    · obtain ⟨p, hp, p1, p2⟩ : ∃ p : Nat, p < k ∧ p ≠ j ∧ p ≠ i := by
        by_cases a : 0 ≠ j ∧ 0 ≠ i
        · exact ⟨0, by omega, a.1, a.2⟩
        · by_cases b : 1 ≠ j ∧ 1 ≠ i
          · exact ⟨1, by omega, b.1, b.2⟩
          · exact ⟨2, by omega, by omega, by omega⟩
      have := h' p hp
      rwa [if_neg p1, if_neg p2] at this
    · by_cases e : i = j
      · exact Or.inl e
      · have := h' i hi
        rw [if_neg e, if_pos rfl] at this
        exact Or.inr this
  · intro h c hc
    obtain ⟨p, hp⟩ := List.mem_iff_getElem?.mp hc
    have hpk : p < k := by
      have := (List.getElem?_eq_some_iff.mp hp).1
      simpa using this
    rw [g p hpk] at hp
    obtain rfl := Option.some.inj hp
    by_cases a : p = j
    · rw [if_pos a]; exact h.2.1
    · rw [if_neg a]
      by_cases b : p = i
      · rw [if_pos b]; exact h.2.2.resolve_left (fun e => a (b.trans e))
      · rw [if_neg b]; exact h.1
theorem hexnew {H : Int32 → Prop} {k i j : Nat} {x y z : Int32} (hx : H x) (hy : H y) (hz : H z) : ∀ c ∈ ((List.replicate k x).set i y).set j z, H c := by
  intro c hc
  rcases List.mem_or_eq_of_mem_set hc with hc | rfl
  · rcases List.mem_or_eq_of_mem_set hc with hc | rfl
    · rw [(List.mem_replicate.mp hc).2]; exact hx
    · exact hy
  · exact hz
set_option maxRecDepth 65536 in
set_option maxHeartbeats 40000000 in
theorem c_hex  (B : Base Z a0) {h : Heap} {c : Int32} : Con l Z a0 EL it n0 (⟨"com/example/halysis/halysis/LogRecordIsHashPinLaw", "isHex", "(C)Z"⟩ : MethodName) 1 12 0 0 #[.int c] h [] (fun v h' => v = some (.int (if HX c then 1 else 0)) ∧ h = h') := by
  refine Met.con (bytes := method_3_code) (maxL := 1) (ret := (some .boolean)) (rm := ({ frames := 0, cells := 0, slots := 0, locals := 0 } : Room)) (Met.of (own := "com/example/halysis/halysis/LogRecordIsHashPinLaw") (nm := "isHex") #[.val (.int c)] (ew B) rfl rfl (plainFor_of_name pn_com_example_halysis_halysis_LogRecordIsHashPinLaw) (fun m => by first | (simp [entryFrame, mkF, argsToLocals, Value.category]; done) | rfl) fun K C => ?_) (B.1 _ (List.mem_of_getElem? (i := 76) rfl)) (B.1 _ (List.mem_of_getElem? (i := 72) rfl)) rfl rfl rfl rfl
  have k48 : (48 : Int32).toInt = 48 := by decide
  have k57 : (57 : Int32).toInt = 57 := by decide
  have k97 : (97 : Int32).toInt = 97 := by decide
  have k102 : (102 : Int32).toInt = 102 := by decide
  refine C.iloadN d20_0 rfl ?_
  refine C.bipush (v := (48 : Int32)) d20_1 (by first | rfl | decide) ?_
  refine C.icmp_lt 12 d20_3 (by decide) (by decide) (fun q1 => ?_) (fun q1 => ?_)
  · refine C.iloadN d20_12 rfl ?_
    refine C.bipush (v := (97 : Int32)) d20_13 (by first | rfl | decide) ?_
    refine C.icmp_lt 28 d20_15 (by decide) (by decide) (fun q2 => ?_) (fun q2 => ?_)
    · refine C.iconst (v := (0 : Int32)) d20_28 (by first | rfl | decide) ?_
      exact C.ireturn (t := .boolean) rfl (by simp) rfl d20_29 (by decide) (by decide) ⟨by rw [if_neg (by unfold HX; omega)], rfl⟩
    · refine C.iloadN d20_18 rfl ?_
      refine C.bipush (v := (102 : Int32)) d20_19 (by first | rfl | decide) ?_
      refine C.icmp_gt 28 d20_21 (by decide) (by decide) (fun q3 => ?_) (fun q3 => ?_)
      · refine C.iconst (v := (0 : Int32)) d20_28 (by first | rfl | decide) ?_
        exact C.ireturn (t := .boolean) rfl (by simp) rfl d20_29 (by decide) (by decide) ⟨by rw [if_neg (by unfold HX; omega)], rfl⟩
      · refine C.iconst (v := (1 : Int32)) d20_24 (by first | rfl | decide) ?_
        refine C.goto 29 d20_25 (by decide) (by decide) ?_
        exact C.ireturn (t := .boolean) rfl (by simp) rfl d20_29 (by decide) (by decide) ⟨by rw [if_pos (by unfold HX; omega)], rfl⟩
  · refine C.iloadN d20_6 rfl ?_
    refine C.bipush (v := (57 : Int32)) d20_7 (by first | rfl | decide) ?_
    refine C.icmp_le 24 d20_9 (by decide) (by decide) (fun q4 => ?_) (fun q4 => ?_)
    · refine C.iconst (v := (1 : Int32)) d20_24 (by first | rfl | decide) ?_
      refine C.goto 29 d20_25 (by decide) (by decide) ?_
      exact C.ireturn (t := .boolean) rfl (by simp) rfl d20_29 (by decide) (by decide) ⟨by rw [if_pos (by unfold HX; omega)], rfl⟩
    · refine C.iloadN d20_12 rfl ?_
      refine C.bipush (v := (97 : Int32)) d20_13 (by first | rfl | decide) ?_
      refine C.icmp_lt 28 d20_15 (by decide) (by decide) (fun q5 => ?_) (fun q5 => ?_)
      · refine C.iconst (v := (0 : Int32)) d20_28 (by first | rfl | decide) ?_
        exact C.ireturn (t := .boolean) rfl (by simp) rfl d20_29 (by decide) (by decide) ⟨by rw [if_neg (by unfold HX; omega)], rfl⟩
      · refine C.iloadN d20_18 rfl ?_
        refine C.bipush (v := (102 : Int32)) d20_19 (by first | rfl | decide) ?_
        refine C.icmp_gt 28 d20_21 (by decide) (by decide) (fun q6 => ?_) (fun q6 => ?_)
        · refine C.iconst (v := (0 : Int32)) d20_28 (by first | rfl | decide) ?_
          exact C.ireturn (t := .boolean) rfl (by simp) rfl d20_29 (by decide) (by decide) ⟨by rw [if_neg (by unfold HX; omega)], rfl⟩
        · refine C.iconst (v := (1 : Int32)) d20_24 (by first | rfl | decide) ?_
          refine C.goto 29 d20_25 (by decide) (by decide) ?_
          exact C.ireturn (t := .boolean) rfl (by simp) rfl d20_29 (by decide) (by decide) ⟨by rw [if_pos (by unfold HX; omega)], rfl⟩
set_option maxRecDepth 65536 in
set_option maxHeartbeats 40000000 in
theorem c_of63  (B : Base Z a0) {h : Heap} {c : Int32} (hc : 0 ≤ c.toInt ∧ c.toInt < 65536) : Con l Z a0 EL it n0 (⟨"com/example/halysis/halysis/LogRecordIsHashPinLaw", "of63", "(C)[C"⟩ : MethodName) 1 12 1 63 #[.int c] h [] (fun v h' => ∃ b : Nat, v = some (.ref b) ∧ h.size ≤ b ∧ b < h'.size ∧ Ary Z h' b .char ((List.replicate 63 c).map Value.int)) := by
  refine Met.con (bytes := method_4_code) (maxL := 1) (ret := (some (.array .char))) (rm := ({ frames := 0, cells := 1, slots := 63, locals := 0 } : Room)) (Met.of (own := "com/example/halysis/halysis/LogRecordIsHashPinLaw") (nm := "of63") #[.val (.int c)] (ew B) rfl rfl (plainFor_of_name pn_com_example_halysis_halysis_LogRecordIsHashPinLaw) (fun m => by first | (simp [entryFrame, mkF, argsToLocals, Value.category]; done) | rfl) fun K C => ?_) (B.1 _ (List.mem_of_getElem? (i := 108) rfl)) (B.1 _ (List.mem_of_getElem? (i := 72) rfl)) rfl rfl rfl rfl
  refine C.bipush (v := (63 : Int32)) d21_0 (by first | rfl | decide) ?_
  refine C.newarr 63 63 (B.1 _ (List.mem_of_getElem? (i := 0) rfl)) d21_2 (by first | rfl | decide) (by decide) (by decide) (by decide) (by decide) fun h1 a2 g1 z1 o1 K1 An1 => ?_
  have An1 : Ary Z h1 a2 .char [.int 0, .int 0, .int 0, .int 0, .int 0, .int 0, .int 0, .int 0, .int 0, .int 0, .int 0, .int 0, .int 0, .int 0, .int 0, .int 0, .int 0, .int 0, .int 0, .int 0, .int 0, .int 0, .int 0, .int 0, .int 0, .int 0, .int 0, .int 0, .int 0, .int 0, .int 0, .int 0, .int 0, .int 0, .int 0, .int 0, .int 0, .int 0, .int 0, .int 0, .int 0, .int 0, .int 0, .int 0, .int 0, .int 0, .int 0, .int 0, .int 0, .int 0, .int 0, .int 0, .int 0, .int 0, .int 0, .int 0, .int 0, .int 0, .int 0, .int 0, .int 0, .int 0, .int 0] := An1
  show C.W h1 [a2] 1 63 (mkF K.m 4 #[.val (.int c)] [.ref a2])
  refine C.dup rfl d21_4 ?_
  refine C.iconst (v := (0 : Int32)) d21_5 (by first | rfl | decide) ?_
  refine C.iloadN d21_6 rfl ?_
  refine C.castore 0 An1 (by first | rfl | decide) (Nat.le_of_ble_eq_true rfl) hc.1 hc.2 d21_7 (List.mem_of_getElem? (i := 0) rfl) fun h3 z3 K3 Aw3 => ?_
  have Aw3 : Ary Z h3 a2 .char [.int c, .int 0, .int 0, .int 0, .int 0, .int 0, .int 0, .int 0, .int 0, .int 0, .int 0, .int 0, .int 0, .int 0, .int 0, .int 0, .int 0, .int 0, .int 0, .int 0, .int 0, .int 0, .int 0, .int 0, .int 0, .int 0, .int 0, .int 0, .int 0, .int 0, .int 0, .int 0, .int 0, .int 0, .int 0, .int 0, .int 0, .int 0, .int 0, .int 0, .int 0, .int 0, .int 0, .int 0, .int 0, .int 0, .int 0, .int 0, .int 0, .int 0, .int 0, .int 0, .int 0, .int 0, .int 0, .int 0, .int 0, .int 0, .int 0, .int 0, .int 0, .int 0, .int 0] := Aw3
  show C.W h3 [a2] 1 63 (mkF K.m 8 #[.val (.int c)] [.ref a2])
  refine C.dup rfl d21_8 ?_
  refine C.iconst (v := (1 : Int32)) d21_9 (by first | rfl | decide) ?_
  refine C.iloadN d21_10 rfl ?_
  refine C.castore 1 Aw3 (by first | rfl | decide) (Nat.le_of_ble_eq_true rfl) hc.1 hc.2 d21_11 (List.mem_of_getElem? (i := 0) rfl) fun h4 z4 K4 Aw4 => ?_
  have Aw4 : Ary Z h4 a2 .char [.int c, .int c, .int 0, .int 0, .int 0, .int 0, .int 0, .int 0, .int 0, .int 0, .int 0, .int 0, .int 0, .int 0, .int 0, .int 0, .int 0, .int 0, .int 0, .int 0, .int 0, .int 0, .int 0, .int 0, .int 0, .int 0, .int 0, .int 0, .int 0, .int 0, .int 0, .int 0, .int 0, .int 0, .int 0, .int 0, .int 0, .int 0, .int 0, .int 0, .int 0, .int 0, .int 0, .int 0, .int 0, .int 0, .int 0, .int 0, .int 0, .int 0, .int 0, .int 0, .int 0, .int 0, .int 0, .int 0, .int 0, .int 0, .int 0, .int 0, .int 0, .int 0, .int 0] := Aw4
  show C.W h4 [a2] 1 63 (mkF K.m 12 #[.val (.int c)] [.ref a2])
  refine C.dup rfl d21_12 ?_
  refine C.iconst (v := (2 : Int32)) d21_13 (by first | rfl | decide) ?_
  refine C.iloadN d21_14 rfl ?_
  refine C.castore 2 Aw4 (by first | rfl | decide) (Nat.le_of_ble_eq_true rfl) hc.1 hc.2 d21_15 (List.mem_of_getElem? (i := 0) rfl) fun h5 z5 K5 Aw5 => ?_
  have Aw5 : Ary Z h5 a2 .char [.int c, .int c, .int c, .int 0, .int 0, .int 0, .int 0, .int 0, .int 0, .int 0, .int 0, .int 0, .int 0, .int 0, .int 0, .int 0, .int 0, .int 0, .int 0, .int 0, .int 0, .int 0, .int 0, .int 0, .int 0, .int 0, .int 0, .int 0, .int 0, .int 0, .int 0, .int 0, .int 0, .int 0, .int 0, .int 0, .int 0, .int 0, .int 0, .int 0, .int 0, .int 0, .int 0, .int 0, .int 0, .int 0, .int 0, .int 0, .int 0, .int 0, .int 0, .int 0, .int 0, .int 0, .int 0, .int 0, .int 0, .int 0, .int 0, .int 0, .int 0, .int 0, .int 0] := Aw5
  show C.W h5 [a2] 1 63 (mkF K.m 16 #[.val (.int c)] [.ref a2])
  refine C.dup rfl d21_16 ?_
  refine C.iconst (v := (3 : Int32)) d21_17 (by first | rfl | decide) ?_
  refine C.iloadN d21_18 rfl ?_
  refine C.castore 3 Aw5 (by first | rfl | decide) (Nat.le_of_ble_eq_true rfl) hc.1 hc.2 d21_19 (List.mem_of_getElem? (i := 0) rfl) fun h6 z6 K6 Aw6 => ?_
  have Aw6 : Ary Z h6 a2 .char [.int c, .int c, .int c, .int c, .int 0, .int 0, .int 0, .int 0, .int 0, .int 0, .int 0, .int 0, .int 0, .int 0, .int 0, .int 0, .int 0, .int 0, .int 0, .int 0, .int 0, .int 0, .int 0, .int 0, .int 0, .int 0, .int 0, .int 0, .int 0, .int 0, .int 0, .int 0, .int 0, .int 0, .int 0, .int 0, .int 0, .int 0, .int 0, .int 0, .int 0, .int 0, .int 0, .int 0, .int 0, .int 0, .int 0, .int 0, .int 0, .int 0, .int 0, .int 0, .int 0, .int 0, .int 0, .int 0, .int 0, .int 0, .int 0, .int 0, .int 0, .int 0, .int 0] := Aw6
  show C.W h6 [a2] 1 63 (mkF K.m 20 #[.val (.int c)] [.ref a2])
  refine C.dup rfl d21_20 ?_
  refine C.iconst (v := (4 : Int32)) d21_21 (by first | rfl | decide) ?_
  refine C.iloadN d21_22 rfl ?_
  refine C.castore 4 Aw6 (by first | rfl | decide) (Nat.le_of_ble_eq_true rfl) hc.1 hc.2 d21_23 (List.mem_of_getElem? (i := 0) rfl) fun h7 z7 K7 Aw7 => ?_
  have Aw7 : Ary Z h7 a2 .char [.int c, .int c, .int c, .int c, .int c, .int 0, .int 0, .int 0, .int 0, .int 0, .int 0, .int 0, .int 0, .int 0, .int 0, .int 0, .int 0, .int 0, .int 0, .int 0, .int 0, .int 0, .int 0, .int 0, .int 0, .int 0, .int 0, .int 0, .int 0, .int 0, .int 0, .int 0, .int 0, .int 0, .int 0, .int 0, .int 0, .int 0, .int 0, .int 0, .int 0, .int 0, .int 0, .int 0, .int 0, .int 0, .int 0, .int 0, .int 0, .int 0, .int 0, .int 0, .int 0, .int 0, .int 0, .int 0, .int 0, .int 0, .int 0, .int 0, .int 0, .int 0, .int 0] := Aw7
  show C.W h7 [a2] 1 63 (mkF K.m 24 #[.val (.int c)] [.ref a2])
  refine C.dup rfl d21_24 ?_
  refine C.iconst (v := (5 : Int32)) d21_25 (by first | rfl | decide) ?_
  refine C.iloadN d21_26 rfl ?_
  refine C.castore 5 Aw7 (by first | rfl | decide) (Nat.le_of_ble_eq_true rfl) hc.1 hc.2 d21_27 (List.mem_of_getElem? (i := 0) rfl) fun h8 z8 K8 Aw8 => ?_
  have Aw8 : Ary Z h8 a2 .char [.int c, .int c, .int c, .int c, .int c, .int c, .int 0, .int 0, .int 0, .int 0, .int 0, .int 0, .int 0, .int 0, .int 0, .int 0, .int 0, .int 0, .int 0, .int 0, .int 0, .int 0, .int 0, .int 0, .int 0, .int 0, .int 0, .int 0, .int 0, .int 0, .int 0, .int 0, .int 0, .int 0, .int 0, .int 0, .int 0, .int 0, .int 0, .int 0, .int 0, .int 0, .int 0, .int 0, .int 0, .int 0, .int 0, .int 0, .int 0, .int 0, .int 0, .int 0, .int 0, .int 0, .int 0, .int 0, .int 0, .int 0, .int 0, .int 0, .int 0, .int 0, .int 0] := Aw8
  show C.W h8 [a2] 1 63 (mkF K.m 28 #[.val (.int c)] [.ref a2])
  refine C.dup rfl d21_28 ?_
  refine C.bipush (v := (6 : Int32)) d21_29 (by first | rfl | decide) ?_
  refine C.iloadN d21_31 rfl ?_
  refine C.castore 6 Aw8 (by first | rfl | decide) (Nat.le_of_ble_eq_true rfl) hc.1 hc.2 d21_32 (List.mem_of_getElem? (i := 0) rfl) fun h9 z9 K9 Aw9 => ?_
  have Aw9 : Ary Z h9 a2 .char [.int c, .int c, .int c, .int c, .int c, .int c, .int c, .int 0, .int 0, .int 0, .int 0, .int 0, .int 0, .int 0, .int 0, .int 0, .int 0, .int 0, .int 0, .int 0, .int 0, .int 0, .int 0, .int 0, .int 0, .int 0, .int 0, .int 0, .int 0, .int 0, .int 0, .int 0, .int 0, .int 0, .int 0, .int 0, .int 0, .int 0, .int 0, .int 0, .int 0, .int 0, .int 0, .int 0, .int 0, .int 0, .int 0, .int 0, .int 0, .int 0, .int 0, .int 0, .int 0, .int 0, .int 0, .int 0, .int 0, .int 0, .int 0, .int 0, .int 0, .int 0, .int 0] := Aw9
  show C.W h9 [a2] 1 63 (mkF K.m 33 #[.val (.int c)] [.ref a2])
  refine C.dup rfl d21_33 ?_
  refine C.bipush (v := (7 : Int32)) d21_34 (by first | rfl | decide) ?_
  refine C.iloadN d21_36 rfl ?_
  refine C.castore 7 Aw9 (by first | rfl | decide) (Nat.le_of_ble_eq_true rfl) hc.1 hc.2 d21_37 (List.mem_of_getElem? (i := 0) rfl) fun h10 z10 K10 Aw10 => ?_
  have Aw10 : Ary Z h10 a2 .char [.int c, .int c, .int c, .int c, .int c, .int c, .int c, .int c, .int 0, .int 0, .int 0, .int 0, .int 0, .int 0, .int 0, .int 0, .int 0, .int 0, .int 0, .int 0, .int 0, .int 0, .int 0, .int 0, .int 0, .int 0, .int 0, .int 0, .int 0, .int 0, .int 0, .int 0, .int 0, .int 0, .int 0, .int 0, .int 0, .int 0, .int 0, .int 0, .int 0, .int 0, .int 0, .int 0, .int 0, .int 0, .int 0, .int 0, .int 0, .int 0, .int 0, .int 0, .int 0, .int 0, .int 0, .int 0, .int 0, .int 0, .int 0, .int 0, .int 0, .int 0, .int 0] := Aw10
  show C.W h10 [a2] 1 63 (mkF K.m 38 #[.val (.int c)] [.ref a2])
  refine C.dup rfl d21_38 ?_
  refine C.bipush (v := (8 : Int32)) d21_39 (by first | rfl | decide) ?_
  refine C.iloadN d21_41 rfl ?_
  refine C.castore 8 Aw10 (by first | rfl | decide) (Nat.le_of_ble_eq_true rfl) hc.1 hc.2 d21_42 (List.mem_of_getElem? (i := 0) rfl) fun h11 z11 K11 Aw11 => ?_
  have Aw11 : Ary Z h11 a2 .char [.int c, .int c, .int c, .int c, .int c, .int c, .int c, .int c, .int c, .int 0, .int 0, .int 0, .int 0, .int 0, .int 0, .int 0, .int 0, .int 0, .int 0, .int 0, .int 0, .int 0, .int 0, .int 0, .int 0, .int 0, .int 0, .int 0, .int 0, .int 0, .int 0, .int 0, .int 0, .int 0, .int 0, .int 0, .int 0, .int 0, .int 0, .int 0, .int 0, .int 0, .int 0, .int 0, .int 0, .int 0, .int 0, .int 0, .int 0, .int 0, .int 0, .int 0, .int 0, .int 0, .int 0, .int 0, .int 0, .int 0, .int 0, .int 0, .int 0, .int 0, .int 0] := Aw11
  show C.W h11 [a2] 1 63 (mkF K.m 43 #[.val (.int c)] [.ref a2])
  refine C.dup rfl d21_43 ?_
  refine C.bipush (v := (9 : Int32)) d21_44 (by first | rfl | decide) ?_
  refine C.iloadN d21_46 rfl ?_
  refine C.castore 9 Aw11 (by first | rfl | decide) (Nat.le_of_ble_eq_true rfl) hc.1 hc.2 d21_47 (List.mem_of_getElem? (i := 0) rfl) fun h12 z12 K12 Aw12 => ?_
  have Aw12 : Ary Z h12 a2 .char [.int c, .int c, .int c, .int c, .int c, .int c, .int c, .int c, .int c, .int c, .int 0, .int 0, .int 0, .int 0, .int 0, .int 0, .int 0, .int 0, .int 0, .int 0, .int 0, .int 0, .int 0, .int 0, .int 0, .int 0, .int 0, .int 0, .int 0, .int 0, .int 0, .int 0, .int 0, .int 0, .int 0, .int 0, .int 0, .int 0, .int 0, .int 0, .int 0, .int 0, .int 0, .int 0, .int 0, .int 0, .int 0, .int 0, .int 0, .int 0, .int 0, .int 0, .int 0, .int 0, .int 0, .int 0, .int 0, .int 0, .int 0, .int 0, .int 0, .int 0, .int 0] := Aw12
  show C.W h12 [a2] 1 63 (mkF K.m 48 #[.val (.int c)] [.ref a2])
  refine C.dup rfl d21_48 ?_
  refine C.bipush (v := (10 : Int32)) d21_49 (by first | rfl | decide) ?_
  refine C.iloadN d21_51 rfl ?_
  refine C.castore 10 Aw12 (by first | rfl | decide) (Nat.le_of_ble_eq_true rfl) hc.1 hc.2 d21_52 (List.mem_of_getElem? (i := 0) rfl) fun h13 z13 K13 Aw13 => ?_
  have Aw13 : Ary Z h13 a2 .char [.int c, .int c, .int c, .int c, .int c, .int c, .int c, .int c, .int c, .int c, .int c, .int 0, .int 0, .int 0, .int 0, .int 0, .int 0, .int 0, .int 0, .int 0, .int 0, .int 0, .int 0, .int 0, .int 0, .int 0, .int 0, .int 0, .int 0, .int 0, .int 0, .int 0, .int 0, .int 0, .int 0, .int 0, .int 0, .int 0, .int 0, .int 0, .int 0, .int 0, .int 0, .int 0, .int 0, .int 0, .int 0, .int 0, .int 0, .int 0, .int 0, .int 0, .int 0, .int 0, .int 0, .int 0, .int 0, .int 0, .int 0, .int 0, .int 0, .int 0, .int 0] := Aw13
  show C.W h13 [a2] 1 63 (mkF K.m 53 #[.val (.int c)] [.ref a2])
  refine C.dup rfl d21_53 ?_
  refine C.bipush (v := (11 : Int32)) d21_54 (by first | rfl | decide) ?_
  refine C.iloadN d21_56 rfl ?_
  refine C.castore 11 Aw13 (by first | rfl | decide) (Nat.le_of_ble_eq_true rfl) hc.1 hc.2 d21_57 (List.mem_of_getElem? (i := 0) rfl) fun h14 z14 K14 Aw14 => ?_
  have Aw14 : Ary Z h14 a2 .char [.int c, .int c, .int c, .int c, .int c, .int c, .int c, .int c, .int c, .int c, .int c, .int c, .int 0, .int 0, .int 0, .int 0, .int 0, .int 0, .int 0, .int 0, .int 0, .int 0, .int 0, .int 0, .int 0, .int 0, .int 0, .int 0, .int 0, .int 0, .int 0, .int 0, .int 0, .int 0, .int 0, .int 0, .int 0, .int 0, .int 0, .int 0, .int 0, .int 0, .int 0, .int 0, .int 0, .int 0, .int 0, .int 0, .int 0, .int 0, .int 0, .int 0, .int 0, .int 0, .int 0, .int 0, .int 0, .int 0, .int 0, .int 0, .int 0, .int 0, .int 0] := Aw14
  show C.W h14 [a2] 1 63 (mkF K.m 58 #[.val (.int c)] [.ref a2])
  refine C.dup rfl d21_58 ?_
  refine C.bipush (v := (12 : Int32)) d21_59 (by first | rfl | decide) ?_
  refine C.iloadN d21_61 rfl ?_
  refine C.castore 12 Aw14 (by first | rfl | decide) (Nat.le_of_ble_eq_true rfl) hc.1 hc.2 d21_62 (List.mem_of_getElem? (i := 0) rfl) fun h15 z15 K15 Aw15 => ?_
  have Aw15 : Ary Z h15 a2 .char [.int c, .int c, .int c, .int c, .int c, .int c, .int c, .int c, .int c, .int c, .int c, .int c, .int c, .int 0, .int 0, .int 0, .int 0, .int 0, .int 0, .int 0, .int 0, .int 0, .int 0, .int 0, .int 0, .int 0, .int 0, .int 0, .int 0, .int 0, .int 0, .int 0, .int 0, .int 0, .int 0, .int 0, .int 0, .int 0, .int 0, .int 0, .int 0, .int 0, .int 0, .int 0, .int 0, .int 0, .int 0, .int 0, .int 0, .int 0, .int 0, .int 0, .int 0, .int 0, .int 0, .int 0, .int 0, .int 0, .int 0, .int 0, .int 0, .int 0, .int 0] := Aw15
  show C.W h15 [a2] 1 63 (mkF K.m 63 #[.val (.int c)] [.ref a2])
  refine C.dup rfl d21_63 ?_
  refine C.bipush (v := (13 : Int32)) d21_64 (by first | rfl | decide) ?_
  refine C.iloadN d21_66 rfl ?_
  refine C.castore 13 Aw15 (by first | rfl | decide) (Nat.le_of_ble_eq_true rfl) hc.1 hc.2 d21_67 (List.mem_of_getElem? (i := 0) rfl) fun h16 z16 K16 Aw16 => ?_
  have Aw16 : Ary Z h16 a2 .char [.int c, .int c, .int c, .int c, .int c, .int c, .int c, .int c, .int c, .int c, .int c, .int c, .int c, .int c, .int 0, .int 0, .int 0, .int 0, .int 0, .int 0, .int 0, .int 0, .int 0, .int 0, .int 0, .int 0, .int 0, .int 0, .int 0, .int 0, .int 0, .int 0, .int 0, .int 0, .int 0, .int 0, .int 0, .int 0, .int 0, .int 0, .int 0, .int 0, .int 0, .int 0, .int 0, .int 0, .int 0, .int 0, .int 0, .int 0, .int 0, .int 0, .int 0, .int 0, .int 0, .int 0, .int 0, .int 0, .int 0, .int 0, .int 0, .int 0, .int 0] := Aw16
  show C.W h16 [a2] 1 63 (mkF K.m 68 #[.val (.int c)] [.ref a2])
  refine C.dup rfl d21_68 ?_
  refine C.bipush (v := (14 : Int32)) d21_69 (by first | rfl | decide) ?_
  refine C.iloadN d21_71 rfl ?_
  refine C.castore 14 Aw16 (by first | rfl | decide) (Nat.le_of_ble_eq_true rfl) hc.1 hc.2 d21_72 (List.mem_of_getElem? (i := 0) rfl) fun h17 z17 K17 Aw17 => ?_
  have Aw17 : Ary Z h17 a2 .char [.int c, .int c, .int c, .int c, .int c, .int c, .int c, .int c, .int c, .int c, .int c, .int c, .int c, .int c, .int c, .int 0, .int 0, .int 0, .int 0, .int 0, .int 0, .int 0, .int 0, .int 0, .int 0, .int 0, .int 0, .int 0, .int 0, .int 0, .int 0, .int 0, .int 0, .int 0, .int 0, .int 0, .int 0, .int 0, .int 0, .int 0, .int 0, .int 0, .int 0, .int 0, .int 0, .int 0, .int 0, .int 0, .int 0, .int 0, .int 0, .int 0, .int 0, .int 0, .int 0, .int 0, .int 0, .int 0, .int 0, .int 0, .int 0, .int 0, .int 0] := Aw17
  show C.W h17 [a2] 1 63 (mkF K.m 73 #[.val (.int c)] [.ref a2])
  refine C.dup rfl d21_73 ?_
  refine C.bipush (v := (15 : Int32)) d21_74 (by first | rfl | decide) ?_
  refine C.iloadN d21_76 rfl ?_
  refine C.castore 15 Aw17 (by first | rfl | decide) (Nat.le_of_ble_eq_true rfl) hc.1 hc.2 d21_77 (List.mem_of_getElem? (i := 0) rfl) fun h18 z18 K18 Aw18 => ?_
  have Aw18 : Ary Z h18 a2 .char [.int c, .int c, .int c, .int c, .int c, .int c, .int c, .int c, .int c, .int c, .int c, .int c, .int c, .int c, .int c, .int c, .int 0, .int 0, .int 0, .int 0, .int 0, .int 0, .int 0, .int 0, .int 0, .int 0, .int 0, .int 0, .int 0, .int 0, .int 0, .int 0, .int 0, .int 0, .int 0, .int 0, .int 0, .int 0, .int 0, .int 0, .int 0, .int 0, .int 0, .int 0, .int 0, .int 0, .int 0, .int 0, .int 0, .int 0, .int 0, .int 0, .int 0, .int 0, .int 0, .int 0, .int 0, .int 0, .int 0, .int 0, .int 0, .int 0, .int 0] := Aw18
  show C.W h18 [a2] 1 63 (mkF K.m 78 #[.val (.int c)] [.ref a2])
  refine C.dup rfl d21_78 ?_
  refine C.bipush (v := (16 : Int32)) d21_79 (by first | rfl | decide) ?_
  refine C.iloadN d21_81 rfl ?_
  refine C.castore 16 Aw18 (by first | rfl | decide) (Nat.le_of_ble_eq_true rfl) hc.1 hc.2 d21_82 (List.mem_of_getElem? (i := 0) rfl) fun h19 z19 K19 Aw19 => ?_
  have Aw19 : Ary Z h19 a2 .char [.int c, .int c, .int c, .int c, .int c, .int c, .int c, .int c, .int c, .int c, .int c, .int c, .int c, .int c, .int c, .int c, .int c, .int 0, .int 0, .int 0, .int 0, .int 0, .int 0, .int 0, .int 0, .int 0, .int 0, .int 0, .int 0, .int 0, .int 0, .int 0, .int 0, .int 0, .int 0, .int 0, .int 0, .int 0, .int 0, .int 0, .int 0, .int 0, .int 0, .int 0, .int 0, .int 0, .int 0, .int 0, .int 0, .int 0, .int 0, .int 0, .int 0, .int 0, .int 0, .int 0, .int 0, .int 0, .int 0, .int 0, .int 0, .int 0, .int 0] := Aw19
  show C.W h19 [a2] 1 63 (mkF K.m 83 #[.val (.int c)] [.ref a2])
  refine C.dup rfl d21_83 ?_
  refine C.bipush (v := (17 : Int32)) d21_84 (by first | rfl | decide) ?_
  refine C.iloadN d21_86 rfl ?_
  refine C.castore 17 Aw19 (by first | rfl | decide) (Nat.le_of_ble_eq_true rfl) hc.1 hc.2 d21_87 (List.mem_of_getElem? (i := 0) rfl) fun h20 z20 K20 Aw20 => ?_
  have Aw20 : Ary Z h20 a2 .char [.int c, .int c, .int c, .int c, .int c, .int c, .int c, .int c, .int c, .int c, .int c, .int c, .int c, .int c, .int c, .int c, .int c, .int c, .int 0, .int 0, .int 0, .int 0, .int 0, .int 0, .int 0, .int 0, .int 0, .int 0, .int 0, .int 0, .int 0, .int 0, .int 0, .int 0, .int 0, .int 0, .int 0, .int 0, .int 0, .int 0, .int 0, .int 0, .int 0, .int 0, .int 0, .int 0, .int 0, .int 0, .int 0, .int 0, .int 0, .int 0, .int 0, .int 0, .int 0, .int 0, .int 0, .int 0, .int 0, .int 0, .int 0, .int 0, .int 0] := Aw20
  show C.W h20 [a2] 1 63 (mkF K.m 88 #[.val (.int c)] [.ref a2])
  refine C.dup rfl d21_88 ?_
  refine C.bipush (v := (18 : Int32)) d21_89 (by first | rfl | decide) ?_
  refine C.iloadN d21_91 rfl ?_
  refine C.castore 18 Aw20 (by first | rfl | decide) (Nat.le_of_ble_eq_true rfl) hc.1 hc.2 d21_92 (List.mem_of_getElem? (i := 0) rfl) fun h21 z21 K21 Aw21 => ?_
  have Aw21 : Ary Z h21 a2 .char [.int c, .int c, .int c, .int c, .int c, .int c, .int c, .int c, .int c, .int c, .int c, .int c, .int c, .int c, .int c, .int c, .int c, .int c, .int c, .int 0, .int 0, .int 0, .int 0, .int 0, .int 0, .int 0, .int 0, .int 0, .int 0, .int 0, .int 0, .int 0, .int 0, .int 0, .int 0, .int 0, .int 0, .int 0, .int 0, .int 0, .int 0, .int 0, .int 0, .int 0, .int 0, .int 0, .int 0, .int 0, .int 0, .int 0, .int 0, .int 0, .int 0, .int 0, .int 0, .int 0, .int 0, .int 0, .int 0, .int 0, .int 0, .int 0, .int 0] := Aw21
  show C.W h21 [a2] 1 63 (mkF K.m 93 #[.val (.int c)] [.ref a2])
  refine C.dup rfl d21_93 ?_
  refine C.bipush (v := (19 : Int32)) d21_94 (by first | rfl | decide) ?_
  refine C.iloadN d21_96 rfl ?_
  refine C.castore 19 Aw21 (by first | rfl | decide) (Nat.le_of_ble_eq_true rfl) hc.1 hc.2 d21_97 (List.mem_of_getElem? (i := 0) rfl) fun h22 z22 K22 Aw22 => ?_
  have Aw22 : Ary Z h22 a2 .char [.int c, .int c, .int c, .int c, .int c, .int c, .int c, .int c, .int c, .int c, .int c, .int c, .int c, .int c, .int c, .int c, .int c, .int c, .int c, .int c, .int 0, .int 0, .int 0, .int 0, .int 0, .int 0, .int 0, .int 0, .int 0, .int 0, .int 0, .int 0, .int 0, .int 0, .int 0, .int 0, .int 0, .int 0, .int 0, .int 0, .int 0, .int 0, .int 0, .int 0, .int 0, .int 0, .int 0, .int 0, .int 0, .int 0, .int 0, .int 0, .int 0, .int 0, .int 0, .int 0, .int 0, .int 0, .int 0, .int 0, .int 0, .int 0, .int 0] := Aw22
  show C.W h22 [a2] 1 63 (mkF K.m 98 #[.val (.int c)] [.ref a2])
  refine C.dup rfl d21_98 ?_
  refine C.bipush (v := (20 : Int32)) d21_99 (by first | rfl | decide) ?_
  refine C.iloadN d21_101 rfl ?_
  refine C.castore 20 Aw22 (by first | rfl | decide) (Nat.le_of_ble_eq_true rfl) hc.1 hc.2 d21_102 (List.mem_of_getElem? (i := 0) rfl) fun h23 z23 K23 Aw23 => ?_
  have Aw23 : Ary Z h23 a2 .char [.int c, .int c, .int c, .int c, .int c, .int c, .int c, .int c, .int c, .int c, .int c, .int c, .int c, .int c, .int c, .int c, .int c, .int c, .int c, .int c, .int c, .int 0, .int 0, .int 0, .int 0, .int 0, .int 0, .int 0, .int 0, .int 0, .int 0, .int 0, .int 0, .int 0, .int 0, .int 0, .int 0, .int 0, .int 0, .int 0, .int 0, .int 0, .int 0, .int 0, .int 0, .int 0, .int 0, .int 0, .int 0, .int 0, .int 0, .int 0, .int 0, .int 0, .int 0, .int 0, .int 0, .int 0, .int 0, .int 0, .int 0, .int 0, .int 0] := Aw23
  show C.W h23 [a2] 1 63 (mkF K.m 103 #[.val (.int c)] [.ref a2])
  refine C.dup rfl d21_103 ?_
  refine C.bipush (v := (21 : Int32)) d21_104 (by first | rfl | decide) ?_
  refine C.iloadN d21_106 rfl ?_
  refine C.castore 21 Aw23 (by first | rfl | decide) (Nat.le_of_ble_eq_true rfl) hc.1 hc.2 d21_107 (List.mem_of_getElem? (i := 0) rfl) fun h24 z24 K24 Aw24 => ?_
  have Aw24 : Ary Z h24 a2 .char [.int c, .int c, .int c, .int c, .int c, .int c, .int c, .int c, .int c, .int c, .int c, .int c, .int c, .int c, .int c, .int c, .int c, .int c, .int c, .int c, .int c, .int c, .int 0, .int 0, .int 0, .int 0, .int 0, .int 0, .int 0, .int 0, .int 0, .int 0, .int 0, .int 0, .int 0, .int 0, .int 0, .int 0, .int 0, .int 0, .int 0, .int 0, .int 0, .int 0, .int 0, .int 0, .int 0, .int 0, .int 0, .int 0, .int 0, .int 0, .int 0, .int 0, .int 0, .int 0, .int 0, .int 0, .int 0, .int 0, .int 0, .int 0, .int 0] := Aw24
  show C.W h24 [a2] 1 63 (mkF K.m 108 #[.val (.int c)] [.ref a2])
  refine C.dup rfl d21_108 ?_
  refine C.bipush (v := (22 : Int32)) d21_109 (by first | rfl | decide) ?_
  refine C.iloadN d21_111 rfl ?_
  refine C.castore 22 Aw24 (by first | rfl | decide) (Nat.le_of_ble_eq_true rfl) hc.1 hc.2 d21_112 (List.mem_of_getElem? (i := 0) rfl) fun h25 z25 K25 Aw25 => ?_
  have Aw25 : Ary Z h25 a2 .char [.int c, .int c, .int c, .int c, .int c, .int c, .int c, .int c, .int c, .int c, .int c, .int c, .int c, .int c, .int c, .int c, .int c, .int c, .int c, .int c, .int c, .int c, .int c, .int 0, .int 0, .int 0, .int 0, .int 0, .int 0, .int 0, .int 0, .int 0, .int 0, .int 0, .int 0, .int 0, .int 0, .int 0, .int 0, .int 0, .int 0, .int 0, .int 0, .int 0, .int 0, .int 0, .int 0, .int 0, .int 0, .int 0, .int 0, .int 0, .int 0, .int 0, .int 0, .int 0, .int 0, .int 0, .int 0, .int 0, .int 0, .int 0, .int 0] := Aw25
  show C.W h25 [a2] 1 63 (mkF K.m 113 #[.val (.int c)] [.ref a2])
  refine C.dup rfl d21_113 ?_
  refine C.bipush (v := (23 : Int32)) d21_114 (by first | rfl | decide) ?_
  refine C.iloadN d21_116 rfl ?_
  refine C.castore 23 Aw25 (by first | rfl | decide) (Nat.le_of_ble_eq_true rfl) hc.1 hc.2 d21_117 (List.mem_of_getElem? (i := 0) rfl) fun h26 z26 K26 Aw26 => ?_
  have Aw26 : Ary Z h26 a2 .char [.int c, .int c, .int c, .int c, .int c, .int c, .int c, .int c, .int c, .int c, .int c, .int c, .int c, .int c, .int c, .int c, .int c, .int c, .int c, .int c, .int c, .int c, .int c, .int c, .int 0, .int 0, .int 0, .int 0, .int 0, .int 0, .int 0, .int 0, .int 0, .int 0, .int 0, .int 0, .int 0, .int 0, .int 0, .int 0, .int 0, .int 0, .int 0, .int 0, .int 0, .int 0, .int 0, .int 0, .int 0, .int 0, .int 0, .int 0, .int 0, .int 0, .int 0, .int 0, .int 0, .int 0, .int 0, .int 0, .int 0, .int 0, .int 0] := Aw26
  show C.W h26 [a2] 1 63 (mkF K.m 118 #[.val (.int c)] [.ref a2])
  refine C.dup rfl d21_118 ?_
  refine C.bipush (v := (24 : Int32)) d21_119 (by first | rfl | decide) ?_
  refine C.iloadN d21_121 rfl ?_
  refine C.castore 24 Aw26 (by first | rfl | decide) (Nat.le_of_ble_eq_true rfl) hc.1 hc.2 d21_122 (List.mem_of_getElem? (i := 0) rfl) fun h27 z27 K27 Aw27 => ?_
  have Aw27 : Ary Z h27 a2 .char [.int c, .int c, .int c, .int c, .int c, .int c, .int c, .int c, .int c, .int c, .int c, .int c, .int c, .int c, .int c, .int c, .int c, .int c, .int c, .int c, .int c, .int c, .int c, .int c, .int c, .int 0, .int 0, .int 0, .int 0, .int 0, .int 0, .int 0, .int 0, .int 0, .int 0, .int 0, .int 0, .int 0, .int 0, .int 0, .int 0, .int 0, .int 0, .int 0, .int 0, .int 0, .int 0, .int 0, .int 0, .int 0, .int 0, .int 0, .int 0, .int 0, .int 0, .int 0, .int 0, .int 0, .int 0, .int 0, .int 0, .int 0, .int 0] := Aw27
  show C.W h27 [a2] 1 63 (mkF K.m 123 #[.val (.int c)] [.ref a2])
  refine C.dup rfl d21_123 ?_
  refine C.bipush (v := (25 : Int32)) d21_124 (by first | rfl | decide) ?_
  refine C.iloadN d21_126 rfl ?_
  refine C.castore 25 Aw27 (by first | rfl | decide) (Nat.le_of_ble_eq_true rfl) hc.1 hc.2 d21_127 (List.mem_of_getElem? (i := 0) rfl) fun h28 z28 K28 Aw28 => ?_
  have Aw28 : Ary Z h28 a2 .char [.int c, .int c, .int c, .int c, .int c, .int c, .int c, .int c, .int c, .int c, .int c, .int c, .int c, .int c, .int c, .int c, .int c, .int c, .int c, .int c, .int c, .int c, .int c, .int c, .int c, .int c, .int 0, .int 0, .int 0, .int 0, .int 0, .int 0, .int 0, .int 0, .int 0, .int 0, .int 0, .int 0, .int 0, .int 0, .int 0, .int 0, .int 0, .int 0, .int 0, .int 0, .int 0, .int 0, .int 0, .int 0, .int 0, .int 0, .int 0, .int 0, .int 0, .int 0, .int 0, .int 0, .int 0, .int 0, .int 0, .int 0, .int 0] := Aw28
  show C.W h28 [a2] 1 63 (mkF K.m 128 #[.val (.int c)] [.ref a2])
  refine C.dup rfl d21_128 ?_
  refine C.bipush (v := (26 : Int32)) d21_129 (by first | rfl | decide) ?_
  refine C.iloadN d21_131 rfl ?_
  refine C.castore 26 Aw28 (by first | rfl | decide) (Nat.le_of_ble_eq_true rfl) hc.1 hc.2 d21_132 (List.mem_of_getElem? (i := 0) rfl) fun h29 z29 K29 Aw29 => ?_
  have Aw29 : Ary Z h29 a2 .char [.int c, .int c, .int c, .int c, .int c, .int c, .int c, .int c, .int c, .int c, .int c, .int c, .int c, .int c, .int c, .int c, .int c, .int c, .int c, .int c, .int c, .int c, .int c, .int c, .int c, .int c, .int c, .int 0, .int 0, .int 0, .int 0, .int 0, .int 0, .int 0, .int 0, .int 0, .int 0, .int 0, .int 0, .int 0, .int 0, .int 0, .int 0, .int 0, .int 0, .int 0, .int 0, .int 0, .int 0, .int 0, .int 0, .int 0, .int 0, .int 0, .int 0, .int 0, .int 0, .int 0, .int 0, .int 0, .int 0, .int 0, .int 0] := Aw29
  show C.W h29 [a2] 1 63 (mkF K.m 133 #[.val (.int c)] [.ref a2])
  refine C.dup rfl d21_133 ?_
  refine C.bipush (v := (27 : Int32)) d21_134 (by first | rfl | decide) ?_
  refine C.iloadN d21_136 rfl ?_
  refine C.castore 27 Aw29 (by first | rfl | decide) (Nat.le_of_ble_eq_true rfl) hc.1 hc.2 d21_137 (List.mem_of_getElem? (i := 0) rfl) fun h30 z30 K30 Aw30 => ?_
  have Aw30 : Ary Z h30 a2 .char [.int c, .int c, .int c, .int c, .int c, .int c, .int c, .int c, .int c, .int c, .int c, .int c, .int c, .int c, .int c, .int c, .int c, .int c, .int c, .int c, .int c, .int c, .int c, .int c, .int c, .int c, .int c, .int c, .int 0, .int 0, .int 0, .int 0, .int 0, .int 0, .int 0, .int 0, .int 0, .int 0, .int 0, .int 0, .int 0, .int 0, .int 0, .int 0, .int 0, .int 0, .int 0, .int 0, .int 0, .int 0, .int 0, .int 0, .int 0, .int 0, .int 0, .int 0, .int 0, .int 0, .int 0, .int 0, .int 0, .int 0, .int 0] := Aw30
  show C.W h30 [a2] 1 63 (mkF K.m 138 #[.val (.int c)] [.ref a2])
  refine C.dup rfl d21_138 ?_
  refine C.bipush (v := (28 : Int32)) d21_139 (by first | rfl | decide) ?_
  refine C.iloadN d21_141 rfl ?_
  refine C.castore 28 Aw30 (by first | rfl | decide) (Nat.le_of_ble_eq_true rfl) hc.1 hc.2 d21_142 (List.mem_of_getElem? (i := 0) rfl) fun h31 z31 K31 Aw31 => ?_
  have Aw31 : Ary Z h31 a2 .char [.int c, .int c, .int c, .int c, .int c, .int c, .int c, .int c, .int c, .int c, .int c, .int c, .int c, .int c, .int c, .int c, .int c, .int c, .int c, .int c, .int c, .int c, .int c, .int c, .int c, .int c, .int c, .int c, .int c, .int 0, .int 0, .int 0, .int 0, .int 0, .int 0, .int 0, .int 0, .int 0, .int 0, .int 0, .int 0, .int 0, .int 0, .int 0, .int 0, .int 0, .int 0, .int 0, .int 0, .int 0, .int 0, .int 0, .int 0, .int 0, .int 0, .int 0, .int 0, .int 0, .int 0, .int 0, .int 0, .int 0, .int 0] := Aw31
  show C.W h31 [a2] 1 63 (mkF K.m 143 #[.val (.int c)] [.ref a2])
  refine C.dup rfl d21_143 ?_
  refine C.bipush (v := (29 : Int32)) d21_144 (by first | rfl | decide) ?_
  refine C.iloadN d21_146 rfl ?_
  refine C.castore 29 Aw31 (by first | rfl | decide) (Nat.le_of_ble_eq_true rfl) hc.1 hc.2 d21_147 (List.mem_of_getElem? (i := 0) rfl) fun h32 z32 K32 Aw32 => ?_
  have Aw32 : Ary Z h32 a2 .char [.int c, .int c, .int c, .int c, .int c, .int c, .int c, .int c, .int c, .int c, .int c, .int c, .int c, .int c, .int c, .int c, .int c, .int c, .int c, .int c, .int c, .int c, .int c, .int c, .int c, .int c, .int c, .int c, .int c, .int c, .int 0, .int 0, .int 0, .int 0, .int 0, .int 0, .int 0, .int 0, .int 0, .int 0, .int 0, .int 0, .int 0, .int 0, .int 0, .int 0, .int 0, .int 0, .int 0, .int 0, .int 0, .int 0, .int 0, .int 0, .int 0, .int 0, .int 0, .int 0, .int 0, .int 0, .int 0, .int 0, .int 0] := Aw32
  show C.W h32 [a2] 1 63 (mkF K.m 148 #[.val (.int c)] [.ref a2])
  refine C.dup rfl d21_148 ?_
  refine C.bipush (v := (30 : Int32)) d21_149 (by first | rfl | decide) ?_
  refine C.iloadN d21_151 rfl ?_
  refine C.castore 30 Aw32 (by first | rfl | decide) (Nat.le_of_ble_eq_true rfl) hc.1 hc.2 d21_152 (List.mem_of_getElem? (i := 0) rfl) fun h33 z33 K33 Aw33 => ?_
  have Aw33 : Ary Z h33 a2 .char [.int c, .int c, .int c, .int c, .int c, .int c, .int c, .int c, .int c, .int c, .int c, .int c, .int c, .int c, .int c, .int c, .int c, .int c, .int c, .int c, .int c, .int c, .int c, .int c, .int c, .int c, .int c, .int c, .int c, .int c, .int c, .int 0, .int 0, .int 0, .int 0, .int 0, .int 0, .int 0, .int 0, .int 0, .int 0, .int 0, .int 0, .int 0, .int 0, .int 0, .int 0, .int 0, .int 0, .int 0, .int 0, .int 0, .int 0, .int 0, .int 0, .int 0, .int 0, .int 0, .int 0, .int 0, .int 0, .int 0, .int 0] := Aw33
  show C.W h33 [a2] 1 63 (mkF K.m 153 #[.val (.int c)] [.ref a2])
  refine C.dup rfl d21_153 ?_
  refine C.bipush (v := (31 : Int32)) d21_154 (by first | rfl | decide) ?_
  refine C.iloadN d21_156 rfl ?_
  refine C.castore 31 Aw33 (by first | rfl | decide) (Nat.le_of_ble_eq_true rfl) hc.1 hc.2 d21_157 (List.mem_of_getElem? (i := 0) rfl) fun h34 z34 K34 Aw34 => ?_
  have Aw34 : Ary Z h34 a2 .char [.int c, .int c, .int c, .int c, .int c, .int c, .int c, .int c, .int c, .int c, .int c, .int c, .int c, .int c, .int c, .int c, .int c, .int c, .int c, .int c, .int c, .int c, .int c, .int c, .int c, .int c, .int c, .int c, .int c, .int c, .int c, .int c, .int 0, .int 0, .int 0, .int 0, .int 0, .int 0, .int 0, .int 0, .int 0, .int 0, .int 0, .int 0, .int 0, .int 0, .int 0, .int 0, .int 0, .int 0, .int 0, .int 0, .int 0, .int 0, .int 0, .int 0, .int 0, .int 0, .int 0, .int 0, .int 0, .int 0, .int 0] := Aw34
  show C.W h34 [a2] 1 63 (mkF K.m 158 #[.val (.int c)] [.ref a2])
  refine C.dup rfl d21_158 ?_
  refine C.bipush (v := (32 : Int32)) d21_159 (by first | rfl | decide) ?_
  refine C.iloadN d21_161 rfl ?_
  refine C.castore 32 Aw34 (by first | rfl | decide) (Nat.le_of_ble_eq_true rfl) hc.1 hc.2 d21_162 (List.mem_of_getElem? (i := 0) rfl) fun h35 z35 K35 Aw35 => ?_
  have Aw35 : Ary Z h35 a2 .char [.int c, .int c, .int c, .int c, .int c, .int c, .int c, .int c, .int c, .int c, .int c, .int c, .int c, .int c, .int c, .int c, .int c, .int c, .int c, .int c, .int c, .int c, .int c, .int c, .int c, .int c, .int c, .int c, .int c, .int c, .int c, .int c, .int c, .int 0, .int 0, .int 0, .int 0, .int 0, .int 0, .int 0, .int 0, .int 0, .int 0, .int 0, .int 0, .int 0, .int 0, .int 0, .int 0, .int 0, .int 0, .int 0, .int 0, .int 0, .int 0, .int 0, .int 0, .int 0, .int 0, .int 0, .int 0, .int 0, .int 0] := Aw35
  show C.W h35 [a2] 1 63 (mkF K.m 163 #[.val (.int c)] [.ref a2])
  refine C.dup rfl d21_163 ?_
  refine C.bipush (v := (33 : Int32)) d21_164 (by first | rfl | decide) ?_
  refine C.iloadN d21_166 rfl ?_
  refine C.castore 33 Aw35 (by first | rfl | decide) (Nat.le_of_ble_eq_true rfl) hc.1 hc.2 d21_167 (List.mem_of_getElem? (i := 0) rfl) fun h36 z36 K36 Aw36 => ?_
  have Aw36 : Ary Z h36 a2 .char [.int c, .int c, .int c, .int c, .int c, .int c, .int c, .int c, .int c, .int c, .int c, .int c, .int c, .int c, .int c, .int c, .int c, .int c, .int c, .int c, .int c, .int c, .int c, .int c, .int c, .int c, .int c, .int c, .int c, .int c, .int c, .int c, .int c, .int c, .int 0, .int 0, .int 0, .int 0, .int 0, .int 0, .int 0, .int 0, .int 0, .int 0, .int 0, .int 0, .int 0, .int 0, .int 0, .int 0, .int 0, .int 0, .int 0, .int 0, .int 0, .int 0, .int 0, .int 0, .int 0, .int 0, .int 0, .int 0, .int 0] := Aw36
  show C.W h36 [a2] 1 63 (mkF K.m 168 #[.val (.int c)] [.ref a2])
  refine C.dup rfl d21_168 ?_
  refine C.bipush (v := (34 : Int32)) d21_169 (by first | rfl | decide) ?_
  refine C.iloadN d21_171 rfl ?_
  refine C.castore 34 Aw36 (by first | rfl | decide) (Nat.le_of_ble_eq_true rfl) hc.1 hc.2 d21_172 (List.mem_of_getElem? (i := 0) rfl) fun h37 z37 K37 Aw37 => ?_
  have Aw37 : Ary Z h37 a2 .char [.int c, .int c, .int c, .int c, .int c, .int c, .int c, .int c, .int c, .int c, .int c, .int c, .int c, .int c, .int c, .int c, .int c, .int c, .int c, .int c, .int c, .int c, .int c, .int c, .int c, .int c, .int c, .int c, .int c, .int c, .int c, .int c, .int c, .int c, .int c, .int 0, .int 0, .int 0, .int 0, .int 0, .int 0, .int 0, .int 0, .int 0, .int 0, .int 0, .int 0, .int 0, .int 0, .int 0, .int 0, .int 0, .int 0, .int 0, .int 0, .int 0, .int 0, .int 0, .int 0, .int 0, .int 0, .int 0, .int 0] := Aw37
  show C.W h37 [a2] 1 63 (mkF K.m 173 #[.val (.int c)] [.ref a2])
  refine C.dup rfl d21_173 ?_
  refine C.bipush (v := (35 : Int32)) d21_174 (by first | rfl | decide) ?_
  refine C.iloadN d21_176 rfl ?_
  refine C.castore 35 Aw37 (by first | rfl | decide) (Nat.le_of_ble_eq_true rfl) hc.1 hc.2 d21_177 (List.mem_of_getElem? (i := 0) rfl) fun h38 z38 K38 Aw38 => ?_
  have Aw38 : Ary Z h38 a2 .char [.int c, .int c, .int c, .int c, .int c, .int c, .int c, .int c, .int c, .int c, .int c, .int c, .int c, .int c, .int c, .int c, .int c, .int c, .int c, .int c, .int c, .int c, .int c, .int c, .int c, .int c, .int c, .int c, .int c, .int c, .int c, .int c, .int c, .int c, .int c, .int c, .int 0, .int 0, .int 0, .int 0, .int 0, .int 0, .int 0, .int 0, .int 0, .int 0, .int 0, .int 0, .int 0, .int 0, .int 0, .int 0, .int 0, .int 0, .int 0, .int 0, .int 0, .int 0, .int 0, .int 0, .int 0, .int 0, .int 0] := Aw38
  show C.W h38 [a2] 1 63 (mkF K.m 178 #[.val (.int c)] [.ref a2])
  refine C.dup rfl d21_178 ?_
  refine C.bipush (v := (36 : Int32)) d21_179 (by first | rfl | decide) ?_
  refine C.iloadN d21_181 rfl ?_
  refine C.castore 36 Aw38 (by first | rfl | decide) (Nat.le_of_ble_eq_true rfl) hc.1 hc.2 d21_182 (List.mem_of_getElem? (i := 0) rfl) fun h39 z39 K39 Aw39 => ?_
  have Aw39 : Ary Z h39 a2 .char [.int c, .int c, .int c, .int c, .int c, .int c, .int c, .int c, .int c, .int c, .int c, .int c, .int c, .int c, .int c, .int c, .int c, .int c, .int c, .int c, .int c, .int c, .int c, .int c, .int c, .int c, .int c, .int c, .int c, .int c, .int c, .int c, .int c, .int c, .int c, .int c, .int c, .int 0, .int 0, .int 0, .int 0, .int 0, .int 0, .int 0, .int 0, .int 0, .int 0, .int 0, .int 0, .int 0, .int 0, .int 0, .int 0, .int 0, .int 0, .int 0, .int 0, .int 0, .int 0, .int 0, .int 0, .int 0, .int 0] := Aw39
  show C.W h39 [a2] 1 63 (mkF K.m 183 #[.val (.int c)] [.ref a2])
  refine C.dup rfl d21_183 ?_
  refine C.bipush (v := (37 : Int32)) d21_184 (by first | rfl | decide) ?_
  refine C.iloadN d21_186 rfl ?_
  refine C.castore 37 Aw39 (by first | rfl | decide) (Nat.le_of_ble_eq_true rfl) hc.1 hc.2 d21_187 (List.mem_of_getElem? (i := 0) rfl) fun h40 z40 K40 Aw40 => ?_
  have Aw40 : Ary Z h40 a2 .char [.int c, .int c, .int c, .int c, .int c, .int c, .int c, .int c, .int c, .int c, .int c, .int c, .int c, .int c, .int c, .int c, .int c, .int c, .int c, .int c, .int c, .int c, .int c, .int c, .int c, .int c, .int c, .int c, .int c, .int c, .int c, .int c, .int c, .int c, .int c, .int c, .int c, .int c, .int 0, .int 0, .int 0, .int 0, .int 0, .int 0, .int 0, .int 0, .int 0, .int 0, .int 0, .int 0, .int 0, .int 0, .int 0, .int 0, .int 0, .int 0, .int 0, .int 0, .int 0, .int 0, .int 0, .int 0, .int 0] := Aw40
  show C.W h40 [a2] 1 63 (mkF K.m 188 #[.val (.int c)] [.ref a2])
  refine C.dup rfl d21_188 ?_
  refine C.bipush (v := (38 : Int32)) d21_189 (by first | rfl | decide) ?_
  refine C.iloadN d21_191 rfl ?_
  refine C.castore 38 Aw40 (by first | rfl | decide) (Nat.le_of_ble_eq_true rfl) hc.1 hc.2 d21_192 (List.mem_of_getElem? (i := 0) rfl) fun h41 z41 K41 Aw41 => ?_
  have Aw41 : Ary Z h41 a2 .char [.int c, .int c, .int c, .int c, .int c, .int c, .int c, .int c, .int c, .int c, .int c, .int c, .int c, .int c, .int c, .int c, .int c, .int c, .int c, .int c, .int c, .int c, .int c, .int c, .int c, .int c, .int c, .int c, .int c, .int c, .int c, .int c, .int c, .int c, .int c, .int c, .int c, .int c, .int c, .int 0, .int 0, .int 0, .int 0, .int 0, .int 0, .int 0, .int 0, .int 0, .int 0, .int 0, .int 0, .int 0, .int 0, .int 0, .int 0, .int 0, .int 0, .int 0, .int 0, .int 0, .int 0, .int 0, .int 0] := Aw41
  show C.W h41 [a2] 1 63 (mkF K.m 193 #[.val (.int c)] [.ref a2])
  refine C.dup rfl d21_193 ?_
  refine C.bipush (v := (39 : Int32)) d21_194 (by first | rfl | decide) ?_
  refine C.iloadN d21_196 rfl ?_
  refine C.castore 39 Aw41 (by first | rfl | decide) (Nat.le_of_ble_eq_true rfl) hc.1 hc.2 d21_197 (List.mem_of_getElem? (i := 0) rfl) fun h42 z42 K42 Aw42 => ?_
  have Aw42 : Ary Z h42 a2 .char [.int c, .int c, .int c, .int c, .int c, .int c, .int c, .int c, .int c, .int c, .int c, .int c, .int c, .int c, .int c, .int c, .int c, .int c, .int c, .int c, .int c, .int c, .int c, .int c, .int c, .int c, .int c, .int c, .int c, .int c, .int c, .int c, .int c, .int c, .int c, .int c, .int c, .int c, .int c, .int c, .int 0, .int 0, .int 0, .int 0, .int 0, .int 0, .int 0, .int 0, .int 0, .int 0, .int 0, .int 0, .int 0, .int 0, .int 0, .int 0, .int 0, .int 0, .int 0, .int 0, .int 0, .int 0, .int 0] := Aw42
  show C.W h42 [a2] 1 63 (mkF K.m 198 #[.val (.int c)] [.ref a2])
  refine C.dup rfl d21_198 ?_
  refine C.bipush (v := (40 : Int32)) d21_199 (by first | rfl | decide) ?_
  refine C.iloadN d21_201 rfl ?_
  refine C.castore 40 Aw42 (by first | rfl | decide) (Nat.le_of_ble_eq_true rfl) hc.1 hc.2 d21_202 (List.mem_of_getElem? (i := 0) rfl) fun h43 z43 K43 Aw43 => ?_
  have Aw43 : Ary Z h43 a2 .char [.int c, .int c, .int c, .int c, .int c, .int c, .int c, .int c, .int c, .int c, .int c, .int c, .int c, .int c, .int c, .int c, .int c, .int c, .int c, .int c, .int c, .int c, .int c, .int c, .int c, .int c, .int c, .int c, .int c, .int c, .int c, .int c, .int c, .int c, .int c, .int c, .int c, .int c, .int c, .int c, .int c, .int 0, .int 0, .int 0, .int 0, .int 0, .int 0, .int 0, .int 0, .int 0, .int 0, .int 0, .int 0, .int 0, .int 0, .int 0, .int 0, .int 0, .int 0, .int 0, .int 0, .int 0, .int 0] := Aw43
  show C.W h43 [a2] 1 63 (mkF K.m 203 #[.val (.int c)] [.ref a2])
  refine C.dup rfl d21_203 ?_
  refine C.bipush (v := (41 : Int32)) d21_204 (by first | rfl | decide) ?_
  refine C.iloadN d21_206 rfl ?_
  refine C.castore 41 Aw43 (by first | rfl | decide) (Nat.le_of_ble_eq_true rfl) hc.1 hc.2 d21_207 (List.mem_of_getElem? (i := 0) rfl) fun h44 z44 K44 Aw44 => ?_
  have Aw44 : Ary Z h44 a2 .char [.int c, .int c, .int c, .int c, .int c, .int c, .int c, .int c, .int c, .int c, .int c, .int c, .int c, .int c, .int c, .int c, .int c, .int c, .int c, .int c, .int c, .int c, .int c, .int c, .int c, .int c, .int c, .int c, .int c, .int c, .int c, .int c, .int c, .int c, .int c, .int c, .int c, .int c, .int c, .int c, .int c, .int c, .int 0, .int 0, .int 0, .int 0, .int 0, .int 0, .int 0, .int 0, .int 0, .int 0, .int 0, .int 0, .int 0, .int 0, .int 0, .int 0, .int 0, .int 0, .int 0, .int 0, .int 0] := Aw44
  show C.W h44 [a2] 1 63 (mkF K.m 208 #[.val (.int c)] [.ref a2])
  refine C.dup rfl d21_208 ?_
  refine C.bipush (v := (42 : Int32)) d21_209 (by first | rfl | decide) ?_
  refine C.iloadN d21_211 rfl ?_
  refine C.castore 42 Aw44 (by first | rfl | decide) (Nat.le_of_ble_eq_true rfl) hc.1 hc.2 d21_212 (List.mem_of_getElem? (i := 0) rfl) fun h45 z45 K45 Aw45 => ?_
  have Aw45 : Ary Z h45 a2 .char [.int c, .int c, .int c, .int c, .int c, .int c, .int c, .int c, .int c, .int c, .int c, .int c, .int c, .int c, .int c, .int c, .int c, .int c, .int c, .int c, .int c, .int c, .int c, .int c, .int c, .int c, .int c, .int c, .int c, .int c, .int c, .int c, .int c, .int c, .int c, .int c, .int c, .int c, .int c, .int c, .int c, .int c, .int c, .int 0, .int 0, .int 0, .int 0, .int 0, .int 0, .int 0, .int 0, .int 0, .int 0, .int 0, .int 0, .int 0, .int 0, .int 0, .int 0, .int 0, .int 0, .int 0, .int 0] := Aw45
  show C.W h45 [a2] 1 63 (mkF K.m 213 #[.val (.int c)] [.ref a2])
  refine C.dup rfl d21_213 ?_
  refine C.bipush (v := (43 : Int32)) d21_214 (by first | rfl | decide) ?_
  refine C.iloadN d21_216 rfl ?_
  refine C.castore 43 Aw45 (by first | rfl | decide) (Nat.le_of_ble_eq_true rfl) hc.1 hc.2 d21_217 (List.mem_of_getElem? (i := 0) rfl) fun h46 z46 K46 Aw46 => ?_
  have Aw46 : Ary Z h46 a2 .char [.int c, .int c, .int c, .int c, .int c, .int c, .int c, .int c, .int c, .int c, .int c, .int c, .int c, .int c, .int c, .int c, .int c, .int c, .int c, .int c, .int c, .int c, .int c, .int c, .int c, .int c, .int c, .int c, .int c, .int c, .int c, .int c, .int c, .int c, .int c, .int c, .int c, .int c, .int c, .int c, .int c, .int c, .int c, .int c, .int 0, .int 0, .int 0, .int 0, .int 0, .int 0, .int 0, .int 0, .int 0, .int 0, .int 0, .int 0, .int 0, .int 0, .int 0, .int 0, .int 0, .int 0, .int 0] := Aw46
  show C.W h46 [a2] 1 63 (mkF K.m 218 #[.val (.int c)] [.ref a2])
  refine C.dup rfl d21_218 ?_
  refine C.bipush (v := (44 : Int32)) d21_219 (by first | rfl | decide) ?_
  refine C.iloadN d21_221 rfl ?_
  refine C.castore 44 Aw46 (by first | rfl | decide) (Nat.le_of_ble_eq_true rfl) hc.1 hc.2 d21_222 (List.mem_of_getElem? (i := 0) rfl) fun h47 z47 K47 Aw47 => ?_
  have Aw47 : Ary Z h47 a2 .char [.int c, .int c, .int c, .int c, .int c, .int c, .int c, .int c, .int c, .int c, .int c, .int c, .int c, .int c, .int c, .int c, .int c, .int c, .int c, .int c, .int c, .int c, .int c, .int c, .int c, .int c, .int c, .int c, .int c, .int c, .int c, .int c, .int c, .int c, .int c, .int c, .int c, .int c, .int c, .int c, .int c, .int c, .int c, .int c, .int c, .int 0, .int 0, .int 0, .int 0, .int 0, .int 0, .int 0, .int 0, .int 0, .int 0, .int 0, .int 0, .int 0, .int 0, .int 0, .int 0, .int 0, .int 0] := Aw47
  show C.W h47 [a2] 1 63 (mkF K.m 223 #[.val (.int c)] [.ref a2])
  refine C.dup rfl d21_223 ?_
  refine C.bipush (v := (45 : Int32)) d21_224 (by first | rfl | decide) ?_
  refine C.iloadN d21_226 rfl ?_
  refine C.castore 45 Aw47 (by first | rfl | decide) (Nat.le_of_ble_eq_true rfl) hc.1 hc.2 d21_227 (List.mem_of_getElem? (i := 0) rfl) fun h48 z48 K48 Aw48 => ?_
  have Aw48 : Ary Z h48 a2 .char [.int c, .int c, .int c, .int c, .int c, .int c, .int c, .int c, .int c, .int c, .int c, .int c, .int c, .int c, .int c, .int c, .int c, .int c, .int c, .int c, .int c, .int c, .int c, .int c, .int c, .int c, .int c, .int c, .int c, .int c, .int c, .int c, .int c, .int c, .int c, .int c, .int c, .int c, .int c, .int c, .int c, .int c, .int c, .int c, .int c, .int c, .int 0, .int 0, .int 0, .int 0, .int 0, .int 0, .int 0, .int 0, .int 0, .int 0, .int 0, .int 0, .int 0, .int 0, .int 0, .int 0, .int 0] := Aw48
  show C.W h48 [a2] 1 63 (mkF K.m 228 #[.val (.int c)] [.ref a2])
  refine C.dup rfl d21_228 ?_
  refine C.bipush (v := (46 : Int32)) d21_229 (by first | rfl | decide) ?_
  refine C.iloadN d21_231 rfl ?_
  refine C.castore 46 Aw48 (by first | rfl | decide) (Nat.le_of_ble_eq_true rfl) hc.1 hc.2 d21_232 (List.mem_of_getElem? (i := 0) rfl) fun h49 z49 K49 Aw49 => ?_
  have Aw49 : Ary Z h49 a2 .char [.int c, .int c, .int c, .int c, .int c, .int c, .int c, .int c, .int c, .int c, .int c, .int c, .int c, .int c, .int c, .int c, .int c, .int c, .int c, .int c, .int c, .int c, .int c, .int c, .int c, .int c, .int c, .int c, .int c, .int c, .int c, .int c, .int c, .int c, .int c, .int c, .int c, .int c, .int c, .int c, .int c, .int c, .int c, .int c, .int c, .int c, .int c, .int 0, .int 0, .int 0, .int 0, .int 0, .int 0, .int 0, .int 0, .int 0, .int 0, .int 0, .int 0, .int 0, .int 0, .int 0, .int 0] := Aw49
  show C.W h49 [a2] 1 63 (mkF K.m 233 #[.val (.int c)] [.ref a2])
  refine C.dup rfl d21_233 ?_
  refine C.bipush (v := (47 : Int32)) d21_234 (by first | rfl | decide) ?_
  refine C.iloadN d21_236 rfl ?_
  refine C.castore 47 Aw49 (by first | rfl | decide) (Nat.le_of_ble_eq_true rfl) hc.1 hc.2 d21_237 (List.mem_of_getElem? (i := 0) rfl) fun h50 z50 K50 Aw50 => ?_
  have Aw50 : Ary Z h50 a2 .char [.int c, .int c, .int c, .int c, .int c, .int c, .int c, .int c, .int c, .int c, .int c, .int c, .int c, .int c, .int c, .int c, .int c, .int c, .int c, .int c, .int c, .int c, .int c, .int c, .int c, .int c, .int c, .int c, .int c, .int c, .int c, .int c, .int c, .int c, .int c, .int c, .int c, .int c, .int c, .int c, .int c, .int c, .int c, .int c, .int c, .int c, .int c, .int c, .int 0, .int 0, .int 0, .int 0, .int 0, .int 0, .int 0, .int 0, .int 0, .int 0, .int 0, .int 0, .int 0, .int 0, .int 0] := Aw50
  show C.W h50 [a2] 1 63 (mkF K.m 238 #[.val (.int c)] [.ref a2])
  refine C.dup rfl d21_238 ?_
  refine C.bipush (v := (48 : Int32)) d21_239 (by first | rfl | decide) ?_
  refine C.iloadN d21_241 rfl ?_
  refine C.castore 48 Aw50 (by first | rfl | decide) (Nat.le_of_ble_eq_true rfl) hc.1 hc.2 d21_242 (List.mem_of_getElem? (i := 0) rfl) fun h51 z51 K51 Aw51 => ?_
  have Aw51 : Ary Z h51 a2 .char [.int c, .int c, .int c, .int c, .int c, .int c, .int c, .int c, .int c, .int c, .int c, .int c, .int c, .int c, .int c, .int c, .int c, .int c, .int c, .int c, .int c, .int c, .int c, .int c, .int c, .int c, .int c, .int c, .int c, .int c, .int c, .int c, .int c, .int c, .int c, .int c, .int c, .int c, .int c, .int c, .int c, .int c, .int c, .int c, .int c, .int c, .int c, .int c, .int c, .int 0, .int 0, .int 0, .int 0, .int 0, .int 0, .int 0, .int 0, .int 0, .int 0, .int 0, .int 0, .int 0, .int 0] := Aw51
  show C.W h51 [a2] 1 63 (mkF K.m 243 #[.val (.int c)] [.ref a2])
  refine C.dup rfl d21_243 ?_
  refine C.bipush (v := (49 : Int32)) d21_244 (by first | rfl | decide) ?_
  refine C.iloadN d21_246 rfl ?_
  refine C.castore 49 Aw51 (by first | rfl | decide) (Nat.le_of_ble_eq_true rfl) hc.1 hc.2 d21_247 (List.mem_of_getElem? (i := 0) rfl) fun h52 z52 K52 Aw52 => ?_
  have Aw52 : Ary Z h52 a2 .char [.int c, .int c, .int c, .int c, .int c, .int c, .int c, .int c, .int c, .int c, .int c, .int c, .int c, .int c, .int c, .int c, .int c, .int c, .int c, .int c, .int c, .int c, .int c, .int c, .int c, .int c, .int c, .int c, .int c, .int c, .int c, .int c, .int c, .int c, .int c, .int c, .int c, .int c, .int c, .int c, .int c, .int c, .int c, .int c, .int c, .int c, .int c, .int c, .int c, .int c, .int 0, .int 0, .int 0, .int 0, .int 0, .int 0, .int 0, .int 0, .int 0, .int 0, .int 0, .int 0, .int 0] := Aw52
  show C.W h52 [a2] 1 63 (mkF K.m 248 #[.val (.int c)] [.ref a2])
  refine C.dup rfl d21_248 ?_
  refine C.bipush (v := (50 : Int32)) d21_249 (by first | rfl | decide) ?_
  refine C.iloadN d21_251 rfl ?_
  refine C.castore 50 Aw52 (by first | rfl | decide) (Nat.le_of_ble_eq_true rfl) hc.1 hc.2 d21_252 (List.mem_of_getElem? (i := 0) rfl) fun h53 z53 K53 Aw53 => ?_
  have Aw53 : Ary Z h53 a2 .char [.int c, .int c, .int c, .int c, .int c, .int c, .int c, .int c, .int c, .int c, .int c, .int c, .int c, .int c, .int c, .int c, .int c, .int c, .int c, .int c, .int c, .int c, .int c, .int c, .int c, .int c, .int c, .int c, .int c, .int c, .int c, .int c, .int c, .int c, .int c, .int c, .int c, .int c, .int c, .int c, .int c, .int c, .int c, .int c, .int c, .int c, .int c, .int c, .int c, .int c, .int c, .int 0, .int 0, .int 0, .int 0, .int 0, .int 0, .int 0, .int 0, .int 0, .int 0, .int 0, .int 0] := Aw53
  show C.W h53 [a2] 1 63 (mkF K.m 253 #[.val (.int c)] [.ref a2])
  refine C.dup rfl d21_253 ?_
  refine C.bipush (v := (51 : Int32)) d21_254 (by first | rfl | decide) ?_
  refine C.iloadN d21_256 rfl ?_
  refine C.castore 51 Aw53 (by first | rfl | decide) (Nat.le_of_ble_eq_true rfl) hc.1 hc.2 d21_257 (List.mem_of_getElem? (i := 0) rfl) fun h54 z54 K54 Aw54 => ?_
  have Aw54 : Ary Z h54 a2 .char [.int c, .int c, .int c, .int c, .int c, .int c, .int c, .int c, .int c, .int c, .int c, .int c, .int c, .int c, .int c, .int c, .int c, .int c, .int c, .int c, .int c, .int c, .int c, .int c, .int c, .int c, .int c, .int c, .int c, .int c, .int c, .int c, .int c, .int c, .int c, .int c, .int c, .int c, .int c, .int c, .int c, .int c, .int c, .int c, .int c, .int c, .int c, .int c, .int c, .int c, .int c, .int c, .int 0, .int 0, .int 0, .int 0, .int 0, .int 0, .int 0, .int 0, .int 0, .int 0, .int 0] := Aw54
  show C.W h54 [a2] 1 63 (mkF K.m 258 #[.val (.int c)] [.ref a2])
  refine C.dup rfl d21_258 ?_
  refine C.bipush (v := (52 : Int32)) d21_259 (by first | rfl | decide) ?_
  refine C.iloadN d21_261 rfl ?_
  refine C.castore 52 Aw54 (by first | rfl | decide) (Nat.le_of_ble_eq_true rfl) hc.1 hc.2 d21_262 (List.mem_of_getElem? (i := 0) rfl) fun h55 z55 K55 Aw55 => ?_
  have Aw55 : Ary Z h55 a2 .char [.int c, .int c, .int c, .int c, .int c, .int c, .int c, .int c, .int c, .int c, .int c, .int c, .int c, .int c, .int c, .int c, .int c, .int c, .int c, .int c, .int c, .int c, .int c, .int c, .int c, .int c, .int c, .int c, .int c, .int c, .int c, .int c, .int c, .int c, .int c, .int c, .int c, .int c, .int c, .int c, .int c, .int c, .int c, .int c, .int c, .int c, .int c, .int c, .int c, .int c, .int c, .int c, .int c, .int 0, .int 0, .int 0, .int 0, .int 0, .int 0, .int 0, .int 0, .int 0, .int 0] := Aw55
  show C.W h55 [a2] 1 63 (mkF K.m 263 #[.val (.int c)] [.ref a2])
  refine C.dup rfl d21_263 ?_
  refine C.bipush (v := (53 : Int32)) d21_264 (by first | rfl | decide) ?_
  refine C.iloadN d21_266 rfl ?_
  refine C.castore 53 Aw55 (by first | rfl | decide) (Nat.le_of_ble_eq_true rfl) hc.1 hc.2 d21_267 (List.mem_of_getElem? (i := 0) rfl) fun h56 z56 K56 Aw56 => ?_
  have Aw56 : Ary Z h56 a2 .char [.int c, .int c, .int c, .int c, .int c, .int c, .int c, .int c, .int c, .int c, .int c, .int c, .int c, .int c, .int c, .int c, .int c, .int c, .int c, .int c, .int c, .int c, .int c, .int c, .int c, .int c, .int c, .int c, .int c, .int c, .int c, .int c, .int c, .int c, .int c, .int c, .int c, .int c, .int c, .int c, .int c, .int c, .int c, .int c, .int c, .int c, .int c, .int c, .int c, .int c, .int c, .int c, .int c, .int c, .int 0, .int 0, .int 0, .int 0, .int 0, .int 0, .int 0, .int 0, .int 0] := Aw56
  show C.W h56 [a2] 1 63 (mkF K.m 268 #[.val (.int c)] [.ref a2])
  refine C.dup rfl d21_268 ?_
  refine C.bipush (v := (54 : Int32)) d21_269 (by first | rfl | decide) ?_
  refine C.iloadN d21_271 rfl ?_
  refine C.castore 54 Aw56 (by first | rfl | decide) (Nat.le_of_ble_eq_true rfl) hc.1 hc.2 d21_272 (List.mem_of_getElem? (i := 0) rfl) fun h57 z57 K57 Aw57 => ?_
  have Aw57 : Ary Z h57 a2 .char [.int c, .int c, .int c, .int c, .int c, .int c, .int c, .int c, .int c, .int c, .int c, .int c, .int c, .int c, .int c, .int c, .int c, .int c, .int c, .int c, .int c, .int c, .int c, .int c, .int c, .int c, .int c, .int c, .int c, .int c, .int c, .int c, .int c, .int c, .int c, .int c, .int c, .int c, .int c, .int c, .int c, .int c, .int c, .int c, .int c, .int c, .int c, .int c, .int c, .int c, .int c, .int c, .int c, .int c, .int c, .int 0, .int 0, .int 0, .int 0, .int 0, .int 0, .int 0, .int 0] := Aw57
  show C.W h57 [a2] 1 63 (mkF K.m 273 #[.val (.int c)] [.ref a2])
  refine C.dup rfl d21_273 ?_
  refine C.bipush (v := (55 : Int32)) d21_274 (by first | rfl | decide) ?_
  refine C.iloadN d21_276 rfl ?_
  refine C.castore 55 Aw57 (by first | rfl | decide) (Nat.le_of_ble_eq_true rfl) hc.1 hc.2 d21_277 (List.mem_of_getElem? (i := 0) rfl) fun h58 z58 K58 Aw58 => ?_
  have Aw58 : Ary Z h58 a2 .char [.int c, .int c, .int c, .int c, .int c, .int c, .int c, .int c, .int c, .int c, .int c, .int c, .int c, .int c, .int c, .int c, .int c, .int c, .int c, .int c, .int c, .int c, .int c, .int c, .int c, .int c, .int c, .int c, .int c, .int c, .int c, .int c, .int c, .int c, .int c, .int c, .int c, .int c, .int c, .int c, .int c, .int c, .int c, .int c, .int c, .int c, .int c, .int c, .int c, .int c, .int c, .int c, .int c, .int c, .int c, .int c, .int 0, .int 0, .int 0, .int 0, .int 0, .int 0, .int 0] := Aw58
  show C.W h58 [a2] 1 63 (mkF K.m 278 #[.val (.int c)] [.ref a2])
  refine C.dup rfl d21_278 ?_
  refine C.bipush (v := (56 : Int32)) d21_279 (by first | rfl | decide) ?_
  refine C.iloadN d21_281 rfl ?_
  refine C.castore 56 Aw58 (by first | rfl | decide) (Nat.le_of_ble_eq_true rfl) hc.1 hc.2 d21_282 (List.mem_of_getElem? (i := 0) rfl) fun h59 z59 K59 Aw59 => ?_
  have Aw59 : Ary Z h59 a2 .char [.int c, .int c, .int c, .int c, .int c, .int c, .int c, .int c, .int c, .int c, .int c, .int c, .int c, .int c, .int c, .int c, .int c, .int c, .int c, .int c, .int c, .int c, .int c, .int c, .int c, .int c, .int c, .int c, .int c, .int c, .int c, .int c, .int c, .int c, .int c, .int c, .int c, .int c, .int c, .int c, .int c, .int c, .int c, .int c, .int c, .int c, .int c, .int c, .int c, .int c, .int c, .int c, .int c, .int c, .int c, .int c, .int c, .int 0, .int 0, .int 0, .int 0, .int 0, .int 0] := Aw59
  show C.W h59 [a2] 1 63 (mkF K.m 283 #[.val (.int c)] [.ref a2])
  refine C.dup rfl d21_283 ?_
  refine C.bipush (v := (57 : Int32)) d21_284 (by first | rfl | decide) ?_
  refine C.iloadN d21_286 rfl ?_
  refine C.castore 57 Aw59 (by first | rfl | decide) (Nat.le_of_ble_eq_true rfl) hc.1 hc.2 d21_287 (List.mem_of_getElem? (i := 0) rfl) fun h60 z60 K60 Aw60 => ?_
  have Aw60 : Ary Z h60 a2 .char [.int c, .int c, .int c, .int c, .int c, .int c, .int c, .int c, .int c, .int c, .int c, .int c, .int c, .int c, .int c, .int c, .int c, .int c, .int c, .int c, .int c, .int c, .int c, .int c, .int c, .int c, .int c, .int c, .int c, .int c, .int c, .int c, .int c, .int c, .int c, .int c, .int c, .int c, .int c, .int c, .int c, .int c, .int c, .int c, .int c, .int c, .int c, .int c, .int c, .int c, .int c, .int c, .int c, .int c, .int c, .int c, .int c, .int c, .int 0, .int 0, .int 0, .int 0, .int 0] := Aw60
  show C.W h60 [a2] 1 63 (mkF K.m 288 #[.val (.int c)] [.ref a2])
  refine C.dup rfl d21_288 ?_
  refine C.bipush (v := (58 : Int32)) d21_289 (by first | rfl | decide) ?_
  refine C.iloadN d21_291 rfl ?_
  refine C.castore 58 Aw60 (by first | rfl | decide) (Nat.le_of_ble_eq_true rfl) hc.1 hc.2 d21_292 (List.mem_of_getElem? (i := 0) rfl) fun h61 z61 K61 Aw61 => ?_
  have Aw61 : Ary Z h61 a2 .char [.int c, .int c, .int c, .int c, .int c, .int c, .int c, .int c, .int c, .int c, .int c, .int c, .int c, .int c, .int c, .int c, .int c, .int c, .int c, .int c, .int c, .int c, .int c, .int c, .int c, .int c, .int c, .int c, .int c, .int c, .int c, .int c, .int c, .int c, .int c, .int c, .int c, .int c, .int c, .int c, .int c, .int c, .int c, .int c, .int c, .int c, .int c, .int c, .int c, .int c, .int c, .int c, .int c, .int c, .int c, .int c, .int c, .int c, .int c, .int 0, .int 0, .int 0, .int 0] := Aw61
  show C.W h61 [a2] 1 63 (mkF K.m 293 #[.val (.int c)] [.ref a2])
  refine C.dup rfl d21_293 ?_
  refine C.bipush (v := (59 : Int32)) d21_294 (by first | rfl | decide) ?_
  refine C.iloadN d21_296 rfl ?_
  refine C.castore 59 Aw61 (by first | rfl | decide) (Nat.le_of_ble_eq_true rfl) hc.1 hc.2 d21_297 (List.mem_of_getElem? (i := 0) rfl) fun h62 z62 K62 Aw62 => ?_
  have Aw62 : Ary Z h62 a2 .char [.int c, .int c, .int c, .int c, .int c, .int c, .int c, .int c, .int c, .int c, .int c, .int c, .int c, .int c, .int c, .int c, .int c, .int c, .int c, .int c, .int c, .int c, .int c, .int c, .int c, .int c, .int c, .int c, .int c, .int c, .int c, .int c, .int c, .int c, .int c, .int c, .int c, .int c, .int c, .int c, .int c, .int c, .int c, .int c, .int c, .int c, .int c, .int c, .int c, .int c, .int c, .int c, .int c, .int c, .int c, .int c, .int c, .int c, .int c, .int c, .int 0, .int 0, .int 0] := Aw62
  show C.W h62 [a2] 1 63 (mkF K.m 298 #[.val (.int c)] [.ref a2])
  refine C.dup rfl d21_298 ?_
  refine C.bipush (v := (60 : Int32)) d21_299 (by first | rfl | decide) ?_
  refine C.iloadN d21_301 rfl ?_
  refine C.castore 60 Aw62 (by first | rfl | decide) (Nat.le_of_ble_eq_true rfl) hc.1 hc.2 d21_302 (List.mem_of_getElem? (i := 0) rfl) fun h63 z63 K63 Aw63 => ?_
  have Aw63 : Ary Z h63 a2 .char [.int c, .int c, .int c, .int c, .int c, .int c, .int c, .int c, .int c, .int c, .int c, .int c, .int c, .int c, .int c, .int c, .int c, .int c, .int c, .int c, .int c, .int c, .int c, .int c, .int c, .int c, .int c, .int c, .int c, .int c, .int c, .int c, .int c, .int c, .int c, .int c, .int c, .int c, .int c, .int c, .int c, .int c, .int c, .int c, .int c, .int c, .int c, .int c, .int c, .int c, .int c, .int c, .int c, .int c, .int c, .int c, .int c, .int c, .int c, .int c, .int c, .int 0, .int 0] := Aw63
  show C.W h63 [a2] 1 63 (mkF K.m 303 #[.val (.int c)] [.ref a2])
  refine C.dup rfl d21_303 ?_
  refine C.bipush (v := (61 : Int32)) d21_304 (by first | rfl | decide) ?_
  refine C.iloadN d21_306 rfl ?_
  refine C.castore 61 Aw63 (by first | rfl | decide) (Nat.le_of_ble_eq_true rfl) hc.1 hc.2 d21_307 (List.mem_of_getElem? (i := 0) rfl) fun h64 z64 K64 Aw64 => ?_
  have Aw64 : Ary Z h64 a2 .char [.int c, .int c, .int c, .int c, .int c, .int c, .int c, .int c, .int c, .int c, .int c, .int c, .int c, .int c, .int c, .int c, .int c, .int c, .int c, .int c, .int c, .int c, .int c, .int c, .int c, .int c, .int c, .int c, .int c, .int c, .int c, .int c, .int c, .int c, .int c, .int c, .int c, .int c, .int c, .int c, .int c, .int c, .int c, .int c, .int c, .int c, .int c, .int c, .int c, .int c, .int c, .int c, .int c, .int c, .int c, .int c, .int c, .int c, .int c, .int c, .int c, .int c, .int 0] := Aw64
  show C.W h64 [a2] 1 63 (mkF K.m 308 #[.val (.int c)] [.ref a2])
  refine C.dup rfl d21_308 ?_
  refine C.bipush (v := (62 : Int32)) d21_309 (by first | rfl | decide) ?_
  refine C.iloadN d21_311 rfl ?_
  refine C.castore 62 Aw64 (by first | rfl | decide) (Nat.le_of_ble_eq_true rfl) hc.1 hc.2 d21_312 (List.mem_of_getElem? (i := 0) rfl) fun h65 z65 K65 Aw65 => ?_
  have Aw65 : Ary Z h65 a2 .char [.int c, .int c, .int c, .int c, .int c, .int c, .int c, .int c, .int c, .int c, .int c, .int c, .int c, .int c, .int c, .int c, .int c, .int c, .int c, .int c, .int c, .int c, .int c, .int c, .int c, .int c, .int c, .int c, .int c, .int c, .int c, .int c, .int c, .int c, .int c, .int c, .int c, .int c, .int c, .int c, .int c, .int c, .int c, .int c, .int c, .int c, .int c, .int c, .int c, .int c, .int c, .int c, .int c, .int c, .int c, .int c, .int c, .int c, .int c, .int c, .int c, .int c, .int c] := Aw65
  show C.W h65 [a2] 1 63 (mkF K.m 313 #[.val (.int c)] [.ref a2])
  exact C.areturn rfl rfl rfl d21_313 (by decide) (by decide) ⟨a2, rfl, by omega, by omega, Aw65⟩
set_option maxRecDepth 65536 in
set_option maxHeartbeats 40000000 in
theorem c_of64  (B : Base Z a0) {h : Heap} {c : Int32} (hc : 0 ≤ c.toInt ∧ c.toInt < 65536) : Con l Z a0 EL it n0 (⟨"com/example/halysis/halysis/LogRecordIsHashPinLaw", "of64", "(C)[C"⟩ : MethodName) 1 12 1 64 #[.int c] h [] (fun v h' => ∃ b : Nat, v = some (.ref b) ∧ h.size ≤ b ∧ b < h'.size ∧ Ary Z h' b .char ((List.replicate 64 c).map Value.int)) := by
  refine Met.con (bytes := method_5_code) (maxL := 1) (ret := (some (.array .char))) (rm := ({ frames := 0, cells := 1, slots := 64, locals := 0 } : Room)) (Met.of (own := "com/example/halysis/halysis/LogRecordIsHashPinLaw") (nm := "of64") #[.val (.int c)] (ew B) rfl rfl (plainFor_of_name pn_com_example_halysis_halysis_LogRecordIsHashPinLaw) (fun m => by first | (simp [entryFrame, mkF, argsToLocals, Value.category]; done) | rfl) fun K C => ?_) (B.1 _ (List.mem_of_getElem? (i := 73) rfl)) (B.1 _ (List.mem_of_getElem? (i := 72) rfl)) rfl rfl rfl rfl
  refine C.bipush (v := (64 : Int32)) d22_0 (by first | rfl | decide) ?_
  refine C.newarr 64 64 (B.1 _ (List.mem_of_getElem? (i := 0) rfl)) d22_2 (by first | rfl | decide) (by decide) (by decide) (by decide) (by decide) fun h1 a2 g1 z1 o1 K1 An1 => ?_
  have An1 : Ary Z h1 a2 .char [.int 0, .int 0, .int 0, .int 0, .int 0, .int 0, .int 0, .int 0, .int 0, .int 0, .int 0, .int 0, .int 0, .int 0, .int 0, .int 0, .int 0, .int 0, .int 0, .int 0, .int 0, .int 0, .int 0, .int 0, .int 0, .int 0, .int 0, .int 0, .int 0, .int 0, .int 0, .int 0, .int 0, .int 0, .int 0, .int 0, .int 0, .int 0, .int 0, .int 0, .int 0, .int 0, .int 0, .int 0, .int 0, .int 0, .int 0, .int 0, .int 0, .int 0, .int 0, .int 0, .int 0, .int 0, .int 0, .int 0, .int 0, .int 0, .int 0, .int 0, .int 0, .int 0, .int 0, .int 0] := An1
  show C.W h1 [a2] 1 64 (mkF K.m 4 #[.val (.int c)] [.ref a2])
  refine C.dup rfl d22_4 ?_
  refine C.iconst (v := (0 : Int32)) d22_5 (by first | rfl | decide) ?_
  refine C.iloadN d22_6 rfl ?_
  refine C.castore 0 An1 (by first | rfl | decide) (Nat.le_of_ble_eq_true rfl) hc.1 hc.2 d22_7 (List.mem_of_getElem? (i := 0) rfl) fun h3 z3 K3 Aw3 => ?_
  have Aw3 : Ary Z h3 a2 .char [.int c, .int 0, .int 0, .int 0, .int 0, .int 0, .int 0, .int 0, .int 0, .int 0, .int 0, .int 0, .int 0, .int 0, .int 0, .int 0, .int 0, .int 0, .int 0, .int 0, .int 0, .int 0, .int 0, .int 0, .int 0, .int 0, .int 0, .int 0, .int 0, .int 0, .int 0, .int 0, .int 0, .int 0, .int 0, .int 0, .int 0, .int 0, .int 0, .int 0, .int 0, .int 0, .int 0, .int 0, .int 0, .int 0, .int 0, .int 0, .int 0, .int 0, .int 0, .int 0, .int 0, .int 0, .int 0, .int 0, .int 0, .int 0, .int 0, .int 0, .int 0, .int 0, .int 0, .int 0] := Aw3
  show C.W h3 [a2] 1 64 (mkF K.m 8 #[.val (.int c)] [.ref a2])
  refine C.dup rfl d22_8 ?_
  refine C.iconst (v := (1 : Int32)) d22_9 (by first | rfl | decide) ?_
  refine C.iloadN d22_10 rfl ?_
  refine C.castore 1 Aw3 (by first | rfl | decide) (Nat.le_of_ble_eq_true rfl) hc.1 hc.2 d22_11 (List.mem_of_getElem? (i := 0) rfl) fun h4 z4 K4 Aw4 => ?_
  have Aw4 : Ary Z h4 a2 .char [.int c, .int c, .int 0, .int 0, .int 0, .int 0, .int 0, .int 0, .int 0, .int 0, .int 0, .int 0, .int 0, .int 0, .int 0, .int 0, .int 0, .int 0, .int 0, .int 0, .int 0, .int 0, .int 0, .int 0, .int 0, .int 0, .int 0, .int 0, .int 0, .int 0, .int 0, .int 0, .int 0, .int 0, .int 0, .int 0, .int 0, .int 0, .int 0, .int 0, .int 0, .int 0, .int 0, .int 0, .int 0, .int 0, .int 0, .int 0, .int 0, .int 0, .int 0, .int 0, .int 0, .int 0, .int 0, .int 0, .int 0, .int 0, .int 0, .int 0, .int 0, .int 0, .int 0, .int 0] := Aw4
  show C.W h4 [a2] 1 64 (mkF K.m 12 #[.val (.int c)] [.ref a2])
  refine C.dup rfl d22_12 ?_
  refine C.iconst (v := (2 : Int32)) d22_13 (by first | rfl | decide) ?_
  refine C.iloadN d22_14 rfl ?_
  refine C.castore 2 Aw4 (by first | rfl | decide) (Nat.le_of_ble_eq_true rfl) hc.1 hc.2 d22_15 (List.mem_of_getElem? (i := 0) rfl) fun h5 z5 K5 Aw5 => ?_
  have Aw5 : Ary Z h5 a2 .char [.int c, .int c, .int c, .int 0, .int 0, .int 0, .int 0, .int 0, .int 0, .int 0, .int 0, .int 0, .int 0, .int 0, .int 0, .int 0, .int 0, .int 0, .int 0, .int 0, .int 0, .int 0, .int 0, .int 0, .int 0, .int 0, .int 0, .int 0, .int 0, .int 0, .int 0, .int 0, .int 0, .int 0, .int 0, .int 0, .int 0, .int 0, .int 0, .int 0, .int 0, .int 0, .int 0, .int 0, .int 0, .int 0, .int 0, .int 0, .int 0, .int 0, .int 0, .int 0, .int 0, .int 0, .int 0, .int 0, .int 0, .int 0, .int 0, .int 0, .int 0, .int 0, .int 0, .int 0] := Aw5
  show C.W h5 [a2] 1 64 (mkF K.m 16 #[.val (.int c)] [.ref a2])
  refine C.dup rfl d22_16 ?_
  refine C.iconst (v := (3 : Int32)) d22_17 (by first | rfl | decide) ?_
  refine C.iloadN d22_18 rfl ?_
  refine C.castore 3 Aw5 (by first | rfl | decide) (Nat.le_of_ble_eq_true rfl) hc.1 hc.2 d22_19 (List.mem_of_getElem? (i := 0) rfl) fun h6 z6 K6 Aw6 => ?_
  have Aw6 : Ary Z h6 a2 .char [.int c, .int c, .int c, .int c, .int 0, .int 0, .int 0, .int 0, .int 0, .int 0, .int 0, .int 0, .int 0, .int 0, .int 0, .int 0, .int 0, .int 0, .int 0, .int 0, .int 0, .int 0, .int 0, .int 0, .int 0, .int 0, .int 0, .int 0, .int 0, .int 0, .int 0, .int 0, .int 0, .int 0, .int 0, .int 0, .int 0, .int 0, .int 0, .int 0, .int 0, .int 0, .int 0, .int 0, .int 0, .int 0, .int 0, .int 0, .int 0, .int 0, .int 0, .int 0, .int 0, .int 0, .int 0, .int 0, .int 0, .int 0, .int 0, .int 0, .int 0, .int 0, .int 0, .int 0] := Aw6
  show C.W h6 [a2] 1 64 (mkF K.m 20 #[.val (.int c)] [.ref a2])
  refine C.dup rfl d22_20 ?_
  refine C.iconst (v := (4 : Int32)) d22_21 (by first | rfl | decide) ?_
  refine C.iloadN d22_22 rfl ?_
  refine C.castore 4 Aw6 (by first | rfl | decide) (Nat.le_of_ble_eq_true rfl) hc.1 hc.2 d22_23 (List.mem_of_getElem? (i := 0) rfl) fun h7 z7 K7 Aw7 => ?_
  have Aw7 : Ary Z h7 a2 .char [.int c, .int c, .int c, .int c, .int c, .int 0, .int 0, .int 0, .int 0, .int 0, .int 0, .int 0, .int 0, .int 0, .int 0, .int 0, .int 0, .int 0, .int 0, .int 0, .int 0, .int 0, .int 0, .int 0, .int 0, .int 0, .int 0, .int 0, .int 0, .int 0, .int 0, .int 0, .int 0, .int 0, .int 0, .int 0, .int 0, .int 0, .int 0, .int 0, .int 0, .int 0, .int 0, .int 0, .int 0, .int 0, .int 0, .int 0, .int 0, .int 0, .int 0, .int 0, .int 0, .int 0, .int 0, .int 0, .int 0, .int 0, .int 0, .int 0, .int 0, .int 0, .int 0, .int 0] := Aw7
  show C.W h7 [a2] 1 64 (mkF K.m 24 #[.val (.int c)] [.ref a2])
  refine C.dup rfl d22_24 ?_
  refine C.iconst (v := (5 : Int32)) d22_25 (by first | rfl | decide) ?_
  refine C.iloadN d22_26 rfl ?_
  refine C.castore 5 Aw7 (by first | rfl | decide) (Nat.le_of_ble_eq_true rfl) hc.1 hc.2 d22_27 (List.mem_of_getElem? (i := 0) rfl) fun h8 z8 K8 Aw8 => ?_
  have Aw8 : Ary Z h8 a2 .char [.int c, .int c, .int c, .int c, .int c, .int c, .int 0, .int 0, .int 0, .int 0, .int 0, .int 0, .int 0, .int 0, .int 0, .int 0, .int 0, .int 0, .int 0, .int 0, .int 0, .int 0, .int 0, .int 0, .int 0, .int 0, .int 0, .int 0, .int 0, .int 0, .int 0, .int 0, .int 0, .int 0, .int 0, .int 0, .int 0, .int 0, .int 0, .int 0, .int 0, .int 0, .int 0, .int 0, .int 0, .int 0, .int 0, .int 0, .int 0, .int 0, .int 0, .int 0, .int 0, .int 0, .int 0, .int 0, .int 0, .int 0, .int 0, .int 0, .int 0, .int 0, .int 0, .int 0] := Aw8
  show C.W h8 [a2] 1 64 (mkF K.m 28 #[.val (.int c)] [.ref a2])
  refine C.dup rfl d22_28 ?_
  refine C.bipush (v := (6 : Int32)) d22_29 (by first | rfl | decide) ?_
  refine C.iloadN d22_31 rfl ?_
  refine C.castore 6 Aw8 (by first | rfl | decide) (Nat.le_of_ble_eq_true rfl) hc.1 hc.2 d22_32 (List.mem_of_getElem? (i := 0) rfl) fun h9 z9 K9 Aw9 => ?_
  have Aw9 : Ary Z h9 a2 .char [.int c, .int c, .int c, .int c, .int c, .int c, .int c, .int 0, .int 0, .int 0, .int 0, .int 0, .int 0, .int 0, .int 0, .int 0, .int 0, .int 0, .int 0, .int 0, .int 0, .int 0, .int 0, .int 0, .int 0, .int 0, .int 0, .int 0, .int 0, .int 0, .int 0, .int 0, .int 0, .int 0, .int 0, .int 0, .int 0, .int 0, .int 0, .int 0, .int 0, .int 0, .int 0, .int 0, .int 0, .int 0, .int 0, .int 0, .int 0, .int 0, .int 0, .int 0, .int 0, .int 0, .int 0, .int 0, .int 0, .int 0, .int 0, .int 0, .int 0, .int 0, .int 0, .int 0] := Aw9
  show C.W h9 [a2] 1 64 (mkF K.m 33 #[.val (.int c)] [.ref a2])
  refine C.dup rfl d22_33 ?_
  refine C.bipush (v := (7 : Int32)) d22_34 (by first | rfl | decide) ?_
  refine C.iloadN d22_36 rfl ?_
  refine C.castore 7 Aw9 (by first | rfl | decide) (Nat.le_of_ble_eq_true rfl) hc.1 hc.2 d22_37 (List.mem_of_getElem? (i := 0) rfl) fun h10 z10 K10 Aw10 => ?_
  have Aw10 : Ary Z h10 a2 .char [.int c, .int c, .int c, .int c, .int c, .int c, .int c, .int c, .int 0, .int 0, .int 0, .int 0, .int 0, .int 0, .int 0, .int 0, .int 0, .int 0, .int 0, .int 0, .int 0, .int 0, .int 0, .int 0, .int 0, .int 0, .int 0, .int 0, .int 0, .int 0, .int 0, .int 0, .int 0, .int 0, .int 0, .int 0, .int 0, .int 0, .int 0, .int 0, .int 0, .int 0, .int 0, .int 0, .int 0, .int 0, .int 0, .int 0, .int 0, .int 0, .int 0, .int 0, .int 0, .int 0, .int 0, .int 0, .int 0, .int 0, .int 0, .int 0, .int 0, .int 0, .int 0, .int 0] := Aw10
  show C.W h10 [a2] 1 64 (mkF K.m 38 #[.val (.int c)] [.ref a2])
  refine C.dup rfl d22_38 ?_
  refine C.bipush (v := (8 : Int32)) d22_39 (by first | rfl | decide) ?_
  refine C.iloadN d22_41 rfl ?_
  refine C.castore 8 Aw10 (by first | rfl | decide) (Nat.le_of_ble_eq_true rfl) hc.1 hc.2 d22_42 (List.mem_of_getElem? (i := 0) rfl) fun h11 z11 K11 Aw11 => ?_
  have Aw11 : Ary Z h11 a2 .char [.int c, .int c, .int c, .int c, .int c, .int c, .int c, .int c, .int c, .int 0, .int 0, .int 0, .int 0, .int 0, .int 0, .int 0, .int 0, .int 0, .int 0, .int 0, .int 0, .int 0, .int 0, .int 0, .int 0, .int 0, .int 0, .int 0, .int 0, .int 0, .int 0, .int 0, .int 0, .int 0, .int 0, .int 0, .int 0, .int 0, .int 0, .int 0, .int 0, .int 0, .int 0, .int 0, .int 0, .int 0, .int 0, .int 0, .int 0, .int 0, .int 0, .int 0, .int 0, .int 0, .int 0, .int 0, .int 0, .int 0, .int 0, .int 0, .int 0, .int 0, .int 0, .int 0] := Aw11
  show C.W h11 [a2] 1 64 (mkF K.m 43 #[.val (.int c)] [.ref a2])
  refine C.dup rfl d22_43 ?_
  refine C.bipush (v := (9 : Int32)) d22_44 (by first | rfl | decide) ?_
  refine C.iloadN d22_46 rfl ?_
  refine C.castore 9 Aw11 (by first | rfl | decide) (Nat.le_of_ble_eq_true rfl) hc.1 hc.2 d22_47 (List.mem_of_getElem? (i := 0) rfl) fun h12 z12 K12 Aw12 => ?_
  have Aw12 : Ary Z h12 a2 .char [.int c, .int c, .int c, .int c, .int c, .int c, .int c, .int c, .int c, .int c, .int 0, .int 0, .int 0, .int 0, .int 0, .int 0, .int 0, .int 0, .int 0, .int 0, .int 0, .int 0, .int 0, .int 0, .int 0, .int 0, .int 0, .int 0, .int 0, .int 0, .int 0, .int 0, .int 0, .int 0, .int 0, .int 0, .int 0, .int 0, .int 0, .int 0, .int 0, .int 0, .int 0, .int 0, .int 0, .int 0, .int 0, .int 0, .int 0, .int 0, .int 0, .int 0, .int 0, .int 0, .int 0, .int 0, .int 0, .int 0, .int 0, .int 0, .int 0, .int 0, .int 0, .int 0] := Aw12
  show C.W h12 [a2] 1 64 (mkF K.m 48 #[.val (.int c)] [.ref a2])
  refine C.dup rfl d22_48 ?_
  refine C.bipush (v := (10 : Int32)) d22_49 (by first | rfl | decide) ?_
  refine C.iloadN d22_51 rfl ?_
  refine C.castore 10 Aw12 (by first | rfl | decide) (Nat.le_of_ble_eq_true rfl) hc.1 hc.2 d22_52 (List.mem_of_getElem? (i := 0) rfl) fun h13 z13 K13 Aw13 => ?_
  have Aw13 : Ary Z h13 a2 .char [.int c, .int c, .int c, .int c, .int c, .int c, .int c, .int c, .int c, .int c, .int c, .int 0, .int 0, .int 0, .int 0, .int 0, .int 0, .int 0, .int 0, .int 0, .int 0, .int 0, .int 0, .int 0, .int 0, .int 0, .int 0, .int 0, .int 0, .int 0, .int 0, .int 0, .int 0, .int 0, .int 0, .int 0, .int 0, .int 0, .int 0, .int 0, .int 0, .int 0, .int 0, .int 0, .int 0, .int 0, .int 0, .int 0, .int 0, .int 0, .int 0, .int 0, .int 0, .int 0, .int 0, .int 0, .int 0, .int 0, .int 0, .int 0, .int 0, .int 0, .int 0, .int 0] := Aw13
  show C.W h13 [a2] 1 64 (mkF K.m 53 #[.val (.int c)] [.ref a2])
  refine C.dup rfl d22_53 ?_
  refine C.bipush (v := (11 : Int32)) d22_54 (by first | rfl | decide) ?_
  refine C.iloadN d22_56 rfl ?_
  refine C.castore 11 Aw13 (by first | rfl | decide) (Nat.le_of_ble_eq_true rfl) hc.1 hc.2 d22_57 (List.mem_of_getElem? (i := 0) rfl) fun h14 z14 K14 Aw14 => ?_
  have Aw14 : Ary Z h14 a2 .char [.int c, .int c, .int c, .int c, .int c, .int c, .int c, .int c, .int c, .int c, .int c, .int c, .int 0, .int 0, .int 0, .int 0, .int 0, .int 0, .int 0, .int 0, .int 0, .int 0, .int 0, .int 0, .int 0, .int 0, .int 0, .int 0, .int 0, .int 0, .int 0, .int 0, .int 0, .int 0, .int 0, .int 0, .int 0, .int 0, .int 0, .int 0, .int 0, .int 0, .int 0, .int 0, .int 0, .int 0, .int 0, .int 0, .int 0, .int 0, .int 0, .int 0, .int 0, .int 0, .int 0, .int 0, .int 0, .int 0, .int 0, .int 0, .int 0, .int 0, .int 0, .int 0] := Aw14
  show C.W h14 [a2] 1 64 (mkF K.m 58 #[.val (.int c)] [.ref a2])
  refine C.dup rfl d22_58 ?_
  refine C.bipush (v := (12 : Int32)) d22_59 (by first | rfl | decide) ?_
  refine C.iloadN d22_61 rfl ?_
  refine C.castore 12 Aw14 (by first | rfl | decide) (Nat.le_of_ble_eq_true rfl) hc.1 hc.2 d22_62 (List.mem_of_getElem? (i := 0) rfl) fun h15 z15 K15 Aw15 => ?_
  have Aw15 : Ary Z h15 a2 .char [.int c, .int c, .int c, .int c, .int c, .int c, .int c, .int c, .int c, .int c, .int c, .int c, .int c, .int 0, .int 0, .int 0, .int 0, .int 0, .int 0, .int 0, .int 0, .int 0, .int 0, .int 0, .int 0, .int 0, .int 0, .int 0, .int 0, .int 0, .int 0, .int 0, .int 0, .int 0, .int 0, .int 0, .int 0, .int 0, .int 0, .int 0, .int 0, .int 0, .int 0, .int 0, .int 0, .int 0, .int 0, .int 0, .int 0, .int 0, .int 0, .int 0, .int 0, .int 0, .int 0, .int 0, .int 0, .int 0, .int 0, .int 0, .int 0, .int 0, .int 0, .int 0] := Aw15
  show C.W h15 [a2] 1 64 (mkF K.m 63 #[.val (.int c)] [.ref a2])
  refine C.dup rfl d22_63 ?_
  refine C.bipush (v := (13 : Int32)) d22_64 (by first | rfl | decide) ?_
  refine C.iloadN d22_66 rfl ?_
  refine C.castore 13 Aw15 (by first | rfl | decide) (Nat.le_of_ble_eq_true rfl) hc.1 hc.2 d22_67 (List.mem_of_getElem? (i := 0) rfl) fun h16 z16 K16 Aw16 => ?_
  have Aw16 : Ary Z h16 a2 .char [.int c, .int c, .int c, .int c, .int c, .int c, .int c, .int c, .int c, .int c, .int c, .int c, .int c, .int c, .int 0, .int 0, .int 0, .int 0, .int 0, .int 0, .int 0, .int 0, .int 0, .int 0, .int 0, .int 0, .int 0, .int 0, .int 0, .int 0, .int 0, .int 0, .int 0, .int 0, .int 0, .int 0, .int 0, .int 0, .int 0, .int 0, .int 0, .int 0, .int 0, .int 0, .int 0, .int 0, .int 0, .int 0, .int 0, .int 0, .int 0, .int 0, .int 0, .int 0, .int 0, .int 0, .int 0, .int 0, .int 0, .int 0, .int 0, .int 0, .int 0, .int 0] := Aw16
  show C.W h16 [a2] 1 64 (mkF K.m 68 #[.val (.int c)] [.ref a2])
  refine C.dup rfl d22_68 ?_
  refine C.bipush (v := (14 : Int32)) d22_69 (by first | rfl | decide) ?_
  refine C.iloadN d22_71 rfl ?_
  refine C.castore 14 Aw16 (by first | rfl | decide) (Nat.le_of_ble_eq_true rfl) hc.1 hc.2 d22_72 (List.mem_of_getElem? (i := 0) rfl) fun h17 z17 K17 Aw17 => ?_
  have Aw17 : Ary Z h17 a2 .char [.int c, .int c, .int c, .int c, .int c, .int c, .int c, .int c, .int c, .int c, .int c, .int c, .int c, .int c, .int c, .int 0, .int 0, .int 0, .int 0, .int 0, .int 0, .int 0, .int 0, .int 0, .int 0, .int 0, .int 0, .int 0, .int 0, .int 0, .int 0, .int 0, .int 0, .int 0, .int 0, .int 0, .int 0, .int 0, .int 0, .int 0, .int 0, .int 0, .int 0, .int 0, .int 0, .int 0, .int 0, .int 0, .int 0, .int 0, .int 0, .int 0, .int 0, .int 0, .int 0, .int 0, .int 0, .int 0, .int 0, .int 0, .int 0, .int 0, .int 0, .int 0] := Aw17
  show C.W h17 [a2] 1 64 (mkF K.m 73 #[.val (.int c)] [.ref a2])
  refine C.dup rfl d22_73 ?_
  refine C.bipush (v := (15 : Int32)) d22_74 (by first | rfl | decide) ?_
  refine C.iloadN d22_76 rfl ?_
  refine C.castore 15 Aw17 (by first | rfl | decide) (Nat.le_of_ble_eq_true rfl) hc.1 hc.2 d22_77 (List.mem_of_getElem? (i := 0) rfl) fun h18 z18 K18 Aw18 => ?_
  have Aw18 : Ary Z h18 a2 .char [.int c, .int c, .int c, .int c, .int c, .int c, .int c, .int c, .int c, .int c, .int c, .int c, .int c, .int c, .int c, .int c, .int 0, .int 0, .int 0, .int 0, .int 0, .int 0, .int 0, .int 0, .int 0, .int 0, .int 0, .int 0, .int 0, .int 0, .int 0, .int 0, .int 0, .int 0, .int 0, .int 0, .int 0, .int 0, .int 0, .int 0, .int 0, .int 0, .int 0, .int 0, .int 0, .int 0, .int 0, .int 0, .int 0, .int 0, .int 0, .int 0, .int 0, .int 0, .int 0, .int 0, .int 0, .int 0, .int 0, .int 0, .int 0, .int 0, .int 0, .int 0] := Aw18
  show C.W h18 [a2] 1 64 (mkF K.m 78 #[.val (.int c)] [.ref a2])
  refine C.dup rfl d22_78 ?_
  refine C.bipush (v := (16 : Int32)) d22_79 (by first | rfl | decide) ?_
  refine C.iloadN d22_81 rfl ?_
  refine C.castore 16 Aw18 (by first | rfl | decide) (Nat.le_of_ble_eq_true rfl) hc.1 hc.2 d22_82 (List.mem_of_getElem? (i := 0) rfl) fun h19 z19 K19 Aw19 => ?_
  have Aw19 : Ary Z h19 a2 .char [.int c, .int c, .int c, .int c, .int c, .int c, .int c, .int c, .int c, .int c, .int c, .int c, .int c, .int c, .int c, .int c, .int c, .int 0, .int 0, .int 0, .int 0, .int 0, .int 0, .int 0, .int 0, .int 0, .int 0, .int 0, .int 0, .int 0, .int 0, .int 0, .int 0, .int 0, .int 0, .int 0, .int 0, .int 0, .int 0, .int 0, .int 0, .int 0, .int 0, .int 0, .int 0, .int 0, .int 0, .int 0, .int 0, .int 0, .int 0, .int 0, .int 0, .int 0, .int 0, .int 0, .int 0, .int 0, .int 0, .int 0, .int 0, .int 0, .int 0, .int 0] := Aw19
  show C.W h19 [a2] 1 64 (mkF K.m 83 #[.val (.int c)] [.ref a2])
  refine C.dup rfl d22_83 ?_
  refine C.bipush (v := (17 : Int32)) d22_84 (by first | rfl | decide) ?_
  refine C.iloadN d22_86 rfl ?_
  refine C.castore 17 Aw19 (by first | rfl | decide) (Nat.le_of_ble_eq_true rfl) hc.1 hc.2 d22_87 (List.mem_of_getElem? (i := 0) rfl) fun h20 z20 K20 Aw20 => ?_
  have Aw20 : Ary Z h20 a2 .char [.int c, .int c, .int c, .int c, .int c, .int c, .int c, .int c, .int c, .int c, .int c, .int c, .int c, .int c, .int c, .int c, .int c, .int c, .int 0, .int 0, .int 0, .int 0, .int 0, .int 0, .int 0, .int 0, .int 0, .int 0, .int 0, .int 0, .int 0, .int 0, .int 0, .int 0, .int 0, .int 0, .int 0, .int 0, .int 0, .int 0, .int 0, .int 0, .int 0, .int 0, .int 0, .int 0, .int 0, .int 0, .int 0, .int 0, .int 0, .int 0, .int 0, .int 0, .int 0, .int 0, .int 0, .int 0, .int 0, .int 0, .int 0, .int 0, .int 0, .int 0] := Aw20
  show C.W h20 [a2] 1 64 (mkF K.m 88 #[.val (.int c)] [.ref a2])
  refine C.dup rfl d22_88 ?_
  refine C.bipush (v := (18 : Int32)) d22_89 (by first | rfl | decide) ?_
  refine C.iloadN d22_91 rfl ?_
  refine C.castore 18 Aw20 (by first | rfl | decide) (Nat.le_of_ble_eq_true rfl) hc.1 hc.2 d22_92 (List.mem_of_getElem? (i := 0) rfl) fun h21 z21 K21 Aw21 => ?_
  have Aw21 : Ary Z h21 a2 .char [.int c, .int c, .int c, .int c, .int c, .int c, .int c, .int c, .int c, .int c, .int c, .int c, .int c, .int c, .int c, .int c, .int c, .int c, .int c, .int 0, .int 0, .int 0, .int 0, .int 0, .int 0, .int 0, .int 0, .int 0, .int 0, .int 0, .int 0, .int 0, .int 0, .int 0, .int 0, .int 0, .int 0, .int 0, .int 0, .int 0, .int 0, .int 0, .int 0, .int 0, .int 0, .int 0, .int 0, .int 0, .int 0, .int 0, .int 0, .int 0, .int 0, .int 0, .int 0, .int 0, .int 0, .int 0, .int 0, .int 0, .int 0, .int 0, .int 0, .int 0] := Aw21
  show C.W h21 [a2] 1 64 (mkF K.m 93 #[.val (.int c)] [.ref a2])
  refine C.dup rfl d22_93 ?_
  refine C.bipush (v := (19 : Int32)) d22_94 (by first | rfl | decide) ?_
  refine C.iloadN d22_96 rfl ?_
  refine C.castore 19 Aw21 (by first | rfl | decide) (Nat.le_of_ble_eq_true rfl) hc.1 hc.2 d22_97 (List.mem_of_getElem? (i := 0) rfl) fun h22 z22 K22 Aw22 => ?_
  have Aw22 : Ary Z h22 a2 .char [.int c, .int c, .int c, .int c, .int c, .int c, .int c, .int c, .int c, .int c, .int c, .int c, .int c, .int c, .int c, .int c, .int c, .int c, .int c, .int c, .int 0, .int 0, .int 0, .int 0, .int 0, .int 0, .int 0, .int 0, .int 0, .int 0, .int 0, .int 0, .int 0, .int 0, .int 0, .int 0, .int 0, .int 0, .int 0, .int 0, .int 0, .int 0, .int 0, .int 0, .int 0, .int 0, .int 0, .int 0, .int 0, .int 0, .int 0, .int 0, .int 0, .int 0, .int 0, .int 0, .int 0, .int 0, .int 0, .int 0, .int 0, .int 0, .int 0, .int 0] := Aw22
  show C.W h22 [a2] 1 64 (mkF K.m 98 #[.val (.int c)] [.ref a2])
  refine C.dup rfl d22_98 ?_
  refine C.bipush (v := (20 : Int32)) d22_99 (by first | rfl | decide) ?_
  refine C.iloadN d22_101 rfl ?_
  refine C.castore 20 Aw22 (by first | rfl | decide) (Nat.le_of_ble_eq_true rfl) hc.1 hc.2 d22_102 (List.mem_of_getElem? (i := 0) rfl) fun h23 z23 K23 Aw23 => ?_
  have Aw23 : Ary Z h23 a2 .char [.int c, .int c, .int c, .int c, .int c, .int c, .int c, .int c, .int c, .int c, .int c, .int c, .int c, .int c, .int c, .int c, .int c, .int c, .int c, .int c, .int c, .int 0, .int 0, .int 0, .int 0, .int 0, .int 0, .int 0, .int 0, .int 0, .int 0, .int 0, .int 0, .int 0, .int 0, .int 0, .int 0, .int 0, .int 0, .int 0, .int 0, .int 0, .int 0, .int 0, .int 0, .int 0, .int 0, .int 0, .int 0, .int 0, .int 0, .int 0, .int 0, .int 0, .int 0, .int 0, .int 0, .int 0, .int 0, .int 0, .int 0, .int 0, .int 0, .int 0] := Aw23
  show C.W h23 [a2] 1 64 (mkF K.m 103 #[.val (.int c)] [.ref a2])
  refine C.dup rfl d22_103 ?_
  refine C.bipush (v := (21 : Int32)) d22_104 (by first | rfl | decide) ?_
  refine C.iloadN d22_106 rfl ?_
  refine C.castore 21 Aw23 (by first | rfl | decide) (Nat.le_of_ble_eq_true rfl) hc.1 hc.2 d22_107 (List.mem_of_getElem? (i := 0) rfl) fun h24 z24 K24 Aw24 => ?_
  have Aw24 : Ary Z h24 a2 .char [.int c, .int c, .int c, .int c, .int c, .int c, .int c, .int c, .int c, .int c, .int c, .int c, .int c, .int c, .int c, .int c, .int c, .int c, .int c, .int c, .int c, .int c, .int 0, .int 0, .int 0, .int 0, .int 0, .int 0, .int 0, .int 0, .int 0, .int 0, .int 0, .int 0, .int 0, .int 0, .int 0, .int 0, .int 0, .int 0, .int 0, .int 0, .int 0, .int 0, .int 0, .int 0, .int 0, .int 0, .int 0, .int 0, .int 0, .int 0, .int 0, .int 0, .int 0, .int 0, .int 0, .int 0, .int 0, .int 0, .int 0, .int 0, .int 0, .int 0] := Aw24
  show C.W h24 [a2] 1 64 (mkF K.m 108 #[.val (.int c)] [.ref a2])
  refine C.dup rfl d22_108 ?_
  refine C.bipush (v := (22 : Int32)) d22_109 (by first | rfl | decide) ?_
  refine C.iloadN d22_111 rfl ?_
  refine C.castore 22 Aw24 (by first | rfl | decide) (Nat.le_of_ble_eq_true rfl) hc.1 hc.2 d22_112 (List.mem_of_getElem? (i := 0) rfl) fun h25 z25 K25 Aw25 => ?_
  have Aw25 : Ary Z h25 a2 .char [.int c, .int c, .int c, .int c, .int c, .int c, .int c, .int c, .int c, .int c, .int c, .int c, .int c, .int c, .int c, .int c, .int c, .int c, .int c, .int c, .int c, .int c, .int c, .int 0, .int 0, .int 0, .int 0, .int 0, .int 0, .int 0, .int 0, .int 0, .int 0, .int 0, .int 0, .int 0, .int 0, .int 0, .int 0, .int 0, .int 0, .int 0, .int 0, .int 0, .int 0, .int 0, .int 0, .int 0, .int 0, .int 0, .int 0, .int 0, .int 0, .int 0, .int 0, .int 0, .int 0, .int 0, .int 0, .int 0, .int 0, .int 0, .int 0, .int 0] := Aw25
  show C.W h25 [a2] 1 64 (mkF K.m 113 #[.val (.int c)] [.ref a2])
  refine C.dup rfl d22_113 ?_
  refine C.bipush (v := (23 : Int32)) d22_114 (by first | rfl | decide) ?_
  refine C.iloadN d22_116 rfl ?_
  refine C.castore 23 Aw25 (by first | rfl | decide) (Nat.le_of_ble_eq_true rfl) hc.1 hc.2 d22_117 (List.mem_of_getElem? (i := 0) rfl) fun h26 z26 K26 Aw26 => ?_
  have Aw26 : Ary Z h26 a2 .char [.int c, .int c, .int c, .int c, .int c, .int c, .int c, .int c, .int c, .int c, .int c, .int c, .int c, .int c, .int c, .int c, .int c, .int c, .int c, .int c, .int c, .int c, .int c, .int c, .int 0, .int 0, .int 0, .int 0, .int 0, .int 0, .int 0, .int 0, .int 0, .int 0, .int 0, .int 0, .int 0, .int 0, .int 0, .int 0, .int 0, .int 0, .int 0, .int 0, .int 0, .int 0, .int 0, .int 0, .int 0, .int 0, .int 0, .int 0, .int 0, .int 0, .int 0, .int 0, .int 0, .int 0, .int 0, .int 0, .int 0, .int 0, .int 0, .int 0] := Aw26
  show C.W h26 [a2] 1 64 (mkF K.m 118 #[.val (.int c)] [.ref a2])
  refine C.dup rfl d22_118 ?_
  refine C.bipush (v := (24 : Int32)) d22_119 (by first | rfl | decide) ?_
  refine C.iloadN d22_121 rfl ?_
  refine C.castore 24 Aw26 (by first | rfl | decide) (Nat.le_of_ble_eq_true rfl) hc.1 hc.2 d22_122 (List.mem_of_getElem? (i := 0) rfl) fun h27 z27 K27 Aw27 => ?_
  have Aw27 : Ary Z h27 a2 .char [.int c, .int c, .int c, .int c, .int c, .int c, .int c, .int c, .int c, .int c, .int c, .int c, .int c, .int c, .int c, .int c, .int c, .int c, .int c, .int c, .int c, .int c, .int c, .int c, .int c, .int 0, .int 0, .int 0, .int 0, .int 0, .int 0, .int 0, .int 0, .int 0, .int 0, .int 0, .int 0, .int 0, .int 0, .int 0, .int 0, .int 0, .int 0, .int 0, .int 0, .int 0, .int 0, .int 0, .int 0, .int 0, .int 0, .int 0, .int 0, .int 0, .int 0, .int 0, .int 0, .int 0, .int 0, .int 0, .int 0, .int 0, .int 0, .int 0] := Aw27
  show C.W h27 [a2] 1 64 (mkF K.m 123 #[.val (.int c)] [.ref a2])
  refine C.dup rfl d22_123 ?_
  refine C.bipush (v := (25 : Int32)) d22_124 (by first | rfl | decide) ?_
  refine C.iloadN d22_126 rfl ?_
  refine C.castore 25 Aw27 (by first | rfl | decide) (Nat.le_of_ble_eq_true rfl) hc.1 hc.2 d22_127 (List.mem_of_getElem? (i := 0) rfl) fun h28 z28 K28 Aw28 => ?_
  have Aw28 : Ary Z h28 a2 .char [.int c, .int c, .int c, .int c, .int c, .int c, .int c, .int c, .int c, .int c, .int c, .int c, .int c, .int c, .int c, .int c, .int c, .int c, .int c, .int c, .int c, .int c, .int c, .int c, .int c, .int c, .int 0, .int 0, .int 0, .int 0, .int 0, .int 0, .int 0, .int 0, .int 0, .int 0, .int 0, .int 0, .int 0, .int 0, .int 0, .int 0, .int 0, .int 0, .int 0, .int 0, .int 0, .int 0, .int 0, .int 0, .int 0, .int 0, .int 0, .int 0, .int 0, .int 0, .int 0, .int 0, .int 0, .int 0, .int 0, .int 0, .int 0, .int 0] := Aw28
  show C.W h28 [a2] 1 64 (mkF K.m 128 #[.val (.int c)] [.ref a2])
  refine C.dup rfl d22_128 ?_
  refine C.bipush (v := (26 : Int32)) d22_129 (by first | rfl | decide) ?_
  refine C.iloadN d22_131 rfl ?_
  refine C.castore 26 Aw28 (by first | rfl | decide) (Nat.le_of_ble_eq_true rfl) hc.1 hc.2 d22_132 (List.mem_of_getElem? (i := 0) rfl) fun h29 z29 K29 Aw29 => ?_
  have Aw29 : Ary Z h29 a2 .char [.int c, .int c, .int c, .int c, .int c, .int c, .int c, .int c, .int c, .int c, .int c, .int c, .int c, .int c, .int c, .int c, .int c, .int c, .int c, .int c, .int c, .int c, .int c, .int c, .int c, .int c, .int c, .int 0, .int 0, .int 0, .int 0, .int 0, .int 0, .int 0, .int 0, .int 0, .int 0, .int 0, .int 0, .int 0, .int 0, .int 0, .int 0, .int 0, .int 0, .int 0, .int 0, .int 0, .int 0, .int 0, .int 0, .int 0, .int 0, .int 0, .int 0, .int 0, .int 0, .int 0, .int 0, .int 0, .int 0, .int 0, .int 0, .int 0] := Aw29
  show C.W h29 [a2] 1 64 (mkF K.m 133 #[.val (.int c)] [.ref a2])
  refine C.dup rfl d22_133 ?_
  refine C.bipush (v := (27 : Int32)) d22_134 (by first | rfl | decide) ?_
  refine C.iloadN d22_136 rfl ?_
  refine C.castore 27 Aw29 (by first | rfl | decide) (Nat.le_of_ble_eq_true rfl) hc.1 hc.2 d22_137 (List.mem_of_getElem? (i := 0) rfl) fun h30 z30 K30 Aw30 => ?_
  have Aw30 : Ary Z h30 a2 .char [.int c, .int c, .int c, .int c, .int c, .int c, .int c, .int c, .int c, .int c, .int c, .int c, .int c, .int c, .int c, .int c, .int c, .int c, .int c, .int c, .int c, .int c, .int c, .int c, .int c, .int c, .int c, .int c, .int 0, .int 0, .int 0, .int 0, .int 0, .int 0, .int 0, .int 0, .int 0, .int 0, .int 0, .int 0, .int 0, .int 0, .int 0, .int 0, .int 0, .int 0, .int 0, .int 0, .int 0, .int 0, .int 0, .int 0, .int 0, .int 0, .int 0, .int 0, .int 0, .int 0, .int 0, .int 0, .int 0, .int 0, .int 0, .int 0] := Aw30
  show C.W h30 [a2] 1 64 (mkF K.m 138 #[.val (.int c)] [.ref a2])
  refine C.dup rfl d22_138 ?_
  refine C.bipush (v := (28 : Int32)) d22_139 (by first | rfl | decide) ?_
  refine C.iloadN d22_141 rfl ?_
  refine C.castore 28 Aw30 (by first | rfl | decide) (Nat.le_of_ble_eq_true rfl) hc.1 hc.2 d22_142 (List.mem_of_getElem? (i := 0) rfl) fun h31 z31 K31 Aw31 => ?_
  have Aw31 : Ary Z h31 a2 .char [.int c, .int c, .int c, .int c, .int c, .int c, .int c, .int c, .int c, .int c, .int c, .int c, .int c, .int c, .int c, .int c, .int c, .int c, .int c, .int c, .int c, .int c, .int c, .int c, .int c, .int c, .int c, .int c, .int c, .int 0, .int 0, .int 0, .int 0, .int 0, .int 0, .int 0, .int 0, .int 0, .int 0, .int 0, .int 0, .int 0, .int 0, .int 0, .int 0, .int 0, .int 0, .int 0, .int 0, .int 0, .int 0, .int 0, .int 0, .int 0, .int 0, .int 0, .int 0, .int 0, .int 0, .int 0, .int 0, .int 0, .int 0, .int 0] := Aw31
  show C.W h31 [a2] 1 64 (mkF K.m 143 #[.val (.int c)] [.ref a2])
  refine C.dup rfl d22_143 ?_
  refine C.bipush (v := (29 : Int32)) d22_144 (by first | rfl | decide) ?_
  refine C.iloadN d22_146 rfl ?_
  refine C.castore 29 Aw31 (by first | rfl | decide) (Nat.le_of_ble_eq_true rfl) hc.1 hc.2 d22_147 (List.mem_of_getElem? (i := 0) rfl) fun h32 z32 K32 Aw32 => ?_
  have Aw32 : Ary Z h32 a2 .char [.int c, .int c, .int c, .int c, .int c, .int c, .int c, .int c, .int c, .int c, .int c, .int c, .int c, .int c, .int c, .int c, .int c, .int c, .int c, .int c, .int c, .int c, .int c, .int c, .int c, .int c, .int c, .int c, .int c, .int c, .int 0, .int 0, .int 0, .int 0, .int 0, .int 0, .int 0, .int 0, .int 0, .int 0, .int 0, .int 0, .int 0, .int 0, .int 0, .int 0, .int 0, .int 0, .int 0, .int 0, .int 0, .int 0, .int 0, .int 0, .int 0, .int 0, .int 0, .int 0, .int 0, .int 0, .int 0, .int 0, .int 0, .int 0] := Aw32
  show C.W h32 [a2] 1 64 (mkF K.m 148 #[.val (.int c)] [.ref a2])
  refine C.dup rfl d22_148 ?_
  refine C.bipush (v := (30 : Int32)) d22_149 (by first | rfl | decide) ?_
  refine C.iloadN d22_151 rfl ?_
  refine C.castore 30 Aw32 (by first | rfl | decide) (Nat.le_of_ble_eq_true rfl) hc.1 hc.2 d22_152 (List.mem_of_getElem? (i := 0) rfl) fun h33 z33 K33 Aw33 => ?_
  have Aw33 : Ary Z h33 a2 .char [.int c, .int c, .int c, .int c, .int c, .int c, .int c, .int c, .int c, .int c, .int c, .int c, .int c, .int c, .int c, .int c, .int c, .int c, .int c, .int c, .int c, .int c, .int c, .int c, .int c, .int c, .int c, .int c, .int c, .int c, .int c, .int 0, .int 0, .int 0, .int 0, .int 0, .int 0, .int 0, .int 0, .int 0, .int 0, .int 0, .int 0, .int 0, .int 0, .int 0, .int 0, .int 0, .int 0, .int 0, .int 0, .int 0, .int 0, .int 0, .int 0, .int 0, .int 0, .int 0, .int 0, .int 0, .int 0, .int 0, .int 0, .int 0] := Aw33
  show C.W h33 [a2] 1 64 (mkF K.m 153 #[.val (.int c)] [.ref a2])
  refine C.dup rfl d22_153 ?_
  refine C.bipush (v := (31 : Int32)) d22_154 (by first | rfl | decide) ?_
  refine C.iloadN d22_156 rfl ?_
  refine C.castore 31 Aw33 (by first | rfl | decide) (Nat.le_of_ble_eq_true rfl) hc.1 hc.2 d22_157 (List.mem_of_getElem? (i := 0) rfl) fun h34 z34 K34 Aw34 => ?_
  have Aw34 : Ary Z h34 a2 .char [.int c, .int c, .int c, .int c, .int c, .int c, .int c, .int c, .int c, .int c, .int c, .int c, .int c, .int c, .int c, .int c, .int c, .int c, .int c, .int c, .int c, .int c, .int c, .int c, .int c, .int c, .int c, .int c, .int c, .int c, .int c, .int c, .int 0, .int 0, .int 0, .int 0, .int 0, .int 0, .int 0, .int 0, .int 0, .int 0, .int 0, .int 0, .int 0, .int 0, .int 0, .int 0, .int 0, .int 0, .int 0, .int 0, .int 0, .int 0, .int 0, .int 0, .int 0, .int 0, .int 0, .int 0, .int 0, .int 0, .int 0, .int 0] := Aw34
  show C.W h34 [a2] 1 64 (mkF K.m 158 #[.val (.int c)] [.ref a2])
  refine C.dup rfl d22_158 ?_
  refine C.bipush (v := (32 : Int32)) d22_159 (by first | rfl | decide) ?_
  refine C.iloadN d22_161 rfl ?_
  refine C.castore 32 Aw34 (by first | rfl | decide) (Nat.le_of_ble_eq_true rfl) hc.1 hc.2 d22_162 (List.mem_of_getElem? (i := 0) rfl) fun h35 z35 K35 Aw35 => ?_
  have Aw35 : Ary Z h35 a2 .char [.int c, .int c, .int c, .int c, .int c, .int c, .int c, .int c, .int c, .int c, .int c, .int c, .int c, .int c, .int c, .int c, .int c, .int c, .int c, .int c, .int c, .int c, .int c, .int c, .int c, .int c, .int c, .int c, .int c, .int c, .int c, .int c, .int c, .int 0, .int 0, .int 0, .int 0, .int 0, .int 0, .int 0, .int 0, .int 0, .int 0, .int 0, .int 0, .int 0, .int 0, .int 0, .int 0, .int 0, .int 0, .int 0, .int 0, .int 0, .int 0, .int 0, .int 0, .int 0, .int 0, .int 0, .int 0, .int 0, .int 0, .int 0] := Aw35
  show C.W h35 [a2] 1 64 (mkF K.m 163 #[.val (.int c)] [.ref a2])
  refine C.dup rfl d22_163 ?_
  refine C.bipush (v := (33 : Int32)) d22_164 (by first | rfl | decide) ?_
  refine C.iloadN d22_166 rfl ?_
  refine C.castore 33 Aw35 (by first | rfl | decide) (Nat.le_of_ble_eq_true rfl) hc.1 hc.2 d22_167 (List.mem_of_getElem? (i := 0) rfl) fun h36 z36 K36 Aw36 => ?_
  have Aw36 : Ary Z h36 a2 .char [.int c, .int c, .int c, .int c, .int c, .int c, .int c, .int c, .int c, .int c, .int c, .int c, .int c, .int c, .int c, .int c, .int c, .int c, .int c, .int c, .int c, .int c, .int c, .int c, .int c, .int c, .int c, .int c, .int c, .int c, .int c, .int c, .int c, .int c, .int 0, .int 0, .int 0, .int 0, .int 0, .int 0, .int 0, .int 0, .int 0, .int 0, .int 0, .int 0, .int 0, .int 0, .int 0, .int 0, .int 0, .int 0, .int 0, .int 0, .int 0, .int 0, .int 0, .int 0, .int 0, .int 0, .int 0, .int 0, .int 0, .int 0] := Aw36
  show C.W h36 [a2] 1 64 (mkF K.m 168 #[.val (.int c)] [.ref a2])
  refine C.dup rfl d22_168 ?_
  refine C.bipush (v := (34 : Int32)) d22_169 (by first | rfl | decide) ?_
  refine C.iloadN d22_171 rfl ?_
  refine C.castore 34 Aw36 (by first | rfl | decide) (Nat.le_of_ble_eq_true rfl) hc.1 hc.2 d22_172 (List.mem_of_getElem? (i := 0) rfl) fun h37 z37 K37 Aw37 => ?_
  have Aw37 : Ary Z h37 a2 .char [.int c, .int c, .int c, .int c, .int c, .int c, .int c, .int c, .int c, .int c, .int c, .int c, .int c, .int c, .int c, .int c, .int c, .int c, .int c, .int c, .int c, .int c, .int c, .int c, .int c, .int c, .int c, .int c, .int c, .int c, .int c, .int c, .int c, .int c, .int c, .int 0, .int 0, .int 0, .int 0, .int 0, .int 0, .int 0, .int 0, .int 0, .int 0, .int 0, .int 0, .int 0, .int 0, .int 0, .int 0, .int 0, .int 0, .int 0, .int 0, .int 0, .int 0, .int 0, .int 0, .int 0, .int 0, .int 0, .int 0, .int 0] := Aw37
  show C.W h37 [a2] 1 64 (mkF K.m 173 #[.val (.int c)] [.ref a2])
  refine C.dup rfl d22_173 ?_
  refine C.bipush (v := (35 : Int32)) d22_174 (by first | rfl | decide) ?_
  refine C.iloadN d22_176 rfl ?_
  refine C.castore 35 Aw37 (by first | rfl | decide) (Nat.le_of_ble_eq_true rfl) hc.1 hc.2 d22_177 (List.mem_of_getElem? (i := 0) rfl) fun h38 z38 K38 Aw38 => ?_
  have Aw38 : Ary Z h38 a2 .char [.int c, .int c, .int c, .int c, .int c, .int c, .int c, .int c, .int c, .int c, .int c, .int c, .int c, .int c, .int c, .int c, .int c, .int c, .int c, .int c, .int c, .int c, .int c, .int c, .int c, .int c, .int c, .int c, .int c, .int c, .int c, .int c, .int c, .int c, .int c, .int c, .int 0, .int 0, .int 0, .int 0, .int 0, .int 0, .int 0, .int 0, .int 0, .int 0, .int 0, .int 0, .int 0, .int 0, .int 0, .int 0, .int 0, .int 0, .int 0, .int 0, .int 0, .int 0, .int 0, .int 0, .int 0, .int 0, .int 0, .int 0] := Aw38
  show C.W h38 [a2] 1 64 (mkF K.m 178 #[.val (.int c)] [.ref a2])
  refine C.dup rfl d22_178 ?_
  refine C.bipush (v := (36 : Int32)) d22_179 (by first | rfl | decide) ?_
  refine C.iloadN d22_181 rfl ?_
  refine C.castore 36 Aw38 (by first | rfl | decide) (Nat.le_of_ble_eq_true rfl) hc.1 hc.2 d22_182 (List.mem_of_getElem? (i := 0) rfl) fun h39 z39 K39 Aw39 => ?_
  have Aw39 : Ary Z h39 a2 .char [.int c, .int c, .int c, .int c, .int c, .int c, .int c, .int c, .int c, .int c, .int c, .int c, .int c, .int c, .int c, .int c, .int c, .int c, .int c, .int c, .int c, .int c, .int c, .int c, .int c, .int c, .int c, .int c, .int c, .int c, .int c, .int c, .int c, .int c, .int c, .int c, .int c, .int 0, .int 0, .int 0, .int 0, .int 0, .int 0, .int 0, .int 0, .int 0, .int 0, .int 0, .int 0, .int 0, .int 0, .int 0, .int 0, .int 0, .int 0, .int 0, .int 0, .int 0, .int 0, .int 0, .int 0, .int 0, .int 0, .int 0] := Aw39
  show C.W h39 [a2] 1 64 (mkF K.m 183 #[.val (.int c)] [.ref a2])
  refine C.dup rfl d22_183 ?_
  refine C.bipush (v := (37 : Int32)) d22_184 (by first | rfl | decide) ?_
  refine C.iloadN d22_186 rfl ?_
  refine C.castore 37 Aw39 (by first | rfl | decide) (Nat.le_of_ble_eq_true rfl) hc.1 hc.2 d22_187 (List.mem_of_getElem? (i := 0) rfl) fun h40 z40 K40 Aw40 => ?_
  have Aw40 : Ary Z h40 a2 .char [.int c, .int c, .int c, .int c, .int c, .int c, .int c, .int c, .int c, .int c, .int c, .int c, .int c, .int c, .int c, .int c, .int c, .int c, .int c, .int c, .int c, .int c, .int c, .int c, .int c, .int c, .int c, .int c, .int c, .int c, .int c, .int c, .int c, .int c, .int c, .int c, .int c, .int c, .int 0, .int 0, .int 0, .int 0, .int 0, .int 0, .int 0, .int 0, .int 0, .int 0, .int 0, .int 0, .int 0, .int 0, .int 0, .int 0, .int 0, .int 0, .int 0, .int 0, .int 0, .int 0, .int 0, .int 0, .int 0, .int 0] := Aw40
  show C.W h40 [a2] 1 64 (mkF K.m 188 #[.val (.int c)] [.ref a2])
  refine C.dup rfl d22_188 ?_
  refine C.bipush (v := (38 : Int32)) d22_189 (by first | rfl | decide) ?_
  refine C.iloadN d22_191 rfl ?_
  refine C.castore 38 Aw40 (by first | rfl | decide) (Nat.le_of_ble_eq_true rfl) hc.1 hc.2 d22_192 (List.mem_of_getElem? (i := 0) rfl) fun h41 z41 K41 Aw41 => ?_
  have Aw41 : Ary Z h41 a2 .char [.int c, .int c, .int c, .int c, .int c, .int c, .int c, .int c, .int c, .int c, .int c, .int c, .int c, .int c, .int c, .int c, .int c, .int c, .int c, .int c, .int c, .int c, .int c, .int c, .int c, .int c, .int c, .int c, .int c, .int c, .int c, .int c, .int c, .int c, .int c, .int c, .int c, .int c, .int c, .int 0, .int 0, .int 0, .int 0, .int 0, .int 0, .int 0, .int 0, .int 0, .int 0, .int 0, .int 0, .int 0, .int 0, .int 0, .int 0, .int 0, .int 0, .int 0, .int 0, .int 0, .int 0, .int 0, .int 0, .int 0] := Aw41
  show C.W h41 [a2] 1 64 (mkF K.m 193 #[.val (.int c)] [.ref a2])
  refine C.dup rfl d22_193 ?_
  refine C.bipush (v := (39 : Int32)) d22_194 (by first | rfl | decide) ?_
  refine C.iloadN d22_196 rfl ?_
  refine C.castore 39 Aw41 (by first | rfl | decide) (Nat.le_of_ble_eq_true rfl) hc.1 hc.2 d22_197 (List.mem_of_getElem? (i := 0) rfl) fun h42 z42 K42 Aw42 => ?_
  have Aw42 : Ary Z h42 a2 .char [.int c, .int c, .int c, .int c, .int c, .int c, .int c, .int c, .int c, .int c, .int c, .int c, .int c, .int c, .int c, .int c, .int c, .int c, .int c, .int c, .int c, .int c, .int c, .int c, .int c, .int c, .int c, .int c, .int c, .int c, .int c, .int c, .int c, .int c, .int c, .int c, .int c, .int c, .int c, .int c, .int 0, .int 0, .int 0, .int 0, .int 0, .int 0, .int 0, .int 0, .int 0, .int 0, .int 0, .int 0, .int 0, .int 0, .int 0, .int 0, .int 0, .int 0, .int 0, .int 0, .int 0, .int 0, .int 0, .int 0] := Aw42
  show C.W h42 [a2] 1 64 (mkF K.m 198 #[.val (.int c)] [.ref a2])
  refine C.dup rfl d22_198 ?_
  refine C.bipush (v := (40 : Int32)) d22_199 (by first | rfl | decide) ?_
  refine C.iloadN d22_201 rfl ?_
  refine C.castore 40 Aw42 (by first | rfl | decide) (Nat.le_of_ble_eq_true rfl) hc.1 hc.2 d22_202 (List.mem_of_getElem? (i := 0) rfl) fun h43 z43 K43 Aw43 => ?_
  have Aw43 : Ary Z h43 a2 .char [.int c, .int c, .int c, .int c, .int c, .int c, .int c, .int c, .int c, .int c, .int c, .int c, .int c, .int c, .int c, .int c, .int c, .int c, .int c, .int c, .int c, .int c, .int c, .int c, .int c, .int c, .int c, .int c, .int c, .int c, .int c, .int c, .int c, .int c, .int c, .int c, .int c, .int c, .int c, .int c, .int c, .int 0, .int 0, .int 0, .int 0, .int 0, .int 0, .int 0, .int 0, .int 0, .int 0, .int 0, .int 0, .int 0, .int 0, .int 0, .int 0, .int 0, .int 0, .int 0, .int 0, .int 0, .int 0, .int 0] := Aw43
  show C.W h43 [a2] 1 64 (mkF K.m 203 #[.val (.int c)] [.ref a2])
  refine C.dup rfl d22_203 ?_
  refine C.bipush (v := (41 : Int32)) d22_204 (by first | rfl | decide) ?_
  refine C.iloadN d22_206 rfl ?_
  refine C.castore 41 Aw43 (by first | rfl | decide) (Nat.le_of_ble_eq_true rfl) hc.1 hc.2 d22_207 (List.mem_of_getElem? (i := 0) rfl) fun h44 z44 K44 Aw44 => ?_
  have Aw44 : Ary Z h44 a2 .char [.int c, .int c, .int c, .int c, .int c, .int c, .int c, .int c, .int c, .int c, .int c, .int c, .int c, .int c, .int c, .int c, .int c, .int c, .int c, .int c, .int c, .int c, .int c, .int c, .int c, .int c, .int c, .int c, .int c, .int c, .int c, .int c, .int c, .int c, .int c, .int c, .int c, .int c, .int c, .int c, .int c, .int c, .int 0, .int 0, .int 0, .int 0, .int 0, .int 0, .int 0, .int 0, .int 0, .int 0, .int 0, .int 0, .int 0, .int 0, .int 0, .int 0, .int 0, .int 0, .int 0, .int 0, .int 0, .int 0] := Aw44
  show C.W h44 [a2] 1 64 (mkF K.m 208 #[.val (.int c)] [.ref a2])
  refine C.dup rfl d22_208 ?_
  refine C.bipush (v := (42 : Int32)) d22_209 (by first | rfl | decide) ?_
  refine C.iloadN d22_211 rfl ?_
  refine C.castore 42 Aw44 (by first | rfl | decide) (Nat.le_of_ble_eq_true rfl) hc.1 hc.2 d22_212 (List.mem_of_getElem? (i := 0) rfl) fun h45 z45 K45 Aw45 => ?_
  have Aw45 : Ary Z h45 a2 .char [.int c, .int c, .int c, .int c, .int c, .int c, .int c, .int c, .int c, .int c, .int c, .int c, .int c, .int c, .int c, .int c, .int c, .int c, .int c, .int c, .int c, .int c, .int c, .int c, .int c, .int c, .int c, .int c, .int c, .int c, .int c, .int c, .int c, .int c, .int c, .int c, .int c, .int c, .int c, .int c, .int c, .int c, .int c, .int 0, .int 0, .int 0, .int 0, .int 0, .int 0, .int 0, .int 0, .int 0, .int 0, .int 0, .int 0, .int 0, .int 0, .int 0, .int 0, .int 0, .int 0, .int 0, .int 0, .int 0] := Aw45
  show C.W h45 [a2] 1 64 (mkF K.m 213 #[.val (.int c)] [.ref a2])
  refine C.dup rfl d22_213 ?_
  refine C.bipush (v := (43 : Int32)) d22_214 (by first | rfl | decide) ?_
  refine C.iloadN d22_216 rfl ?_
  refine C.castore 43 Aw45 (by first | rfl | decide) (Nat.le_of_ble_eq_true rfl) hc.1 hc.2 d22_217 (List.mem_of_getElem? (i := 0) rfl) fun h46 z46 K46 Aw46 => ?_
  have Aw46 : Ary Z h46 a2 .char [.int c, .int c, .int c, .int c, .int c, .int c, .int c, .int c, .int c, .int c, .int c, .int c, .int c, .int c, .int c, .int c, .int c, .int c, .int c, .int c, .int c, .int c, .int c, .int c, .int c, .int c, .int c, .int c, .int c, .int c, .int c, .int c, .int c, .int c, .int c, .int c, .int c, .int c, .int c, .int c, .int c, .int c, .int c, .int c, .int 0, .int 0, .int 0, .int 0, .int 0, .int 0, .int 0, .int 0, .int 0, .int 0, .int 0, .int 0, .int 0, .int 0, .int 0, .int 0, .int 0, .int 0, .int 0, .int 0] := Aw46
  show C.W h46 [a2] 1 64 (mkF K.m 218 #[.val (.int c)] [.ref a2])
  refine C.dup rfl d22_218 ?_
  refine C.bipush (v := (44 : Int32)) d22_219 (by first | rfl | decide) ?_
  refine C.iloadN d22_221 rfl ?_
  refine C.castore 44 Aw46 (by first | rfl | decide) (Nat.le_of_ble_eq_true rfl) hc.1 hc.2 d22_222 (List.mem_of_getElem? (i := 0) rfl) fun h47 z47 K47 Aw47 => ?_
  have Aw47 : Ary Z h47 a2 .char [.int c, .int c, .int c, .int c, .int c, .int c, .int c, .int c, .int c, .int c, .int c, .int c, .int c, .int c, .int c, .int c, .int c, .int c, .int c, .int c, .int c, .int c, .int c, .int c, .int c, .int c, .int c, .int c, .int c, .int c, .int c, .int c, .int c, .int c, .int c, .int c, .int c, .int c, .int c, .int c, .int c, .int c, .int c, .int c, .int c, .int 0, .int 0, .int 0, .int 0, .int 0, .int 0, .int 0, .int 0, .int 0, .int 0, .int 0, .int 0, .int 0, .int 0, .int 0, .int 0, .int 0, .int 0, .int 0] := Aw47
  show C.W h47 [a2] 1 64 (mkF K.m 223 #[.val (.int c)] [.ref a2])
  refine C.dup rfl d22_223 ?_
  refine C.bipush (v := (45 : Int32)) d22_224 (by first | rfl | decide) ?_
  refine C.iloadN d22_226 rfl ?_
  refine C.castore 45 Aw47 (by first | rfl | decide) (Nat.le_of_ble_eq_true rfl) hc.1 hc.2 d22_227 (List.mem_of_getElem? (i := 0) rfl) fun h48 z48 K48 Aw48 => ?_
  have Aw48 : Ary Z h48 a2 .char [.int c, .int c, .int c, .int c, .int c, .int c, .int c, .int c, .int c, .int c, .int c, .int c, .int c, .int c, .int c, .int c, .int c, .int c, .int c, .int c, .int c, .int c, .int c, .int c, .int c, .int c, .int c, .int c, .int c, .int c, .int c, .int c, .int c, .int c, .int c, .int c, .int c, .int c, .int c, .int c, .int c, .int c, .int c, .int c, .int c, .int c, .int 0, .int 0, .int 0, .int 0, .int 0, .int 0, .int 0, .int 0, .int 0, .int 0, .int 0, .int 0, .int 0, .int 0, .int 0, .int 0, .int 0, .int 0] := Aw48
  show C.W h48 [a2] 1 64 (mkF K.m 228 #[.val (.int c)] [.ref a2])
  refine C.dup rfl d22_228 ?_
  refine C.bipush (v := (46 : Int32)) d22_229 (by first | rfl | decide) ?_
  refine C.iloadN d22_231 rfl ?_
  refine C.castore 46 Aw48 (by first | rfl | decide) (Nat.le_of_ble_eq_true rfl) hc.1 hc.2 d22_232 (List.mem_of_getElem? (i := 0) rfl) fun h49 z49 K49 Aw49 => ?_
  have Aw49 : Ary Z h49 a2 .char [.int c, .int c, .int c, .int c, .int c, .int c, .int c, .int c, .int c, .int c, .int c, .int c, .int c, .int c, .int c, .int c, .int c, .int c, .int c, .int c, .int c, .int c, .int c, .int c, .int c, .int c, .int c, .int c, .int c, .int c, .int c, .int c, .int c, .int c, .int c, .int c, .int c, .int c, .int c, .int c, .int c, .int c, .int c, .int c, .int c, .int c, .int c, .int 0, .int 0, .int 0, .int 0, .int 0, .int 0, .int 0, .int 0, .int 0, .int 0, .int 0, .int 0, .int 0, .int 0, .int 0, .int 0, .int 0] := Aw49
  show C.W h49 [a2] 1 64 (mkF K.m 233 #[.val (.int c)] [.ref a2])
  refine C.dup rfl d22_233 ?_
  refine C.bipush (v := (47 : Int32)) d22_234 (by first | rfl | decide) ?_
  refine C.iloadN d22_236 rfl ?_
  refine C.castore 47 Aw49 (by first | rfl | decide) (Nat.le_of_ble_eq_true rfl) hc.1 hc.2 d22_237 (List.mem_of_getElem? (i := 0) rfl) fun h50 z50 K50 Aw50 => ?_
  have Aw50 : Ary Z h50 a2 .char [.int c, .int c, .int c, .int c, .int c, .int c, .int c, .int c, .int c, .int c, .int c, .int c, .int c, .int c, .int c, .int c, .int c, .int c, .int c, .int c, .int c, .int c, .int c, .int c, .int c, .int c, .int c, .int c, .int c, .int c, .int c, .int c, .int c, .int c, .int c, .int c, .int c, .int c, .int c, .int c, .int c, .int c, .int c, .int c, .int c, .int c, .int c, .int c, .int 0, .int 0, .int 0, .int 0, .int 0, .int 0, .int 0, .int 0, .int 0, .int 0, .int 0, .int 0, .int 0, .int 0, .int 0, .int 0] := Aw50
  show C.W h50 [a2] 1 64 (mkF K.m 238 #[.val (.int c)] [.ref a2])
  refine C.dup rfl d22_238 ?_
  refine C.bipush (v := (48 : Int32)) d22_239 (by first | rfl | decide) ?_
  refine C.iloadN d22_241 rfl ?_
  refine C.castore 48 Aw50 (by first | rfl | decide) (Nat.le_of_ble_eq_true rfl) hc.1 hc.2 d22_242 (List.mem_of_getElem? (i := 0) rfl) fun h51 z51 K51 Aw51 => ?_
  have Aw51 : Ary Z h51 a2 .char [.int c, .int c, .int c, .int c, .int c, .int c, .int c, .int c, .int c, .int c, .int c, .int c, .int c, .int c, .int c, .int c, .int c, .int c, .int c, .int c, .int c, .int c, .int c, .int c, .int c, .int c, .int c, .int c, .int c, .int c, .int c, .int c, .int c, .int c, .int c, .int c, .int c, .int c, .int c, .int c, .int c, .int c, .int c, .int c, .int c, .int c, .int c, .int c, .int c, .int 0, .int 0, .int 0, .int 0, .int 0, .int 0, .int 0, .int 0, .int 0, .int 0, .int 0, .int 0, .int 0, .int 0, .int 0] := Aw51
  show C.W h51 [a2] 1 64 (mkF K.m 243 #[.val (.int c)] [.ref a2])
  refine C.dup rfl d22_243 ?_
  refine C.bipush (v := (49 : Int32)) d22_244 (by first | rfl | decide) ?_
  refine C.iloadN d22_246 rfl ?_
  refine C.castore 49 Aw51 (by first | rfl | decide) (Nat.le_of_ble_eq_true rfl) hc.1 hc.2 d22_247 (List.mem_of_getElem? (i := 0) rfl) fun h52 z52 K52 Aw52 => ?_
  have Aw52 : Ary Z h52 a2 .char [.int c, .int c, .int c, .int c, .int c, .int c, .int c, .int c, .int c, .int c, .int c, .int c, .int c, .int c, .int c, .int c, .int c, .int c, .int c, .int c, .int c, .int c, .int c, .int c, .int c, .int c, .int c, .int c, .int c, .int c, .int c, .int c, .int c, .int c, .int c, .int c, .int c, .int c, .int c, .int c, .int c, .int c, .int c, .int c, .int c, .int c, .int c, .int c, .int c, .int c, .int 0, .int 0, .int 0, .int 0, .int 0, .int 0, .int 0, .int 0, .int 0, .int 0, .int 0, .int 0, .int 0, .int 0] := Aw52
  show C.W h52 [a2] 1 64 (mkF K.m 248 #[.val (.int c)] [.ref a2])
  refine C.dup rfl d22_248 ?_
  refine C.bipush (v := (50 : Int32)) d22_249 (by first | rfl | decide) ?_
  refine C.iloadN d22_251 rfl ?_
  refine C.castore 50 Aw52 (by first | rfl | decide) (Nat.le_of_ble_eq_true rfl) hc.1 hc.2 d22_252 (List.mem_of_getElem? (i := 0) rfl) fun h53 z53 K53 Aw53 => ?_
  have Aw53 : Ary Z h53 a2 .char [.int c, .int c, .int c, .int c, .int c, .int c, .int c, .int c, .int c, .int c, .int c, .int c, .int c, .int c, .int c, .int c, .int c, .int c, .int c, .int c, .int c, .int c, .int c, .int c, .int c, .int c, .int c, .int c, .int c, .int c, .int c, .int c, .int c, .int c, .int c, .int c, .int c, .int c, .int c, .int c, .int c, .int c, .int c, .int c, .int c, .int c, .int c, .int c, .int c, .int c, .int c, .int 0, .int 0, .int 0, .int 0, .int 0, .int 0, .int 0, .int 0, .int 0, .int 0, .int 0, .int 0, .int 0] := Aw53
  show C.W h53 [a2] 1 64 (mkF K.m 253 #[.val (.int c)] [.ref a2])
  refine C.dup rfl d22_253 ?_
  refine C.bipush (v := (51 : Int32)) d22_254 (by first | rfl | decide) ?_
  refine C.iloadN d22_256 rfl ?_
  refine C.castore 51 Aw53 (by first | rfl | decide) (Nat.le_of_ble_eq_true rfl) hc.1 hc.2 d22_257 (List.mem_of_getElem? (i := 0) rfl) fun h54 z54 K54 Aw54 => ?_
  have Aw54 : Ary Z h54 a2 .char [.int c, .int c, .int c, .int c, .int c, .int c, .int c, .int c, .int c, .int c, .int c, .int c, .int c, .int c, .int c, .int c, .int c, .int c, .int c, .int c, .int c, .int c, .int c, .int c, .int c, .int c, .int c, .int c, .int c, .int c, .int c, .int c, .int c, .int c, .int c, .int c, .int c, .int c, .int c, .int c, .int c, .int c, .int c, .int c, .int c, .int c, .int c, .int c, .int c, .int c, .int c, .int c, .int 0, .int 0, .int 0, .int 0, .int 0, .int 0, .int 0, .int 0, .int 0, .int 0, .int 0, .int 0] := Aw54
  show C.W h54 [a2] 1 64 (mkF K.m 258 #[.val (.int c)] [.ref a2])
  refine C.dup rfl d22_258 ?_
  refine C.bipush (v := (52 : Int32)) d22_259 (by first | rfl | decide) ?_
  refine C.iloadN d22_261 rfl ?_
  refine C.castore 52 Aw54 (by first | rfl | decide) (Nat.le_of_ble_eq_true rfl) hc.1 hc.2 d22_262 (List.mem_of_getElem? (i := 0) rfl) fun h55 z55 K55 Aw55 => ?_
  have Aw55 : Ary Z h55 a2 .char [.int c, .int c, .int c, .int c, .int c, .int c, .int c, .int c, .int c, .int c, .int c, .int c, .int c, .int c, .int c, .int c, .int c, .int c, .int c, .int c, .int c, .int c, .int c, .int c, .int c, .int c, .int c, .int c, .int c, .int c, .int c, .int c, .int c, .int c, .int c, .int c, .int c, .int c, .int c, .int c, .int c, .int c, .int c, .int c, .int c, .int c, .int c, .int c, .int c, .int c, .int c, .int c, .int c, .int 0, .int 0, .int 0, .int 0, .int 0, .int 0, .int 0, .int 0, .int 0, .int 0, .int 0] := Aw55
  show C.W h55 [a2] 1 64 (mkF K.m 263 #[.val (.int c)] [.ref a2])
  refine C.dup rfl d22_263 ?_
  refine C.bipush (v := (53 : Int32)) d22_264 (by first | rfl | decide) ?_
  refine C.iloadN d22_266 rfl ?_
  refine C.castore 53 Aw55 (by first | rfl | decide) (Nat.le_of_ble_eq_true rfl) hc.1 hc.2 d22_267 (List.mem_of_getElem? (i := 0) rfl) fun h56 z56 K56 Aw56 => ?_
  have Aw56 : Ary Z h56 a2 .char [.int c, .int c, .int c, .int c, .int c, .int c, .int c, .int c, .int c, .int c, .int c, .int c, .int c, .int c, .int c, .int c, .int c, .int c, .int c, .int c, .int c, .int c, .int c, .int c, .int c, .int c, .int c, .int c, .int c, .int c, .int c, .int c, .int c, .int c, .int c, .int c, .int c, .int c, .int c, .int c, .int c, .int c, .int c, .int c, .int c, .int c, .int c, .int c, .int c, .int c, .int c, .int c, .int c, .int c, .int 0, .int 0, .int 0, .int 0, .int 0, .int 0, .int 0, .int 0, .int 0, .int 0] := Aw56
  show C.W h56 [a2] 1 64 (mkF K.m 268 #[.val (.int c)] [.ref a2])
  refine C.dup rfl d22_268 ?_
  refine C.bipush (v := (54 : Int32)) d22_269 (by first | rfl | decide) ?_
  refine C.iloadN d22_271 rfl ?_
  refine C.castore 54 Aw56 (by first | rfl | decide) (Nat.le_of_ble_eq_true rfl) hc.1 hc.2 d22_272 (List.mem_of_getElem? (i := 0) rfl) fun h57 z57 K57 Aw57 => ?_
  have Aw57 : Ary Z h57 a2 .char [.int c, .int c, .int c, .int c, .int c, .int c, .int c, .int c, .int c, .int c, .int c, .int c, .int c, .int c, .int c, .int c, .int c, .int c, .int c, .int c, .int c, .int c, .int c, .int c, .int c, .int c, .int c, .int c, .int c, .int c, .int c, .int c, .int c, .int c, .int c, .int c, .int c, .int c, .int c, .int c, .int c, .int c, .int c, .int c, .int c, .int c, .int c, .int c, .int c, .int c, .int c, .int c, .int c, .int c, .int c, .int 0, .int 0, .int 0, .int 0, .int 0, .int 0, .int 0, .int 0, .int 0] := Aw57
  show C.W h57 [a2] 1 64 (mkF K.m 273 #[.val (.int c)] [.ref a2])
  refine C.dup rfl d22_273 ?_
  refine C.bipush (v := (55 : Int32)) d22_274 (by first | rfl | decide) ?_
  refine C.iloadN d22_276 rfl ?_
  refine C.castore 55 Aw57 (by first | rfl | decide) (Nat.le_of_ble_eq_true rfl) hc.1 hc.2 d22_277 (List.mem_of_getElem? (i := 0) rfl) fun h58 z58 K58 Aw58 => ?_
  have Aw58 : Ary Z h58 a2 .char [.int c, .int c, .int c, .int c, .int c, .int c, .int c, .int c, .int c, .int c, .int c, .int c, .int c, .int c, .int c, .int c, .int c, .int c, .int c, .int c, .int c, .int c, .int c, .int c, .int c, .int c, .int c, .int c, .int c, .int c, .int c, .int c, .int c, .int c, .int c, .int c, .int c, .int c, .int c, .int c, .int c, .int c, .int c, .int c, .int c, .int c, .int c, .int c, .int c, .int c, .int c, .int c, .int c, .int c, .int c, .int c, .int 0, .int 0, .int 0, .int 0, .int 0, .int 0, .int 0, .int 0] := Aw58
  show C.W h58 [a2] 1 64 (mkF K.m 278 #[.val (.int c)] [.ref a2])
  refine C.dup rfl d22_278 ?_
  refine C.bipush (v := (56 : Int32)) d22_279 (by first | rfl | decide) ?_
  refine C.iloadN d22_281 rfl ?_
  refine C.castore 56 Aw58 (by first | rfl | decide) (Nat.le_of_ble_eq_true rfl) hc.1 hc.2 d22_282 (List.mem_of_getElem? (i := 0) rfl) fun h59 z59 K59 Aw59 => ?_
  have Aw59 : Ary Z h59 a2 .char [.int c, .int c, .int c, .int c, .int c, .int c, .int c, .int c, .int c, .int c, .int c, .int c, .int c, .int c, .int c, .int c, .int c, .int c, .int c, .int c, .int c, .int c, .int c, .int c, .int c, .int c, .int c, .int c, .int c, .int c, .int c, .int c, .int c, .int c, .int c, .int c, .int c, .int c, .int c, .int c, .int c, .int c, .int c, .int c, .int c, .int c, .int c, .int c, .int c, .int c, .int c, .int c, .int c, .int c, .int c, .int c, .int c, .int 0, .int 0, .int 0, .int 0, .int 0, .int 0, .int 0] := Aw59
  show C.W h59 [a2] 1 64 (mkF K.m 283 #[.val (.int c)] [.ref a2])
  refine C.dup rfl d22_283 ?_
  refine C.bipush (v := (57 : Int32)) d22_284 (by first | rfl | decide) ?_
  refine C.iloadN d22_286 rfl ?_
  refine C.castore 57 Aw59 (by first | rfl | decide) (Nat.le_of_ble_eq_true rfl) hc.1 hc.2 d22_287 (List.mem_of_getElem? (i := 0) rfl) fun h60 z60 K60 Aw60 => ?_
  have Aw60 : Ary Z h60 a2 .char [.int c, .int c, .int c, .int c, .int c, .int c, .int c, .int c, .int c, .int c, .int c, .int c, .int c, .int c, .int c, .int c, .int c, .int c, .int c, .int c, .int c, .int c, .int c, .int c, .int c, .int c, .int c, .int c, .int c, .int c, .int c, .int c, .int c, .int c, .int c, .int c, .int c, .int c, .int c, .int c, .int c, .int c, .int c, .int c, .int c, .int c, .int c, .int c, .int c, .int c, .int c, .int c, .int c, .int c, .int c, .int c, .int c, .int c, .int 0, .int 0, .int 0, .int 0, .int 0, .int 0] := Aw60
  show C.W h60 [a2] 1 64 (mkF K.m 288 #[.val (.int c)] [.ref a2])
  refine C.dup rfl d22_288 ?_
  refine C.bipush (v := (58 : Int32)) d22_289 (by first | rfl | decide) ?_
  refine C.iloadN d22_291 rfl ?_
  refine C.castore 58 Aw60 (by first | rfl | decide) (Nat.le_of_ble_eq_true rfl) hc.1 hc.2 d22_292 (List.mem_of_getElem? (i := 0) rfl) fun h61 z61 K61 Aw61 => ?_
  have Aw61 : Ary Z h61 a2 .char [.int c, .int c, .int c, .int c, .int c, .int c, .int c, .int c, .int c, .int c, .int c, .int c, .int c, .int c, .int c, .int c, .int c, .int c, .int c, .int c, .int c, .int c, .int c, .int c, .int c, .int c, .int c, .int c, .int c, .int c, .int c, .int c, .int c, .int c, .int c, .int c, .int c, .int c, .int c, .int c, .int c, .int c, .int c, .int c, .int c, .int c, .int c, .int c, .int c, .int c, .int c, .int c, .int c, .int c, .int c, .int c, .int c, .int c, .int c, .int 0, .int 0, .int 0, .int 0, .int 0] := Aw61
  show C.W h61 [a2] 1 64 (mkF K.m 293 #[.val (.int c)] [.ref a2])
  refine C.dup rfl d22_293 ?_
  refine C.bipush (v := (59 : Int32)) d22_294 (by first | rfl | decide) ?_
  refine C.iloadN d22_296 rfl ?_
  refine C.castore 59 Aw61 (by first | rfl | decide) (Nat.le_of_ble_eq_true rfl) hc.1 hc.2 d22_297 (List.mem_of_getElem? (i := 0) rfl) fun h62 z62 K62 Aw62 => ?_
  have Aw62 : Ary Z h62 a2 .char [.int c, .int c, .int c, .int c, .int c, .int c, .int c, .int c, .int c, .int c, .int c, .int c, .int c, .int c, .int c, .int c, .int c, .int c, .int c, .int c, .int c, .int c, .int c, .int c, .int c, .int c, .int c, .int c, .int c, .int c, .int c, .int c, .int c, .int c, .int c, .int c, .int c, .int c, .int c, .int c, .int c, .int c, .int c, .int c, .int c, .int c, .int c, .int c, .int c, .int c, .int c, .int c, .int c, .int c, .int c, .int c, .int c, .int c, .int c, .int c, .int 0, .int 0, .int 0, .int 0] := Aw62
  show C.W h62 [a2] 1 64 (mkF K.m 298 #[.val (.int c)] [.ref a2])
  refine C.dup rfl d22_298 ?_
  refine C.bipush (v := (60 : Int32)) d22_299 (by first | rfl | decide) ?_
  refine C.iloadN d22_301 rfl ?_
  refine C.castore 60 Aw62 (by first | rfl | decide) (Nat.le_of_ble_eq_true rfl) hc.1 hc.2 d22_302 (List.mem_of_getElem? (i := 0) rfl) fun h63 z63 K63 Aw63 => ?_
  have Aw63 : Ary Z h63 a2 .char [.int c, .int c, .int c, .int c, .int c, .int c, .int c, .int c, .int c, .int c, .int c, .int c, .int c, .int c, .int c, .int c, .int c, .int c, .int c, .int c, .int c, .int c, .int c, .int c, .int c, .int c, .int c, .int c, .int c, .int c, .int c, .int c, .int c, .int c, .int c, .int c, .int c, .int c, .int c, .int c, .int c, .int c, .int c, .int c, .int c, .int c, .int c, .int c, .int c, .int c, .int c, .int c, .int c, .int c, .int c, .int c, .int c, .int c, .int c, .int c, .int c, .int 0, .int 0, .int 0] := Aw63
  show C.W h63 [a2] 1 64 (mkF K.m 303 #[.val (.int c)] [.ref a2])
  refine C.dup rfl d22_303 ?_
  refine C.bipush (v := (61 : Int32)) d22_304 (by first | rfl | decide) ?_
  refine C.iloadN d22_306 rfl ?_
  refine C.castore 61 Aw63 (by first | rfl | decide) (Nat.le_of_ble_eq_true rfl) hc.1 hc.2 d22_307 (List.mem_of_getElem? (i := 0) rfl) fun h64 z64 K64 Aw64 => ?_
  have Aw64 : Ary Z h64 a2 .char [.int c, .int c, .int c, .int c, .int c, .int c, .int c, .int c, .int c, .int c, .int c, .int c, .int c, .int c, .int c, .int c, .int c, .int c, .int c, .int c, .int c, .int c, .int c, .int c, .int c, .int c, .int c, .int c, .int c, .int c, .int c, .int c, .int c, .int c, .int c, .int c, .int c, .int c, .int c, .int c, .int c, .int c, .int c, .int c, .int c, .int c, .int c, .int c, .int c, .int c, .int c, .int c, .int c, .int c, .int c, .int c, .int c, .int c, .int c, .int c, .int c, .int c, .int 0, .int 0] := Aw64
  show C.W h64 [a2] 1 64 (mkF K.m 308 #[.val (.int c)] [.ref a2])
  refine C.dup rfl d22_308 ?_
  refine C.bipush (v := (62 : Int32)) d22_309 (by first | rfl | decide) ?_
  refine C.iloadN d22_311 rfl ?_
  refine C.castore 62 Aw64 (by first | rfl | decide) (Nat.le_of_ble_eq_true rfl) hc.1 hc.2 d22_312 (List.mem_of_getElem? (i := 0) rfl) fun h65 z65 K65 Aw65 => ?_
  have Aw65 : Ary Z h65 a2 .char [.int c, .int c, .int c, .int c, .int c, .int c, .int c, .int c, .int c, .int c, .int c, .int c, .int c, .int c, .int c, .int c, .int c, .int c, .int c, .int c, .int c, .int c, .int c, .int c, .int c, .int c, .int c, .int c, .int c, .int c, .int c, .int c, .int c, .int c, .int c, .int c, .int c, .int c, .int c, .int c, .int c, .int c, .int c, .int c, .int c, .int c, .int c, .int c, .int c, .int c, .int c, .int c, .int c, .int c, .int c, .int c, .int c, .int c, .int c, .int c, .int c, .int c, .int c, .int 0] := Aw65
  show C.W h65 [a2] 1 64 (mkF K.m 313 #[.val (.int c)] [.ref a2])
  refine C.dup rfl d22_313 ?_
  refine C.bipush (v := (63 : Int32)) d22_314 (by first | rfl | decide) ?_
  refine C.iloadN d22_316 rfl ?_
  refine C.castore 63 Aw65 (by first | rfl | decide) (Nat.le_of_ble_eq_true rfl) hc.1 hc.2 d22_317 (List.mem_of_getElem? (i := 0) rfl) fun h66 z66 K66 Aw66 => ?_
  have Aw66 : Ary Z h66 a2 .char [.int c, .int c, .int c, .int c, .int c, .int c, .int c, .int c, .int c, .int c, .int c, .int c, .int c, .int c, .int c, .int c, .int c, .int c, .int c, .int c, .int c, .int c, .int c, .int c, .int c, .int c, .int c, .int c, .int c, .int c, .int c, .int c, .int c, .int c, .int c, .int c, .int c, .int c, .int c, .int c, .int c, .int c, .int c, .int c, .int c, .int c, .int c, .int c, .int c, .int c, .int c, .int c, .int c, .int c, .int c, .int c, .int c, .int c, .int c, .int c, .int c, .int c, .int c, .int c] := Aw66
  show C.W h66 [a2] 1 64 (mkF K.m 318 #[.val (.int c)] [.ref a2])
  exact C.areturn rfl rfl rfl d22_318 (by decide) (by decide) ⟨a2, rfl, by omega, by omega, Aw66⟩
set_option maxRecDepth 65536 in
set_option maxHeartbeats 40000000 in
theorem c_of65  (B : Base Z a0) {h : Heap} {c : Int32} (hc : 0 ≤ c.toInt ∧ c.toInt < 65536) : Con l Z a0 EL it n0 (⟨"com/example/halysis/halysis/LogRecordIsHashPinLaw", "of65", "(C)[C"⟩ : MethodName) 1 12 1 65 #[.int c] h [] (fun v h' => ∃ b : Nat, v = some (.ref b) ∧ h.size ≤ b ∧ b < h'.size ∧ Ary Z h' b .char ((List.replicate 65 c).map Value.int)) := by
  refine Met.con (bytes := method_6_code) (maxL := 1) (ret := (some (.array .char))) (rm := ({ frames := 0, cells := 1, slots := 65, locals := 0 } : Room)) (Met.of (own := "com/example/halysis/halysis/LogRecordIsHashPinLaw") (nm := "of65") #[.val (.int c)] (ew B) rfl rfl (plainFor_of_name pn_com_example_halysis_halysis_LogRecordIsHashPinLaw) (fun m => by first | (simp [entryFrame, mkF, argsToLocals, Value.category]; done) | rfl) fun K C => ?_) (B.1 _ (List.mem_of_getElem? (i := 111) rfl)) (B.1 _ (List.mem_of_getElem? (i := 72) rfl)) rfl rfl rfl rfl
  refine C.bipush (v := (65 : Int32)) d23_0 (by first | rfl | decide) ?_
  refine C.newarr 65 65 (B.1 _ (List.mem_of_getElem? (i := 0) rfl)) d23_2 (by first | rfl | decide) (by decide) (by decide) (by decide) (by decide) fun h1 a2 g1 z1 o1 K1 An1 => ?_
  have An1 : Ary Z h1 a2 .char [.int 0, .int 0, .int 0, .int 0, .int 0, .int 0, .int 0, .int 0, .int 0, .int 0, .int 0, .int 0, .int 0, .int 0, .int 0, .int 0, .int 0, .int 0, .int 0, .int 0, .int 0, .int 0, .int 0, .int 0, .int 0, .int 0, .int 0, .int 0, .int 0, .int 0, .int 0, .int 0, .int 0, .int 0, .int 0, .int 0, .int 0, .int 0, .int 0, .int 0, .int 0, .int 0, .int 0, .int 0, .int 0, .int 0, .int 0, .int 0, .int 0, .int 0, .int 0, .int 0, .int 0, .int 0, .int 0, .int 0, .int 0, .int 0, .int 0, .int 0, .int 0, .int 0, .int 0, .int 0, .int 0] := An1
  show C.W h1 [a2] 1 65 (mkF K.m 4 #[.val (.int c)] [.ref a2])
  refine C.dup rfl d23_4 ?_
  refine C.iconst (v := (0 : Int32)) d23_5 (by first | rfl | decide) ?_
  refine C.iloadN d23_6 rfl ?_
  refine C.castore 0 An1 (by first | rfl | decide) (Nat.le_of_ble_eq_true rfl) hc.1 hc.2 d23_7 (List.mem_of_getElem? (i := 0) rfl) fun h3 z3 K3 Aw3 => ?_
  have Aw3 : Ary Z h3 a2 .char [.int c, .int 0, .int 0, .int 0, .int 0, .int 0, .int 0, .int 0, .int 0, .int 0, .int 0, .int 0, .int 0, .int 0, .int 0, .int 0, .int 0, .int 0, .int 0, .int 0, .int 0, .int 0, .int 0, .int 0, .int 0, .int 0, .int 0, .int 0, .int 0, .int 0, .int 0, .int 0, .int 0, .int 0, .int 0, .int 0, .int 0, .int 0, .int 0, .int 0, .int 0, .int 0, .int 0, .int 0, .int 0, .int 0, .int 0, .int 0, .int 0, .int 0, .int 0, .int 0, .int 0, .int 0, .int 0, .int 0, .int 0, .int 0, .int 0, .int 0, .int 0, .int 0, .int 0, .int 0, .int 0] := Aw3
  show C.W h3 [a2] 1 65 (mkF K.m 8 #[.val (.int c)] [.ref a2])
  refine C.dup rfl d23_8 ?_
  refine C.iconst (v := (1 : Int32)) d23_9 (by first | rfl | decide) ?_
  refine C.iloadN d23_10 rfl ?_
  refine C.castore 1 Aw3 (by first | rfl | decide) (Nat.le_of_ble_eq_true rfl) hc.1 hc.2 d23_11 (List.mem_of_getElem? (i := 0) rfl) fun h4 z4 K4 Aw4 => ?_
  have Aw4 : Ary Z h4 a2 .char [.int c, .int c, .int 0, .int 0, .int 0, .int 0, .int 0, .int 0, .int 0, .int 0, .int 0, .int 0, .int 0, .int 0, .int 0, .int 0, .int 0, .int 0, .int 0, .int 0, .int 0, .int 0, .int 0, .int 0, .int 0, .int 0, .int 0, .int 0, .int 0, .int 0, .int 0, .int 0, .int 0, .int 0, .int 0, .int 0, .int 0, .int 0, .int 0, .int 0, .int 0, .int 0, .int 0, .int 0, .int 0, .int 0, .int 0, .int 0, .int 0, .int 0, .int 0, .int 0, .int 0, .int 0, .int 0, .int 0, .int 0, .int 0, .int 0, .int 0, .int 0, .int 0, .int 0, .int 0, .int 0] := Aw4
  show C.W h4 [a2] 1 65 (mkF K.m 12 #[.val (.int c)] [.ref a2])
  refine C.dup rfl d23_12 ?_
  refine C.iconst (v := (2 : Int32)) d23_13 (by first | rfl | decide) ?_
  refine C.iloadN d23_14 rfl ?_
  refine C.castore 2 Aw4 (by first | rfl | decide) (Nat.le_of_ble_eq_true rfl) hc.1 hc.2 d23_15 (List.mem_of_getElem? (i := 0) rfl) fun h5 z5 K5 Aw5 => ?_
  have Aw5 : Ary Z h5 a2 .char [.int c, .int c, .int c, .int 0, .int 0, .int 0, .int 0, .int 0, .int 0, .int 0, .int 0, .int 0, .int 0, .int 0, .int 0, .int 0, .int 0, .int 0, .int 0, .int 0, .int 0, .int 0, .int 0, .int 0, .int 0, .int 0, .int 0, .int 0, .int 0, .int 0, .int 0, .int 0, .int 0, .int 0, .int 0, .int 0, .int 0, .int 0, .int 0, .int 0, .int 0, .int 0, .int 0, .int 0, .int 0, .int 0, .int 0, .int 0, .int 0, .int 0, .int 0, .int 0, .int 0, .int 0, .int 0, .int 0, .int 0, .int 0, .int 0, .int 0, .int 0, .int 0, .int 0, .int 0, .int 0] := Aw5
  show C.W h5 [a2] 1 65 (mkF K.m 16 #[.val (.int c)] [.ref a2])
  refine C.dup rfl d23_16 ?_
  refine C.iconst (v := (3 : Int32)) d23_17 (by first | rfl | decide) ?_
  refine C.iloadN d23_18 rfl ?_
  refine C.castore 3 Aw5 (by first | rfl | decide) (Nat.le_of_ble_eq_true rfl) hc.1 hc.2 d23_19 (List.mem_of_getElem? (i := 0) rfl) fun h6 z6 K6 Aw6 => ?_
  have Aw6 : Ary Z h6 a2 .char [.int c, .int c, .int c, .int c, .int 0, .int 0, .int 0, .int 0, .int 0, .int 0, .int 0, .int 0, .int 0, .int 0, .int 0, .int 0, .int 0, .int 0, .int 0, .int 0, .int 0, .int 0, .int 0, .int 0, .int 0, .int 0, .int 0, .int 0, .int 0, .int 0, .int 0, .int 0, .int 0, .int 0, .int 0, .int 0, .int 0, .int 0, .int 0, .int 0, .int 0, .int 0, .int 0, .int 0, .int 0, .int 0, .int 0, .int 0, .int 0, .int 0, .int 0, .int 0, .int 0, .int 0, .int 0, .int 0, .int 0, .int 0, .int 0, .int 0, .int 0, .int 0, .int 0, .int 0, .int 0] := Aw6
  show C.W h6 [a2] 1 65 (mkF K.m 20 #[.val (.int c)] [.ref a2])
  refine C.dup rfl d23_20 ?_
  refine C.iconst (v := (4 : Int32)) d23_21 (by first | rfl | decide) ?_
  refine C.iloadN d23_22 rfl ?_
  refine C.castore 4 Aw6 (by first | rfl | decide) (Nat.le_of_ble_eq_true rfl) hc.1 hc.2 d23_23 (List.mem_of_getElem? (i := 0) rfl) fun h7 z7 K7 Aw7 => ?_
  have Aw7 : Ary Z h7 a2 .char [.int c, .int c, .int c, .int c, .int c, .int 0, .int 0, .int 0, .int 0, .int 0, .int 0, .int 0, .int 0, .int 0, .int 0, .int 0, .int 0, .int 0, .int 0, .int 0, .int 0, .int 0, .int 0, .int 0, .int 0, .int 0, .int 0, .int 0, .int 0, .int 0, .int 0, .int 0, .int 0, .int 0, .int 0, .int 0, .int 0, .int 0, .int 0, .int 0, .int 0, .int 0, .int 0, .int 0, .int 0, .int 0, .int 0, .int 0, .int 0, .int 0, .int 0, .int 0, .int 0, .int 0, .int 0, .int 0, .int 0, .int 0, .int 0, .int 0, .int 0, .int 0, .int 0, .int 0, .int 0] := Aw7
  show C.W h7 [a2] 1 65 (mkF K.m 24 #[.val (.int c)] [.ref a2])
  refine C.dup rfl d23_24 ?_
  refine C.iconst (v := (5 : Int32)) d23_25 (by first | rfl | decide) ?_
  refine C.iloadN d23_26 rfl ?_
  refine C.castore 5 Aw7 (by first | rfl | decide) (Nat.le_of_ble_eq_true rfl) hc.1 hc.2 d23_27 (List.mem_of_getElem? (i := 0) rfl) fun h8 z8 K8 Aw8 => ?_
  have Aw8 : Ary Z h8 a2 .char [.int c, .int c, .int c, .int c, .int c, .int c, .int 0, .int 0, .int 0, .int 0, .int 0, .int 0, .int 0, .int 0, .int 0, .int 0, .int 0, .int 0, .int 0, .int 0, .int 0, .int 0, .int 0, .int 0, .int 0, .int 0, .int 0, .int 0, .int 0, .int 0, .int 0, .int 0, .int 0, .int 0, .int 0, .int 0, .int 0, .int 0, .int 0, .int 0, .int 0, .int 0, .int 0, .int 0, .int 0, .int 0, .int 0, .int 0, .int 0, .int 0, .int 0, .int 0, .int 0, .int 0, .int 0, .int 0, .int 0, .int 0, .int 0, .int 0, .int 0, .int 0, .int 0, .int 0, .int 0] := Aw8
  show C.W h8 [a2] 1 65 (mkF K.m 28 #[.val (.int c)] [.ref a2])
  refine C.dup rfl d23_28 ?_
  refine C.bipush (v := (6 : Int32)) d23_29 (by first | rfl | decide) ?_
  refine C.iloadN d23_31 rfl ?_
  refine C.castore 6 Aw8 (by first | rfl | decide) (Nat.le_of_ble_eq_true rfl) hc.1 hc.2 d23_32 (List.mem_of_getElem? (i := 0) rfl) fun h9 z9 K9 Aw9 => ?_
  have Aw9 : Ary Z h9 a2 .char [.int c, .int c, .int c, .int c, .int c, .int c, .int c, .int 0, .int 0, .int 0, .int 0, .int 0, .int 0, .int 0, .int 0, .int 0, .int 0, .int 0, .int 0, .int 0, .int 0, .int 0, .int 0, .int 0, .int 0, .int 0, .int 0, .int 0, .int 0, .int 0, .int 0, .int 0, .int 0, .int 0, .int 0, .int 0, .int 0, .int 0, .int 0, .int 0, .int 0, .int 0, .int 0, .int 0, .int 0, .int 0, .int 0, .int 0, .int 0, .int 0, .int 0, .int 0, .int 0, .int 0, .int 0, .int 0, .int 0, .int 0, .int 0, .int 0, .int 0, .int 0, .int 0, .int 0, .int 0] := Aw9
  show C.W h9 [a2] 1 65 (mkF K.m 33 #[.val (.int c)] [.ref a2])
  refine C.dup rfl d23_33 ?_
  refine C.bipush (v := (7 : Int32)) d23_34 (by first | rfl | decide) ?_
  refine C.iloadN d23_36 rfl ?_
  refine C.castore 7 Aw9 (by first | rfl | decide) (Nat.le_of_ble_eq_true rfl) hc.1 hc.2 d23_37 (List.mem_of_getElem? (i := 0) rfl) fun h10 z10 K10 Aw10 => ?_
  have Aw10 : Ary Z h10 a2 .char [.int c, .int c, .int c, .int c, .int c, .int c, .int c, .int c, .int 0, .int 0, .int 0, .int 0, .int 0, .int 0, .int 0, .int 0, .int 0, .int 0, .int 0, .int 0, .int 0, .int 0, .int 0, .int 0, .int 0, .int 0, .int 0, .int 0, .int 0, .int 0, .int 0, .int 0, .int 0, .int 0, .int 0, .int 0, .int 0, .int 0, .int 0, .int 0, .int 0, .int 0, .int 0, .int 0, .int 0, .int 0, .int 0, .int 0, .int 0, .int 0, .int 0, .int 0, .int 0, .int 0, .int 0, .int 0, .int 0, .int 0, .int 0, .int 0, .int 0, .int 0, .int 0, .int 0, .int 0] := Aw10
  show C.W h10 [a2] 1 65 (mkF K.m 38 #[.val (.int c)] [.ref a2])
  refine C.dup rfl d23_38 ?_
  refine C.bipush (v := (8 : Int32)) d23_39 (by first | rfl | decide) ?_
  refine C.iloadN d23_41 rfl ?_
  refine C.castore 8 Aw10 (by first | rfl | decide) (Nat.le_of_ble_eq_true rfl) hc.1 hc.2 d23_42 (List.mem_of_getElem? (i := 0) rfl) fun h11 z11 K11 Aw11 => ?_
  have Aw11 : Ary Z h11 a2 .char [.int c, .int c, .int c, .int c, .int c, .int c, .int c, .int c, .int c, .int 0, .int 0, .int 0, .int 0, .int 0, .int 0, .int 0, .int 0, .int 0, .int 0, .int 0, .int 0, .int 0, .int 0, .int 0, .int 0, .int 0, .int 0, .int 0, .int 0, .int 0, .int 0, .int 0, .int 0, .int 0, .int 0, .int 0, .int 0, .int 0, .int 0, .int 0, .int 0, .int 0, .int 0, .int 0, .int 0, .int 0, .int 0, .int 0, .int 0, .int 0, .int 0, .int 0, .int 0, .int 0, .int 0, .int 0, .int 0, .int 0, .int 0, .int 0, .int 0, .int 0, .int 0, .int 0, .int 0] := Aw11
  show C.W h11 [a2] 1 65 (mkF K.m 43 #[.val (.int c)] [.ref a2])
  refine C.dup rfl d23_43 ?_
  refine C.bipush (v := (9 : Int32)) d23_44 (by first | rfl | decide) ?_
  refine C.iloadN d23_46 rfl ?_
  refine C.castore 9 Aw11 (by first | rfl | decide) (Nat.le_of_ble_eq_true rfl) hc.1 hc.2 d23_47 (List.mem_of_getElem? (i := 0) rfl) fun h12 z12 K12 Aw12 => ?_
  have Aw12 : Ary Z h12 a2 .char [.int c, .int c, .int c, .int c, .int c, .int c, .int c, .int c, .int c, .int c, .int 0, .int 0, .int 0, .int 0, .int 0, .int 0, .int 0, .int 0, .int 0, .int 0, .int 0, .int 0, .int 0, .int 0, .int 0, .int 0, .int 0, .int 0, .int 0, .int 0, .int 0, .int 0, .int 0, .int 0, .int 0, .int 0, .int 0, .int 0, .int 0, .int 0, .int 0, .int 0, .int 0, .int 0, .int 0, .int 0, .int 0, .int 0, .int 0, .int 0, .int 0, .int 0, .int 0, .int 0, .int 0, .int 0, .int 0, .int 0, .int 0, .int 0, .int 0, .int 0, .int 0, .int 0, .int 0] := Aw12
  show C.W h12 [a2] 1 65 (mkF K.m 48 #[.val (.int c)] [.ref a2])
  refine C.dup rfl d23_48 ?_
  refine C.bipush (v := (10 : Int32)) d23_49 (by first | rfl | decide) ?_
  refine C.iloadN d23_51 rfl ?_
  refine C.castore 10 Aw12 (by first | rfl | decide) (Nat.le_of_ble_eq_true rfl) hc.1 hc.2 d23_52 (List.mem_of_getElem? (i := 0) rfl) fun h13 z13 K13 Aw13 => ?_
  have Aw13 : Ary Z h13 a2 .char [.int c, .int c, .int c, .int c, .int c, .int c, .int c, .int c, .int c, .int c, .int c, .int 0, .int 0, .int 0, .int 0, .int 0, .int 0, .int 0, .int 0, .int 0, .int 0, .int 0, .int 0, .int 0, .int 0, .int 0, .int 0, .int 0, .int 0, .int 0, .int 0, .int 0, .int 0, .int 0, .int 0, .int 0, .int 0, .int 0, .int 0, .int 0, .int 0, .int 0, .int 0, .int 0, .int 0, .int 0, .int 0, .int 0, .int 0, .int 0, .int 0, .int 0, .int 0, .int 0, .int 0, .int 0, .int 0, .int 0, .int 0, .int 0, .int 0, .int 0, .int 0, .int 0, .int 0] := Aw13
  show C.W h13 [a2] 1 65 (mkF K.m 53 #[.val (.int c)] [.ref a2])
  refine C.dup rfl d23_53 ?_
  refine C.bipush (v := (11 : Int32)) d23_54 (by first | rfl | decide) ?_
  refine C.iloadN d23_56 rfl ?_
  refine C.castore 11 Aw13 (by first | rfl | decide) (Nat.le_of_ble_eq_true rfl) hc.1 hc.2 d23_57 (List.mem_of_getElem? (i := 0) rfl) fun h14 z14 K14 Aw14 => ?_
  have Aw14 : Ary Z h14 a2 .char [.int c, .int c, .int c, .int c, .int c, .int c, .int c, .int c, .int c, .int c, .int c, .int c, .int 0, .int 0, .int 0, .int 0, .int 0, .int 0, .int 0, .int 0, .int 0, .int 0, .int 0, .int 0, .int 0, .int 0, .int 0, .int 0, .int 0, .int 0, .int 0, .int 0, .int 0, .int 0, .int 0, .int 0, .int 0, .int 0, .int 0, .int 0, .int 0, .int 0, .int 0, .int 0, .int 0, .int 0, .int 0, .int 0, .int 0, .int 0, .int 0, .int 0, .int 0, .int 0, .int 0, .int 0, .int 0, .int 0, .int 0, .int 0, .int 0, .int 0, .int 0, .int 0, .int 0] := Aw14
  show C.W h14 [a2] 1 65 (mkF K.m 58 #[.val (.int c)] [.ref a2])
  refine C.dup rfl d23_58 ?_
  refine C.bipush (v := (12 : Int32)) d23_59 (by first | rfl | decide) ?_
  refine C.iloadN d23_61 rfl ?_
  refine C.castore 12 Aw14 (by first | rfl | decide) (Nat.le_of_ble_eq_true rfl) hc.1 hc.2 d23_62 (List.mem_of_getElem? (i := 0) rfl) fun h15 z15 K15 Aw15 => ?_
  have Aw15 : Ary Z h15 a2 .char [.int c, .int c, .int c, .int c, .int c, .int c, .int c, .int c, .int c, .int c, .int c, .int c, .int c, .int 0, .int 0, .int 0, .int 0, .int 0, .int 0, .int 0, .int 0, .int 0, .int 0, .int 0, .int 0, .int 0, .int 0, .int 0, .int 0, .int 0, .int 0, .int 0, .int 0, .int 0, .int 0, .int 0, .int 0, .int 0, .int 0, .int 0, .int 0, .int 0, .int 0, .int 0, .int 0, .int 0, .int 0, .int 0, .int 0, .int 0, .int 0, .int 0, .int 0, .int 0, .int 0, .int 0, .int 0, .int 0, .int 0, .int 0, .int 0, .int 0, .int 0, .int 0, .int 0] := Aw15
  show C.W h15 [a2] 1 65 (mkF K.m 63 #[.val (.int c)] [.ref a2])
  refine C.dup rfl d23_63 ?_
  refine C.bipush (v := (13 : Int32)) d23_64 (by first | rfl | decide) ?_
  refine C.iloadN d23_66 rfl ?_
  refine C.castore 13 Aw15 (by first | rfl | decide) (Nat.le_of_ble_eq_true rfl) hc.1 hc.2 d23_67 (List.mem_of_getElem? (i := 0) rfl) fun h16 z16 K16 Aw16 => ?_
  have Aw16 : Ary Z h16 a2 .char [.int c, .int c, .int c, .int c, .int c, .int c, .int c, .int c, .int c, .int c, .int c, .int c, .int c, .int c, .int 0, .int 0, .int 0, .int 0, .int 0, .int 0, .int 0, .int 0, .int 0, .int 0, .int 0, .int 0, .int 0, .int 0, .int 0, .int 0, .int 0, .int 0, .int 0, .int 0, .int 0, .int 0, .int 0, .int 0, .int 0, .int 0, .int 0, .int 0, .int 0, .int 0, .int 0, .int 0, .int 0, .int 0, .int 0, .int 0, .int 0, .int 0, .int 0, .int 0, .int 0, .int 0, .int 0, .int 0, .int 0, .int 0, .int 0, .int 0, .int 0, .int 0, .int 0] := Aw16
  show C.W h16 [a2] 1 65 (mkF K.m 68 #[.val (.int c)] [.ref a2])
  refine C.dup rfl d23_68 ?_
  refine C.bipush (v := (14 : Int32)) d23_69 (by first | rfl | decide) ?_
  refine C.iloadN d23_71 rfl ?_
  refine C.castore 14 Aw16 (by first | rfl | decide) (Nat.le_of_ble_eq_true rfl) hc.1 hc.2 d23_72 (List.mem_of_getElem? (i := 0) rfl) fun h17 z17 K17 Aw17 => ?_
  have Aw17 : Ary Z h17 a2 .char [.int c, .int c, .int c, .int c, .int c, .int c, .int c, .int c, .int c, .int c, .int c, .int c, .int c, .int c, .int c, .int 0, .int 0, .int 0, .int 0, .int 0, .int 0, .int 0, .int 0, .int 0, .int 0, .int 0, .int 0, .int 0, .int 0, .int 0, .int 0, .int 0, .int 0, .int 0, .int 0, .int 0, .int 0, .int 0, .int 0, .int 0, .int 0, .int 0, .int 0, .int 0, .int 0, .int 0, .int 0, .int 0, .int 0, .int 0, .int 0, .int 0, .int 0, .int 0, .int 0, .int 0, .int 0, .int 0, .int 0, .int 0, .int 0, .int 0, .int 0, .int 0, .int 0] := Aw17
  show C.W h17 [a2] 1 65 (mkF K.m 73 #[.val (.int c)] [.ref a2])
  refine C.dup rfl d23_73 ?_
  refine C.bipush (v := (15 : Int32)) d23_74 (by first | rfl | decide) ?_
  refine C.iloadN d23_76 rfl ?_
  refine C.castore 15 Aw17 (by first | rfl | decide) (Nat.le_of_ble_eq_true rfl) hc.1 hc.2 d23_77 (List.mem_of_getElem? (i := 0) rfl) fun h18 z18 K18 Aw18 => ?_
  have Aw18 : Ary Z h18 a2 .char [.int c, .int c, .int c, .int c, .int c, .int c, .int c, .int c, .int c, .int c, .int c, .int c, .int c, .int c, .int c, .int c, .int 0, .int 0, .int 0, .int 0, .int 0, .int 0, .int 0, .int 0, .int 0, .int 0, .int 0, .int 0, .int 0, .int 0, .int 0, .int 0, .int 0, .int 0, .int 0, .int 0, .int 0, .int 0, .int 0, .int 0, .int 0, .int 0, .int 0, .int 0, .int 0, .int 0, .int 0, .int 0, .int 0, .int 0, .int 0, .int 0, .int 0, .int 0, .int 0, .int 0, .int 0, .int 0, .int 0, .int 0, .int 0, .int 0, .int 0, .int 0, .int 0] := Aw18
  show C.W h18 [a2] 1 65 (mkF K.m 78 #[.val (.int c)] [.ref a2])
  refine C.dup rfl d23_78 ?_
  refine C.bipush (v := (16 : Int32)) d23_79 (by first | rfl | decide) ?_
  refine C.iloadN d23_81 rfl ?_
  refine C.castore 16 Aw18 (by first | rfl | decide) (Nat.le_of_ble_eq_true rfl) hc.1 hc.2 d23_82 (List.mem_of_getElem? (i := 0) rfl) fun h19 z19 K19 Aw19 => ?_
  have Aw19 : Ary Z h19 a2 .char [.int c, .int c, .int c, .int c, .int c, .int c, .int c, .int c, .int c, .int c, .int c, .int c, .int c, .int c, .int c, .int c, .int c, .int 0, .int 0, .int 0, .int 0, .int 0, .int 0, .int 0, .int 0, .int 0, .int 0, .int 0, .int 0, .int 0, .int 0, .int 0, .int 0, .int 0, .int 0, .int 0, .int 0, .int 0, .int 0, .int 0, .int 0, .int 0, .int 0, .int 0, .int 0, .int 0, .int 0, .int 0, .int 0, .int 0, .int 0, .int 0, .int 0, .int 0, .int 0, .int 0, .int 0, .int 0, .int 0, .int 0, .int 0, .int 0, .int 0, .int 0, .int 0] := Aw19
  show C.W h19 [a2] 1 65 (mkF K.m 83 #[.val (.int c)] [.ref a2])
  refine C.dup rfl d23_83 ?_
  refine C.bipush (v := (17 : Int32)) d23_84 (by first | rfl | decide) ?_
  refine C.iloadN d23_86 rfl ?_
  refine C.castore 17 Aw19 (by first | rfl | decide) (Nat.le_of_ble_eq_true rfl) hc.1 hc.2 d23_87 (List.mem_of_getElem? (i := 0) rfl) fun h20 z20 K20 Aw20 => ?_
  have Aw20 : Ary Z h20 a2 .char [.int c, .int c, .int c, .int c, .int c, .int c, .int c, .int c, .int c, .int c, .int c, .int c, .int c, .int c, .int c, .int c, .int c, .int c, .int 0, .int 0, .int 0, .int 0, .int 0, .int 0, .int 0, .int 0, .int 0, .int 0, .int 0, .int 0, .int 0, .int 0, .int 0, .int 0, .int 0, .int 0, .int 0, .int 0, .int 0, .int 0, .int 0, .int 0, .int 0, .int 0, .int 0, .int 0, .int 0, .int 0, .int 0, .int 0, .int 0, .int 0, .int 0, .int 0, .int 0, .int 0, .int 0, .int 0, .int 0, .int 0, .int 0, .int 0, .int 0, .int 0, .int 0] := Aw20
  show C.W h20 [a2] 1 65 (mkF K.m 88 #[.val (.int c)] [.ref a2])
  refine C.dup rfl d23_88 ?_
  refine C.bipush (v := (18 : Int32)) d23_89 (by first | rfl | decide) ?_
  refine C.iloadN d23_91 rfl ?_
  refine C.castore 18 Aw20 (by first | rfl | decide) (Nat.le_of_ble_eq_true rfl) hc.1 hc.2 d23_92 (List.mem_of_getElem? (i := 0) rfl) fun h21 z21 K21 Aw21 => ?_
  have Aw21 : Ary Z h21 a2 .char [.int c, .int c, .int c, .int c, .int c, .int c, .int c, .int c, .int c, .int c, .int c, .int c, .int c, .int c, .int c, .int c, .int c, .int c, .int c, .int 0, .int 0, .int 0, .int 0, .int 0, .int 0, .int 0, .int 0, .int 0, .int 0, .int 0, .int 0, .int 0, .int 0, .int 0, .int 0, .int 0, .int 0, .int 0, .int 0, .int 0, .int 0, .int 0, .int 0, .int 0, .int 0, .int 0, .int 0, .int 0, .int 0, .int 0, .int 0, .int 0, .int 0, .int 0, .int 0, .int 0, .int 0, .int 0, .int 0, .int 0, .int 0, .int 0, .int 0, .int 0, .int 0] := Aw21
  show C.W h21 [a2] 1 65 (mkF K.m 93 #[.val (.int c)] [.ref a2])
  refine C.dup rfl d23_93 ?_
  refine C.bipush (v := (19 : Int32)) d23_94 (by first | rfl | decide) ?_
  refine C.iloadN d23_96 rfl ?_
  refine C.castore 19 Aw21 (by first | rfl | decide) (Nat.le_of_ble_eq_true rfl) hc.1 hc.2 d23_97 (List.mem_of_getElem? (i := 0) rfl) fun h22 z22 K22 Aw22 => ?_
  have Aw22 : Ary Z h22 a2 .char [.int c, .int c, .int c, .int c, .int c, .int c, .int c, .int c, .int c, .int c, .int c, .int c, .int c, .int c, .int c, .int c, .int c, .int c, .int c, .int c, .int 0, .int 0, .int 0, .int 0, .int 0, .int 0, .int 0, .int 0, .int 0, .int 0, .int 0, .int 0, .int 0, .int 0, .int 0, .int 0, .int 0, .int 0, .int 0, .int 0, .int 0, .int 0, .int 0, .int 0, .int 0, .int 0, .int 0, .int 0, .int 0, .int 0, .int 0, .int 0, .int 0, .int 0, .int 0, .int 0, .int 0, .int 0, .int 0, .int 0, .int 0, .int 0, .int 0, .int 0, .int 0] := Aw22
  show C.W h22 [a2] 1 65 (mkF K.m 98 #[.val (.int c)] [.ref a2])
  refine C.dup rfl d23_98 ?_
  refine C.bipush (v := (20 : Int32)) d23_99 (by first | rfl | decide) ?_
  refine C.iloadN d23_101 rfl ?_
  refine C.castore 20 Aw22 (by first | rfl | decide) (Nat.le_of_ble_eq_true rfl) hc.1 hc.2 d23_102 (List.mem_of_getElem? (i := 0) rfl) fun h23 z23 K23 Aw23 => ?_
  have Aw23 : Ary Z h23 a2 .char [.int c, .int c, .int c, .int c, .int c, .int c, .int c, .int c, .int c, .int c, .int c, .int c, .int c, .int c, .int c, .int c, .int c, .int c, .int c, .int c, .int c, .int 0, .int 0, .int 0, .int 0, .int 0, .int 0, .int 0, .int 0, .int 0, .int 0, .int 0, .int 0, .int 0, .int 0, .int 0, .int 0, .int 0, .int 0, .int 0, .int 0, .int 0, .int 0, .int 0, .int 0, .int 0, .int 0, .int 0, .int 0, .int 0, .int 0, .int 0, .int 0, .int 0, .int 0, .int 0, .int 0, .int 0, .int 0, .int 0, .int 0, .int 0, .int 0, .int 0, .int 0] := Aw23
  show C.W h23 [a2] 1 65 (mkF K.m 103 #[.val (.int c)] [.ref a2])
  refine C.dup rfl d23_103 ?_
  refine C.bipush (v := (21 : Int32)) d23_104 (by first | rfl | decide) ?_
  refine C.iloadN d23_106 rfl ?_
  refine C.castore 21 Aw23 (by first | rfl | decide) (Nat.le_of_ble_eq_true rfl) hc.1 hc.2 d23_107 (List.mem_of_getElem? (i := 0) rfl) fun h24 z24 K24 Aw24 => ?_
  have Aw24 : Ary Z h24 a2 .char [.int c, .int c, .int c, .int c, .int c, .int c, .int c, .int c, .int c, .int c, .int c, .int c, .int c, .int c, .int c, .int c, .int c, .int c, .int c, .int c, .int c, .int c, .int 0, .int 0, .int 0, .int 0, .int 0, .int 0, .int 0, .int 0, .int 0, .int 0, .int 0, .int 0, .int 0, .int 0, .int 0, .int 0, .int 0, .int 0, .int 0, .int 0, .int 0, .int 0, .int 0, .int 0, .int 0, .int 0, .int 0, .int 0, .int 0, .int 0, .int 0, .int 0, .int 0, .int 0, .int 0, .int 0, .int 0, .int 0, .int 0, .int 0, .int 0, .int 0, .int 0] := Aw24
  show C.W h24 [a2] 1 65 (mkF K.m 108 #[.val (.int c)] [.ref a2])
  refine C.dup rfl d23_108 ?_
  refine C.bipush (v := (22 : Int32)) d23_109 (by first | rfl | decide) ?_
  refine C.iloadN d23_111 rfl ?_
  refine C.castore 22 Aw24 (by first | rfl | decide) (Nat.le_of_ble_eq_true rfl) hc.1 hc.2 d23_112 (List.mem_of_getElem? (i := 0) rfl) fun h25 z25 K25 Aw25 => ?_
  have Aw25 : Ary Z h25 a2 .char [.int c, .int c, .int c, .int c, .int c, .int c, .int c, .int c, .int c, .int c, .int c, .int c, .int c, .int c, .int c, .int c, .int c, .int c, .int c, .int c, .int c, .int c, .int c, .int 0, .int 0, .int 0, .int 0, .int 0, .int 0, .int 0, .int 0, .int 0, .int 0, .int 0, .int 0, .int 0, .int 0, .int 0, .int 0, .int 0, .int 0, .int 0, .int 0, .int 0, .int 0, .int 0, .int 0, .int 0, .int 0, .int 0, .int 0, .int 0, .int 0, .int 0, .int 0, .int 0, .int 0, .int 0, .int 0, .int 0, .int 0, .int 0, .int 0, .int 0, .int 0] := Aw25
  show C.W h25 [a2] 1 65 (mkF K.m 113 #[.val (.int c)] [.ref a2])
  refine C.dup rfl d23_113 ?_
  refine C.bipush (v := (23 : Int32)) d23_114 (by first | rfl | decide) ?_
  refine C.iloadN d23_116 rfl ?_
  refine C.castore 23 Aw25 (by first | rfl | decide) (Nat.le_of_ble_eq_true rfl) hc.1 hc.2 d23_117 (List.mem_of_getElem? (i := 0) rfl) fun h26 z26 K26 Aw26 => ?_
  have Aw26 : Ary Z h26 a2 .char [.int c, .int c, .int c, .int c, .int c, .int c, .int c, .int c, .int c, .int c, .int c, .int c, .int c, .int c, .int c, .int c, .int c, .int c, .int c, .int c, .int c, .int c, .int c, .int c, .int 0, .int 0, .int 0, .int 0, .int 0, .int 0, .int 0, .int 0, .int 0, .int 0, .int 0, .int 0, .int 0, .int 0, .int 0, .int 0, .int 0, .int 0, .int 0, .int 0, .int 0, .int 0, .int 0, .int 0, .int 0, .int 0, .int 0, .int 0, .int 0, .int 0, .int 0, .int 0, .int 0, .int 0, .int 0, .int 0, .int 0, .int 0, .int 0, .int 0, .int 0] := Aw26
  show C.W h26 [a2] 1 65 (mkF K.m 118 #[.val (.int c)] [.ref a2])
  refine C.dup rfl d23_118 ?_
  refine C.bipush (v := (24 : Int32)) d23_119 (by first | rfl | decide) ?_
  refine C.iloadN d23_121 rfl ?_
  refine C.castore 24 Aw26 (by first | rfl | decide) (Nat.le_of_ble_eq_true rfl) hc.1 hc.2 d23_122 (List.mem_of_getElem? (i := 0) rfl) fun h27 z27 K27 Aw27 => ?_
  have Aw27 : Ary Z h27 a2 .char [.int c, .int c, .int c, .int c, .int c, .int c, .int c, .int c, .int c, .int c, .int c, .int c, .int c, .int c, .int c, .int c, .int c, .int c, .int c, .int c, .int c, .int c, .int c, .int c, .int c, .int 0, .int 0, .int 0, .int 0, .int 0, .int 0, .int 0, .int 0, .int 0, .int 0, .int 0, .int 0, .int 0, .int 0, .int 0, .int 0, .int 0, .int 0, .int 0, .int 0, .int 0, .int 0, .int 0, .int 0, .int 0, .int 0, .int 0, .int 0, .int 0, .int 0, .int 0, .int 0, .int 0, .int 0, .int 0, .int 0, .int 0, .int 0, .int 0, .int 0] := Aw27
  show C.W h27 [a2] 1 65 (mkF K.m 123 #[.val (.int c)] [.ref a2])
  refine C.dup rfl d23_123 ?_
  refine C.bipush (v := (25 : Int32)) d23_124 (by first | rfl | decide) ?_
  refine C.iloadN d23_126 rfl ?_
  refine C.castore 25 Aw27 (by first | rfl | decide) (Nat.le_of_ble_eq_true rfl) hc.1 hc.2 d23_127 (List.mem_of_getElem? (i := 0) rfl) fun h28 z28 K28 Aw28 => ?_
  have Aw28 : Ary Z h28 a2 .char [.int c, .int c, .int c, .int c, .int c, .int c, .int c, .int c, .int c, .int c, .int c, .int c, .int c, .int c, .int c, .int c, .int c, .int c, .int c, .int c, .int c, .int c, .int c, .int c, .int c, .int c, .int 0, .int 0, .int 0, .int 0, .int 0, .int 0, .int 0, .int 0, .int 0, .int 0, .int 0, .int 0, .int 0, .int 0, .int 0, .int 0, .int 0, .int 0, .int 0, .int 0, .int 0, .int 0, .int 0, .int 0, .int 0, .int 0, .int 0, .int 0, .int 0, .int 0, .int 0, .int 0, .int 0, .int 0, .int 0, .int 0, .int 0, .int 0, .int 0] := Aw28
  show C.W h28 [a2] 1 65 (mkF K.m 128 #[.val (.int c)] [.ref a2])
  refine C.dup rfl d23_128 ?_
  refine C.bipush (v := (26 : Int32)) d23_129 (by first | rfl | decide) ?_
  refine C.iloadN d23_131 rfl ?_
  refine C.castore 26 Aw28 (by first | rfl | decide) (Nat.le_of_ble_eq_true rfl) hc.1 hc.2 d23_132 (List.mem_of_getElem? (i := 0) rfl) fun h29 z29 K29 Aw29 => ?_
  have Aw29 : Ary Z h29 a2 .char [.int c, .int c, .int c, .int c, .int c, .int c, .int c, .int c, .int c, .int c, .int c, .int c, .int c, .int c, .int c, .int c, .int c, .int c, .int c, .int c, .int c, .int c, .int c, .int c, .int c, .int c, .int c, .int 0, .int 0, .int 0, .int 0, .int 0, .int 0, .int 0, .int 0, .int 0, .int 0, .int 0, .int 0, .int 0, .int 0, .int 0, .int 0, .int 0, .int 0, .int 0, .int 0, .int 0, .int 0, .int 0, .int 0, .int 0, .int 0, .int 0, .int 0, .int 0, .int 0, .int 0, .int 0, .int 0, .int 0, .int 0, .int 0, .int 0, .int 0] := Aw29
  show C.W h29 [a2] 1 65 (mkF K.m 133 #[.val (.int c)] [.ref a2])
  refine C.dup rfl d23_133 ?_
  refine C.bipush (v := (27 : Int32)) d23_134 (by first | rfl | decide) ?_
  refine C.iloadN d23_136 rfl ?_
  refine C.castore 27 Aw29 (by first | rfl | decide) (Nat.le_of_ble_eq_true rfl) hc.1 hc.2 d23_137 (List.mem_of_getElem? (i := 0) rfl) fun h30 z30 K30 Aw30 => ?_
  have Aw30 : Ary Z h30 a2 .char [.int c, .int c, .int c, .int c, .int c, .int c, .int c, .int c, .int c, .int c, .int c, .int c, .int c, .int c, .int c, .int c, .int c, .int c, .int c, .int c, .int c, .int c, .int c, .int c, .int c, .int c, .int c, .int c, .int 0, .int 0, .int 0, .int 0, .int 0, .int 0, .int 0, .int 0, .int 0, .int 0, .int 0, .int 0, .int 0, .int 0, .int 0, .int 0, .int 0, .int 0, .int 0, .int 0, .int 0, .int 0, .int 0, .int 0, .int 0, .int 0, .int 0, .int 0, .int 0, .int 0, .int 0, .int 0, .int 0, .int 0, .int 0, .int 0, .int 0] := Aw30
  show C.W h30 [a2] 1 65 (mkF K.m 138 #[.val (.int c)] [.ref a2])
  refine C.dup rfl d23_138 ?_
  refine C.bipush (v := (28 : Int32)) d23_139 (by first | rfl | decide) ?_
  refine C.iloadN d23_141 rfl ?_
  refine C.castore 28 Aw30 (by first | rfl | decide) (Nat.le_of_ble_eq_true rfl) hc.1 hc.2 d23_142 (List.mem_of_getElem? (i := 0) rfl) fun h31 z31 K31 Aw31 => ?_
  have Aw31 : Ary Z h31 a2 .char [.int c, .int c, .int c, .int c, .int c, .int c, .int c, .int c, .int c, .int c, .int c, .int c, .int c, .int c, .int c, .int c, .int c, .int c, .int c, .int c, .int c, .int c, .int c, .int c, .int c, .int c, .int c, .int c, .int c, .int 0, .int 0, .int 0, .int 0, .int 0, .int 0, .int 0, .int 0, .int 0, .int 0, .int 0, .int 0, .int 0, .int 0, .int 0, .int 0, .int 0, .int 0, .int 0, .int 0, .int 0, .int 0, .int 0, .int 0, .int 0, .int 0, .int 0, .int 0, .int 0, .int 0, .int 0, .int 0, .int 0, .int 0, .int 0, .int 0] := Aw31
  show C.W h31 [a2] 1 65 (mkF K.m 143 #[.val (.int c)] [.ref a2])
  refine C.dup rfl d23_143 ?_
  refine C.bipush (v := (29 : Int32)) d23_144 (by first | rfl | decide) ?_
  refine C.iloadN d23_146 rfl ?_
  refine C.castore 29 Aw31 (by first | rfl | decide) (Nat.le_of_ble_eq_true rfl) hc.1 hc.2 d23_147 (List.mem_of_getElem? (i := 0) rfl) fun h32 z32 K32 Aw32 => ?_
  have Aw32 : Ary Z h32 a2 .char [.int c, .int c, .int c, .int c, .int c, .int c, .int c, .int c, .int c, .int c, .int c, .int c, .int c, .int c, .int c, .int c, .int c, .int c, .int c, .int c, .int c, .int c, .int c, .int c, .int c, .int c, .int c, .int c, .int c, .int c, .int 0, .int 0, .int 0, .int 0, .int 0, .int 0, .int 0, .int 0, .int 0, .int 0, .int 0, .int 0, .int 0, .int 0, .int 0, .int 0, .int 0, .int 0, .int 0, .int 0, .int 0, .int 0, .int 0, .int 0, .int 0, .int 0, .int 0, .int 0, .int 0, .int 0, .int 0, .int 0, .int 0, .int 0, .int 0] := Aw32
  show C.W h32 [a2] 1 65 (mkF K.m 148 #[.val (.int c)] [.ref a2])
  refine C.dup rfl d23_148 ?_
  refine C.bipush (v := (30 : Int32)) d23_149 (by first | rfl | decide) ?_
  refine C.iloadN d23_151 rfl ?_
  refine C.castore 30 Aw32 (by first | rfl | decide) (Nat.le_of_ble_eq_true rfl) hc.1 hc.2 d23_152 (List.mem_of_getElem? (i := 0) rfl) fun h33 z33 K33 Aw33 => ?_
  have Aw33 : Ary Z h33 a2 .char [.int c, .int c, .int c, .int c, .int c, .int c, .int c, .int c, .int c, .int c, .int c, .int c, .int c, .int c, .int c, .int c, .int c, .int c, .int c, .int c, .int c, .int c, .int c, .int c, .int c, .int c, .int c, .int c, .int c, .int c, .int c, .int 0, .int 0, .int 0, .int 0, .int 0, .int 0, .int 0, .int 0, .int 0, .int 0, .int 0, .int 0, .int 0, .int 0, .int 0, .int 0, .int 0, .int 0, .int 0, .int 0, .int 0, .int 0, .int 0, .int 0, .int 0, .int 0, .int 0, .int 0, .int 0, .int 0, .int 0, .int 0, .int 0, .int 0] := Aw33
  show C.W h33 [a2] 1 65 (mkF K.m 153 #[.val (.int c)] [.ref a2])
  refine C.dup rfl d23_153 ?_
  refine C.bipush (v := (31 : Int32)) d23_154 (by first | rfl | decide) ?_
  refine C.iloadN d23_156 rfl ?_
  refine C.castore 31 Aw33 (by first | rfl | decide) (Nat.le_of_ble_eq_true rfl) hc.1 hc.2 d23_157 (List.mem_of_getElem? (i := 0) rfl) fun h34 z34 K34 Aw34 => ?_
  have Aw34 : Ary Z h34 a2 .char [.int c, .int c, .int c, .int c, .int c, .int c, .int c, .int c, .int c, .int c, .int c, .int c, .int c, .int c, .int c, .int c, .int c, .int c, .int c, .int c, .int c, .int c, .int c, .int c, .int c, .int c, .int c, .int c, .int c, .int c, .int c, .int c, .int 0, .int 0, .int 0, .int 0, .int 0, .int 0, .int 0, .int 0, .int 0, .int 0, .int 0, .int 0, .int 0, .int 0, .int 0, .int 0, .int 0, .int 0, .int 0, .int 0, .int 0, .int 0, .int 0, .int 0, .int 0, .int 0, .int 0, .int 0, .int 0, .int 0, .int 0, .int 0, .int 0] := Aw34
  show C.W h34 [a2] 1 65 (mkF K.m 158 #[.val (.int c)] [.ref a2])
  refine C.dup rfl d23_158 ?_
  refine C.bipush (v := (32 : Int32)) d23_159 (by first | rfl | decide) ?_
  refine C.iloadN d23_161 rfl ?_
  refine C.castore 32 Aw34 (by first | rfl | decide) (Nat.le_of_ble_eq_true rfl) hc.1 hc.2 d23_162 (List.mem_of_getElem? (i := 0) rfl) fun h35 z35 K35 Aw35 => ?_
  have Aw35 : Ary Z h35 a2 .char [.int c, .int c, .int c, .int c, .int c, .int c, .int c, .int c, .int c, .int c, .int c, .int c, .int c, .int c, .int c, .int c, .int c, .int c, .int c, .int c, .int c, .int c, .int c, .int c, .int c, .int c, .int c, .int c, .int c, .int c, .int c, .int c, .int c, .int 0, .int 0, .int 0, .int 0, .int 0, .int 0, .int 0, .int 0, .int 0, .int 0, .int 0, .int 0, .int 0, .int 0, .int 0, .int 0, .int 0, .int 0, .int 0, .int 0, .int 0, .int 0, .int 0, .int 0, .int 0, .int 0, .int 0, .int 0, .int 0, .int 0, .int 0, .int 0] := Aw35
  show C.W h35 [a2] 1 65 (mkF K.m 163 #[.val (.int c)] [.ref a2])
  refine C.dup rfl d23_163 ?_
  refine C.bipush (v := (33 : Int32)) d23_164 (by first | rfl | decide) ?_
  refine C.iloadN d23_166 rfl ?_
  refine C.castore 33 Aw35 (by first | rfl | decide) (Nat.le_of_ble_eq_true rfl) hc.1 hc.2 d23_167 (List.mem_of_getElem? (i := 0) rfl) fun h36 z36 K36 Aw36 => ?_
  have Aw36 : Ary Z h36 a2 .char [.int c, .int c, .int c, .int c, .int c, .int c, .int c, .int c, .int c, .int c, .int c, .int c, .int c, .int c, .int c, .int c, .int c, .int c, .int c, .int c, .int c, .int c, .int c, .int c, .int c, .int c, .int c, .int c, .int c, .int c, .int c, .int c, .int c, .int c, .int 0, .int 0, .int 0, .int 0, .int 0, .int 0, .int 0, .int 0, .int 0, .int 0, .int 0, .int 0, .int 0, .int 0, .int 0, .int 0, .int 0, .int 0, .int 0, .int 0, .int 0, .int 0, .int 0, .int 0, .int 0, .int 0, .int 0, .int 0, .int 0, .int 0, .int 0] := Aw36
  show C.W h36 [a2] 1 65 (mkF K.m 168 #[.val (.int c)] [.ref a2])
  refine C.dup rfl d23_168 ?_
  refine C.bipush (v := (34 : Int32)) d23_169 (by first | rfl | decide) ?_
  refine C.iloadN d23_171 rfl ?_
  refine C.castore 34 Aw36 (by first | rfl | decide) (Nat.le_of_ble_eq_true rfl) hc.1 hc.2 d23_172 (List.mem_of_getElem? (i := 0) rfl) fun h37 z37 K37 Aw37 => ?_
  have Aw37 : Ary Z h37 a2 .char [.int c, .int c, .int c, .int c, .int c, .int c, .int c, .int c, .int c, .int c, .int c, .int c, .int c, .int c, .int c, .int c, .int c, .int c, .int c, .int c, .int c, .int c, .int c, .int c, .int c, .int c, .int c, .int c, .int c, .int c, .int c, .int c, .int c, .int c, .int c, .int 0, .int 0, .int 0, .int 0, .int 0, .int 0, .int 0, .int 0, .int 0, .int 0, .int 0, .int 0, .int 0, .int 0, .int 0, .int 0, .int 0, .int 0, .int 0, .int 0, .int 0, .int 0, .int 0, .int 0, .int 0, .int 0, .int 0, .int 0, .int 0, .int 0] := Aw37
  show C.W h37 [a2] 1 65 (mkF K.m 173 #[.val (.int c)] [.ref a2])
  refine C.dup rfl d23_173 ?_
  refine C.bipush (v := (35 : Int32)) d23_174 (by first | rfl | decide) ?_
  refine C.iloadN d23_176 rfl ?_
  refine C.castore 35 Aw37 (by first | rfl | decide) (Nat.le_of_ble_eq_true rfl) hc.1 hc.2 d23_177 (List.mem_of_getElem? (i := 0) rfl) fun h38 z38 K38 Aw38 => ?_
  have Aw38 : Ary Z h38 a2 .char [.int c, .int c, .int c, .int c, .int c, .int c, .int c, .int c, .int c, .int c, .int c, .int c, .int c, .int c, .int c, .int c, .int c, .int c, .int c, .int c, .int c, .int c, .int c, .int c, .int c, .int c, .int c, .int c, .int c, .int c, .int c, .int c, .int c, .int c, .int c, .int c, .int 0, .int 0, .int 0, .int 0, .int 0, .int 0, .int 0, .int 0, .int 0, .int 0, .int 0, .int 0, .int 0, .int 0, .int 0, .int 0, .int 0, .int 0, .int 0, .int 0, .int 0, .int 0, .int 0, .int 0, .int 0, .int 0, .int 0, .int 0, .int 0] := Aw38
  show C.W h38 [a2] 1 65 (mkF K.m 178 #[.val (.int c)] [.ref a2])
  refine C.dup rfl d23_178 ?_
  refine C.bipush (v := (36 : Int32)) d23_179 (by first | rfl | decide) ?_
  refine C.iloadN d23_181 rfl ?_
  refine C.castore 36 Aw38 (by first | rfl | decide) (Nat.le_of_ble_eq_true rfl) hc.1 hc.2 d23_182 (List.mem_of_getElem? (i := 0) rfl) fun h39 z39 K39 Aw39 => ?_
  have Aw39 : Ary Z h39 a2 .char [.int c, .int c, .int c, .int c, .int c, .int c, .int c, .int c, .int c, .int c, .int c, .int c, .int c, .int c, .int c, .int c, .int c, .int c, .int c, .int c, .int c, .int c, .int c, .int c, .int c, .int c, .int c, .int c, .int c, .int c, .int c, .int c, .int c, .int c, .int c, .int c, .int c, .int 0, .int 0, .int 0, .int 0, .int 0, .int 0, .int 0, .int 0, .int 0, .int 0, .int 0, .int 0, .int 0, .int 0, .int 0, .int 0, .int 0, .int 0, .int 0, .int 0, .int 0, .int 0, .int 0, .int 0, .int 0, .int 0, .int 0, .int 0] := Aw39
  show C.W h39 [a2] 1 65 (mkF K.m 183 #[.val (.int c)] [.ref a2])
  refine C.dup rfl d23_183 ?_
  refine C.bipush (v := (37 : Int32)) d23_184 (by first | rfl | decide) ?_
  refine C.iloadN d23_186 rfl ?_
  refine C.castore 37 Aw39 (by first | rfl | decide) (Nat.le_of_ble_eq_true rfl) hc.1 hc.2 d23_187 (List.mem_of_getElem? (i := 0) rfl) fun h40 z40 K40 Aw40 => ?_
  have Aw40 : Ary Z h40 a2 .char [.int c, .int c, .int c, .int c, .int c, .int c, .int c, .int c, .int c, .int c, .int c, .int c, .int c, .int c, .int c, .int c, .int c, .int c, .int c, .int c, .int c, .int c, .int c, .int c, .int c, .int c, .int c, .int c, .int c, .int c, .int c, .int c, .int c, .int c, .int c, .int c, .int c, .int c, .int 0, .int 0, .int 0, .int 0, .int 0, .int 0, .int 0, .int 0, .int 0, .int 0, .int 0, .int 0, .int 0, .int 0, .int 0, .int 0, .int 0, .int 0, .int 0, .int 0, .int 0, .int 0, .int 0, .int 0, .int 0, .int 0, .int 0] := Aw40
  show C.W h40 [a2] 1 65 (mkF K.m 188 #[.val (.int c)] [.ref a2])
  refine C.dup rfl d23_188 ?_
  refine C.bipush (v := (38 : Int32)) d23_189 (by first | rfl | decide) ?_
  refine C.iloadN d23_191 rfl ?_
  refine C.castore 38 Aw40 (by first | rfl | decide) (Nat.le_of_ble_eq_true rfl) hc.1 hc.2 d23_192 (List.mem_of_getElem? (i := 0) rfl) fun h41 z41 K41 Aw41 => ?_
  have Aw41 : Ary Z h41 a2 .char [.int c, .int c, .int c, .int c, .int c, .int c, .int c, .int c, .int c, .int c, .int c, .int c, .int c, .int c, .int c, .int c, .int c, .int c, .int c, .int c, .int c, .int c, .int c, .int c, .int c, .int c, .int c, .int c, .int c, .int c, .int c, .int c, .int c, .int c, .int c, .int c, .int c, .int c, .int c, .int 0, .int 0, .int 0, .int 0, .int 0, .int 0, .int 0, .int 0, .int 0, .int 0, .int 0, .int 0, .int 0, .int 0, .int 0, .int 0, .int 0, .int 0, .int 0, .int 0, .int 0, .int 0, .int 0, .int 0, .int 0, .int 0] := Aw41
  show C.W h41 [a2] 1 65 (mkF K.m 193 #[.val (.int c)] [.ref a2])
  refine C.dup rfl d23_193 ?_
  refine C.bipush (v := (39 : Int32)) d23_194 (by first | rfl | decide) ?_
  refine C.iloadN d23_196 rfl ?_
  refine C.castore 39 Aw41 (by first | rfl | decide) (Nat.le_of_ble_eq_true rfl) hc.1 hc.2 d23_197 (List.mem_of_getElem? (i := 0) rfl) fun h42 z42 K42 Aw42 => ?_
  have Aw42 : Ary Z h42 a2 .char [.int c, .int c, .int c, .int c, .int c, .int c, .int c, .int c, .int c, .int c, .int c, .int c, .int c, .int c, .int c, .int c, .int c, .int c, .int c, .int c, .int c, .int c, .int c, .int c, .int c, .int c, .int c, .int c, .int c, .int c, .int c, .int c, .int c, .int c, .int c, .int c, .int c, .int c, .int c, .int c, .int 0, .int 0, .int 0, .int 0, .int 0, .int 0, .int 0, .int 0, .int 0, .int 0, .int 0, .int 0, .int 0, .int 0, .int 0, .int 0, .int 0, .int 0, .int 0, .int 0, .int 0, .int 0, .int 0, .int 0, .int 0] := Aw42
  show C.W h42 [a2] 1 65 (mkF K.m 198 #[.val (.int c)] [.ref a2])
  refine C.dup rfl d23_198 ?_
  refine C.bipush (v := (40 : Int32)) d23_199 (by first | rfl | decide) ?_
  refine C.iloadN d23_201 rfl ?_
  refine C.castore 40 Aw42 (by first | rfl | decide) (Nat.le_of_ble_eq_true rfl) hc.1 hc.2 d23_202 (List.mem_of_getElem? (i := 0) rfl) fun h43 z43 K43 Aw43 => ?_
  have Aw43 : Ary Z h43 a2 .char [.int c, .int c, .int c, .int c, .int c, .int c, .int c, .int c, .int c, .int c, .int c, .int c, .int c, .int c, .int c, .int c, .int c, .int c, .int c, .int c, .int c, .int c, .int c, .int c, .int c, .int c, .int c, .int c, .int c, .int c, .int c, .int c, .int c, .int c, .int c, .int c, .int c, .int c, .int c, .int c, .int c, .int 0, .int 0, .int 0, .int 0, .int 0, .int 0, .int 0, .int 0, .int 0, .int 0, .int 0, .int 0, .int 0, .int 0, .int 0, .int 0, .int 0, .int 0, .int 0, .int 0, .int 0, .int 0, .int 0, .int 0] := Aw43
  show C.W h43 [a2] 1 65 (mkF K.m 203 #[.val (.int c)] [.ref a2])
  refine C.dup rfl d23_203 ?_
  refine C.bipush (v := (41 : Int32)) d23_204 (by first | rfl | decide) ?_
  refine C.iloadN d23_206 rfl ?_
  refine C.castore 41 Aw43 (by first | rfl | decide) (Nat.le_of_ble_eq_true rfl) hc.1 hc.2 d23_207 (List.mem_of_getElem? (i := 0) rfl) fun h44 z44 K44 Aw44 => ?_
  have Aw44 : Ary Z h44 a2 .char [.int c, .int c, .int c, .int c, .int c, .int c, .int c, .int c, .int c, .int c, .int c, .int c, .int c, .int c, .int c, .int c, .int c, .int c, .int c, .int c, .int c, .int c, .int c, .int c, .int c, .int c, .int c, .int c, .int c, .int c, .int c, .int c, .int c, .int c, .int c, .int c, .int c, .int c, .int c, .int c, .int c, .int c, .int 0, .int 0, .int 0, .int 0, .int 0, .int 0, .int 0, .int 0, .int 0, .int 0, .int 0, .int 0, .int 0, .int 0, .int 0, .int 0, .int 0, .int 0, .int 0, .int 0, .int 0, .int 0, .int 0] := Aw44
  show C.W h44 [a2] 1 65 (mkF K.m 208 #[.val (.int c)] [.ref a2])
  refine C.dup rfl d23_208 ?_
  refine C.bipush (v := (42 : Int32)) d23_209 (by first | rfl | decide) ?_
  refine C.iloadN d23_211 rfl ?_
  refine C.castore 42 Aw44 (by first | rfl | decide) (Nat.le_of_ble_eq_true rfl) hc.1 hc.2 d23_212 (List.mem_of_getElem? (i := 0) rfl) fun h45 z45 K45 Aw45 => ?_
  have Aw45 : Ary Z h45 a2 .char [.int c, .int c, .int c, .int c, .int c, .int c, .int c, .int c, .int c, .int c, .int c, .int c, .int c, .int c, .int c, .int c, .int c, .int c, .int c, .int c, .int c, .int c, .int c, .int c, .int c, .int c, .int c, .int c, .int c, .int c, .int c, .int c, .int c, .int c, .int c, .int c, .int c, .int c, .int c, .int c, .int c, .int c, .int c, .int 0, .int 0, .int 0, .int 0, .int 0, .int 0, .int 0, .int 0, .int 0, .int 0, .int 0, .int 0, .int 0, .int 0, .int 0, .int 0, .int 0, .int 0, .int 0, .int 0, .int 0, .int 0] := Aw45
  show C.W h45 [a2] 1 65 (mkF K.m 213 #[.val (.int c)] [.ref a2])
  refine C.dup rfl d23_213 ?_
  refine C.bipush (v := (43 : Int32)) d23_214 (by first | rfl | decide) ?_
  refine C.iloadN d23_216 rfl ?_
  refine C.castore 43 Aw45 (by first | rfl | decide) (Nat.le_of_ble_eq_true rfl) hc.1 hc.2 d23_217 (List.mem_of_getElem? (i := 0) rfl) fun h46 z46 K46 Aw46 => ?_
  have Aw46 : Ary Z h46 a2 .char [.int c, .int c, .int c, .int c, .int c, .int c, .int c, .int c, .int c, .int c, .int c, .int c, .int c, .int c, .int c, .int c, .int c, .int c, .int c, .int c, .int c, .int c, .int c, .int c, .int c, .int c, .int c, .int c, .int c, .int c, .int c, .int c, .int c, .int c, .int c, .int c, .int c, .int c, .int c, .int c, .int c, .int c, .int c, .int c, .int 0, .int 0, .int 0, .int 0, .int 0, .int 0, .int 0, .int 0, .int 0, .int 0, .int 0, .int 0, .int 0, .int 0, .int 0, .int 0, .int 0, .int 0, .int 0, .int 0, .int 0] := Aw46
  show C.W h46 [a2] 1 65 (mkF K.m 218 #[.val (.int c)] [.ref a2])
  refine C.dup rfl d23_218 ?_
  refine C.bipush (v := (44 : Int32)) d23_219 (by first | rfl | decide) ?_
  refine C.iloadN d23_221 rfl ?_
  refine C.castore 44 Aw46 (by first | rfl | decide) (Nat.le_of_ble_eq_true rfl) hc.1 hc.2 d23_222 (List.mem_of_getElem? (i := 0) rfl) fun h47 z47 K47 Aw47 => ?_
  have Aw47 : Ary Z h47 a2 .char [.int c, .int c, .int c, .int c, .int c, .int c, .int c, .int c, .int c, .int c, .int c, .int c, .int c, .int c, .int c, .int c, .int c, .int c, .int c, .int c, .int c, .int c, .int c, .int c, .int c, .int c, .int c, .int c, .int c, .int c, .int c, .int c, .int c, .int c, .int c, .int c, .int c, .int c, .int c, .int c, .int c, .int c, .int c, .int c, .int c, .int 0, .int 0, .int 0, .int 0, .int 0, .int 0, .int 0, .int 0, .int 0, .int 0, .int 0, .int 0, .int 0, .int 0, .int 0, .int 0, .int 0, .int 0, .int 0, .int 0] := Aw47
  show C.W h47 [a2] 1 65 (mkF K.m 223 #[.val (.int c)] [.ref a2])
  refine C.dup rfl d23_223 ?_
  refine C.bipush (v := (45 : Int32)) d23_224 (by first | rfl | decide) ?_
  refine C.iloadN d23_226 rfl ?_
  refine C.castore 45 Aw47 (by first | rfl | decide) (Nat.le_of_ble_eq_true rfl) hc.1 hc.2 d23_227 (List.mem_of_getElem? (i := 0) rfl) fun h48 z48 K48 Aw48 => ?_
  have Aw48 : Ary Z h48 a2 .char [.int c, .int c, .int c, .int c, .int c, .int c, .int c, .int c, .int c, .int c, .int c, .int c, .int c, .int c, .int c, .int c, .int c, .int c, .int c, .int c, .int c, .int c, .int c, .int c, .int c, .int c, .int c, .int c, .int c, .int c, .int c, .int c, .int c, .int c, .int c, .int c, .int c, .int c, .int c, .int c, .int c, .int c, .int c, .int c, .int c, .int c, .int 0, .int 0, .int 0, .int 0, .int 0, .int 0, .int 0, .int 0, .int 0, .int 0, .int 0, .int 0, .int 0, .int 0, .int 0, .int 0, .int 0, .int 0, .int 0] := Aw48
  show C.W h48 [a2] 1 65 (mkF K.m 228 #[.val (.int c)] [.ref a2])
  refine C.dup rfl d23_228 ?_
  refine C.bipush (v := (46 : Int32)) d23_229 (by first | rfl | decide) ?_
  refine C.iloadN d23_231 rfl ?_
  refine C.castore 46 Aw48 (by first | rfl | decide) (Nat.le_of_ble_eq_true rfl) hc.1 hc.2 d23_232 (List.mem_of_getElem? (i := 0) rfl) fun h49 z49 K49 Aw49 => ?_
  have Aw49 : Ary Z h49 a2 .char [.int c, .int c, .int c, .int c, .int c, .int c, .int c, .int c, .int c, .int c, .int c, .int c, .int c, .int c, .int c, .int c, .int c, .int c, .int c, .int c, .int c, .int c, .int c, .int c, .int c, .int c, .int c, .int c, .int c, .int c, .int c, .int c, .int c, .int c, .int c, .int c, .int c, .int c, .int c, .int c, .int c, .int c, .int c, .int c, .int c, .int c, .int c, .int 0, .int 0, .int 0, .int 0, .int 0, .int 0, .int 0, .int 0, .int 0, .int 0, .int 0, .int 0, .int 0, .int 0, .int 0, .int 0, .int 0, .int 0] := Aw49
  show C.W h49 [a2] 1 65 (mkF K.m 233 #[.val (.int c)] [.ref a2])
  refine C.dup rfl d23_233 ?_
  refine C.bipush (v := (47 : Int32)) d23_234 (by first | rfl | decide) ?_
  refine C.iloadN d23_236 rfl ?_
  refine C.castore 47 Aw49 (by first | rfl | decide) (Nat.le_of_ble_eq_true rfl) hc.1 hc.2 d23_237 (List.mem_of_getElem? (i := 0) rfl) fun h50 z50 K50 Aw50 => ?_
  have Aw50 : Ary Z h50 a2 .char [.int c, .int c, .int c, .int c, .int c, .int c, .int c, .int c, .int c, .int c, .int c, .int c, .int c, .int c, .int c, .int c, .int c, .int c, .int c, .int c, .int c, .int c, .int c, .int c, .int c, .int c, .int c, .int c, .int c, .int c, .int c, .int c, .int c, .int c, .int c, .int c, .int c, .int c, .int c, .int c, .int c, .int c, .int c, .int c, .int c, .int c, .int c, .int c, .int 0, .int 0, .int 0, .int 0, .int 0, .int 0, .int 0, .int 0, .int 0, .int 0, .int 0, .int 0, .int 0, .int 0, .int 0, .int 0, .int 0] := Aw50
  show C.W h50 [a2] 1 65 (mkF K.m 238 #[.val (.int c)] [.ref a2])
  refine C.dup rfl d23_238 ?_
  refine C.bipush (v := (48 : Int32)) d23_239 (by first | rfl | decide) ?_
  refine C.iloadN d23_241 rfl ?_
  refine C.castore 48 Aw50 (by first | rfl | decide) (Nat.le_of_ble_eq_true rfl) hc.1 hc.2 d23_242 (List.mem_of_getElem? (i := 0) rfl) fun h51 z51 K51 Aw51 => ?_
  have Aw51 : Ary Z h51 a2 .char [.int c, .int c, .int c, .int c, .int c, .int c, .int c, .int c, .int c, .int c, .int c, .int c, .int c, .int c, .int c, .int c, .int c, .int c, .int c, .int c, .int c, .int c, .int c, .int c, .int c, .int c, .int c, .int c, .int c, .int c, .int c, .int c, .int c, .int c, .int c, .int c, .int c, .int c, .int c, .int c, .int c, .int c, .int c, .int c, .int c, .int c, .int c, .int c, .int c, .int 0, .int 0, .int 0, .int 0, .int 0, .int 0, .int 0, .int 0, .int 0, .int 0, .int 0, .int 0, .int 0, .int 0, .int 0, .int 0] := Aw51
  show C.W h51 [a2] 1 65 (mkF K.m 243 #[.val (.int c)] [.ref a2])
  refine C.dup rfl d23_243 ?_
  refine C.bipush (v := (49 : Int32)) d23_244 (by first | rfl | decide) ?_
  refine C.iloadN d23_246 rfl ?_
  refine C.castore 49 Aw51 (by first | rfl | decide) (Nat.le_of_ble_eq_true rfl) hc.1 hc.2 d23_247 (List.mem_of_getElem? (i := 0) rfl) fun h52 z52 K52 Aw52 => ?_
  have Aw52 : Ary Z h52 a2 .char [.int c, .int c, .int c, .int c, .int c, .int c, .int c, .int c, .int c, .int c, .int c, .int c, .int c, .int c, .int c, .int c, .int c, .int c, .int c, .int c, .int c, .int c, .int c, .int c, .int c, .int c, .int c, .int c, .int c, .int c, .int c, .int c, .int c, .int c, .int c, .int c, .int c, .int c, .int c, .int c, .int c, .int c, .int c, .int c, .int c, .int c, .int c, .int c, .int c, .int c, .int 0, .int 0, .int 0, .int 0, .int 0, .int 0, .int 0, .int 0, .int 0, .int 0, .int 0, .int 0, .int 0, .int 0, .int 0] := Aw52
  show C.W h52 [a2] 1 65 (mkF K.m 248 #[.val (.int c)] [.ref a2])
  refine C.dup rfl d23_248 ?_
  refine C.bipush (v := (50 : Int32)) d23_249 (by first | rfl | decide) ?_
  refine C.iloadN d23_251 rfl ?_
  refine C.castore 50 Aw52 (by first | rfl | decide) (Nat.le_of_ble_eq_true rfl) hc.1 hc.2 d23_252 (List.mem_of_getElem? (i := 0) rfl) fun h53 z53 K53 Aw53 => ?_
  have Aw53 : Ary Z h53 a2 .char [.int c, .int c, .int c, .int c, .int c, .int c, .int c, .int c, .int c, .int c, .int c, .int c, .int c, .int c, .int c, .int c, .int c, .int c, .int c, .int c, .int c, .int c, .int c, .int c, .int c, .int c, .int c, .int c, .int c, .int c, .int c, .int c, .int c, .int c, .int c, .int c, .int c, .int c, .int c, .int c, .int c, .int c, .int c, .int c, .int c, .int c, .int c, .int c, .int c, .int c, .int c, .int 0, .int 0, .int 0, .int 0, .int 0, .int 0, .int 0, .int 0, .int 0, .int 0, .int 0, .int 0, .int 0, .int 0] := Aw53
  show C.W h53 [a2] 1 65 (mkF K.m 253 #[.val (.int c)] [.ref a2])
  refine C.dup rfl d23_253 ?_
  refine C.bipush (v := (51 : Int32)) d23_254 (by first | rfl | decide) ?_
  refine C.iloadN d23_256 rfl ?_
  refine C.castore 51 Aw53 (by first | rfl | decide) (Nat.le_of_ble_eq_true rfl) hc.1 hc.2 d23_257 (List.mem_of_getElem? (i := 0) rfl) fun h54 z54 K54 Aw54 => ?_
  have Aw54 : Ary Z h54 a2 .char [.int c, .int c, .int c, .int c, .int c, .int c, .int c, .int c, .int c, .int c, .int c, .int c, .int c, .int c, .int c, .int c, .int c, .int c, .int c, .int c, .int c, .int c, .int c, .int c, .int c, .int c, .int c, .int c, .int c, .int c, .int c, .int c, .int c, .int c, .int c, .int c, .int c, .int c, .int c, .int c, .int c, .int c, .int c, .int c, .int c, .int c, .int c, .int c, .int c, .int c, .int c, .int c, .int 0, .int 0, .int 0, .int 0, .int 0, .int 0, .int 0, .int 0, .int 0, .int 0, .int 0, .int 0, .int 0] := Aw54
  show C.W h54 [a2] 1 65 (mkF K.m 258 #[.val (.int c)] [.ref a2])
  refine C.dup rfl d23_258 ?_
  refine C.bipush (v := (52 : Int32)) d23_259 (by first | rfl | decide) ?_
  refine C.iloadN d23_261 rfl ?_
  refine C.castore 52 Aw54 (by first | rfl | decide) (Nat.le_of_ble_eq_true rfl) hc.1 hc.2 d23_262 (List.mem_of_getElem? (i := 0) rfl) fun h55 z55 K55 Aw55 => ?_
  have Aw55 : Ary Z h55 a2 .char [.int c, .int c, .int c, .int c, .int c, .int c, .int c, .int c, .int c, .int c, .int c, .int c, .int c, .int c, .int c, .int c, .int c, .int c, .int c, .int c, .int c, .int c, .int c, .int c, .int c, .int c, .int c, .int c, .int c, .int c, .int c, .int c, .int c, .int c, .int c, .int c, .int c, .int c, .int c, .int c, .int c, .int c, .int c, .int c, .int c, .int c, .int c, .int c, .int c, .int c, .int c, .int c, .int c, .int 0, .int 0, .int 0, .int 0, .int 0, .int 0, .int 0, .int 0, .int 0, .int 0, .int 0, .int 0] := Aw55
  show C.W h55 [a2] 1 65 (mkF K.m 263 #[.val (.int c)] [.ref a2])
  refine C.dup rfl d23_263 ?_
  refine C.bipush (v := (53 : Int32)) d23_264 (by first | rfl | decide) ?_
  refine C.iloadN d23_266 rfl ?_
  refine C.castore 53 Aw55 (by first | rfl | decide) (Nat.le_of_ble_eq_true rfl) hc.1 hc.2 d23_267 (List.mem_of_getElem? (i := 0) rfl) fun h56 z56 K56 Aw56 => ?_
  have Aw56 : Ary Z h56 a2 .char [.int c, .int c, .int c, .int c, .int c, .int c, .int c, .int c, .int c, .int c, .int c, .int c, .int c, .int c, .int c, .int c, .int c, .int c, .int c, .int c, .int c, .int c, .int c, .int c, .int c, .int c, .int c, .int c, .int c, .int c, .int c, .int c, .int c, .int c, .int c, .int c, .int c, .int c, .int c, .int c, .int c, .int c, .int c, .int c, .int c, .int c, .int c, .int c, .int c, .int c, .int c, .int c, .int c, .int c, .int 0, .int 0, .int 0, .int 0, .int 0, .int 0, .int 0, .int 0, .int 0, .int 0, .int 0] := Aw56
  show C.W h56 [a2] 1 65 (mkF K.m 268 #[.val (.int c)] [.ref a2])
  refine C.dup rfl d23_268 ?_
  refine C.bipush (v := (54 : Int32)) d23_269 (by first | rfl | decide) ?_
  refine C.iloadN d23_271 rfl ?_
  refine C.castore 54 Aw56 (by first | rfl | decide) (Nat.le_of_ble_eq_true rfl) hc.1 hc.2 d23_272 (List.mem_of_getElem? (i := 0) rfl) fun h57 z57 K57 Aw57 => ?_
  have Aw57 : Ary Z h57 a2 .char [.int c, .int c, .int c, .int c, .int c, .int c, .int c, .int c, .int c, .int c, .int c, .int c, .int c, .int c, .int c, .int c, .int c, .int c, .int c, .int c, .int c, .int c, .int c, .int c, .int c, .int c, .int c, .int c, .int c, .int c, .int c, .int c, .int c, .int c, .int c, .int c, .int c, .int c, .int c, .int c, .int c, .int c, .int c, .int c, .int c, .int c, .int c, .int c, .int c, .int c, .int c, .int c, .int c, .int c, .int c, .int 0, .int 0, .int 0, .int 0, .int 0, .int 0, .int 0, .int 0, .int 0, .int 0] := Aw57
  show C.W h57 [a2] 1 65 (mkF K.m 273 #[.val (.int c)] [.ref a2])
  refine C.dup rfl d23_273 ?_
  refine C.bipush (v := (55 : Int32)) d23_274 (by first | rfl | decide) ?_
  refine C.iloadN d23_276 rfl ?_
  refine C.castore 55 Aw57 (by first | rfl | decide) (Nat.le_of_ble_eq_true rfl) hc.1 hc.2 d23_277 (List.mem_of_getElem? (i := 0) rfl) fun h58 z58 K58 Aw58 => ?_
  have Aw58 : Ary Z h58 a2 .char [.int c, .int c, .int c, .int c, .int c, .int c, .int c, .int c, .int c, .int c, .int c, .int c, .int c, .int c, .int c, .int c, .int c, .int c, .int c, .int c, .int c, .int c, .int c, .int c, .int c, .int c, .int c, .int c, .int c, .int c, .int c, .int c, .int c, .int c, .int c, .int c, .int c, .int c, .int c, .int c, .int c, .int c, .int c, .int c, .int c, .int c, .int c, .int c, .int c, .int c, .int c, .int c, .int c, .int c, .int c, .int c, .int 0, .int 0, .int 0, .int 0, .int 0, .int 0, .int 0, .int 0, .int 0] := Aw58
  show C.W h58 [a2] 1 65 (mkF K.m 278 #[.val (.int c)] [.ref a2])
  refine C.dup rfl d23_278 ?_
  refine C.bipush (v := (56 : Int32)) d23_279 (by first | rfl | decide) ?_
  refine C.iloadN d23_281 rfl ?_
  refine C.castore 56 Aw58 (by first | rfl | decide) (Nat.le_of_ble_eq_true rfl) hc.1 hc.2 d23_282 (List.mem_of_getElem? (i := 0) rfl) fun h59 z59 K59 Aw59 => ?_
  have Aw59 : Ary Z h59 a2 .char [.int c, .int c, .int c, .int c, .int c, .int c, .int c, .int c, .int c, .int c, .int c, .int c, .int c, .int c, .int c, .int c, .int c, .int c, .int c, .int c, .int c, .int c, .int c, .int c, .int c, .int c, .int c, .int c, .int c, .int c, .int c, .int c, .int c, .int c, .int c, .int c, .int c, .int c, .int c, .int c, .int c, .int c, .int c, .int c, .int c, .int c, .int c, .int c, .int c, .int c, .int c, .int c, .int c, .int c, .int c, .int c, .int c, .int 0, .int 0, .int 0, .int 0, .int 0, .int 0, .int 0, .int 0] := Aw59
  show C.W h59 [a2] 1 65 (mkF K.m 283 #[.val (.int c)] [.ref a2])
  refine C.dup rfl d23_283 ?_
  refine C.bipush (v := (57 : Int32)) d23_284 (by first | rfl | decide) ?_
  refine C.iloadN d23_286 rfl ?_
  refine C.castore 57 Aw59 (by first | rfl | decide) (Nat.le_of_ble_eq_true rfl) hc.1 hc.2 d23_287 (List.mem_of_getElem? (i := 0) rfl) fun h60 z60 K60 Aw60 => ?_
  have Aw60 : Ary Z h60 a2 .char [.int c, .int c, .int c, .int c, .int c, .int c, .int c, .int c, .int c, .int c, .int c, .int c, .int c, .int c, .int c, .int c, .int c, .int c, .int c, .int c, .int c, .int c, .int c, .int c, .int c, .int c, .int c, .int c, .int c, .int c, .int c, .int c, .int c, .int c, .int c, .int c, .int c, .int c, .int c, .int c, .int c, .int c, .int c, .int c, .int c, .int c, .int c, .int c, .int c, .int c, .int c, .int c, .int c, .int c, .int c, .int c, .int c, .int c, .int 0, .int 0, .int 0, .int 0, .int 0, .int 0, .int 0] := Aw60
  show C.W h60 [a2] 1 65 (mkF K.m 288 #[.val (.int c)] [.ref a2])
  refine C.dup rfl d23_288 ?_
  refine C.bipush (v := (58 : Int32)) d23_289 (by first | rfl | decide) ?_
  refine C.iloadN d23_291 rfl ?_
  refine C.castore 58 Aw60 (by first | rfl | decide) (Nat.le_of_ble_eq_true rfl) hc.1 hc.2 d23_292 (List.mem_of_getElem? (i := 0) rfl) fun h61 z61 K61 Aw61 => ?_
  have Aw61 : Ary Z h61 a2 .char [.int c, .int c, .int c, .int c, .int c, .int c, .int c, .int c, .int c, .int c, .int c, .int c, .int c, .int c, .int c, .int c, .int c, .int c, .int c, .int c, .int c, .int c, .int c, .int c, .int c, .int c, .int c, .int c, .int c, .int c, .int c, .int c, .int c, .int c, .int c, .int c, .int c, .int c, .int c, .int c, .int c, .int c, .int c, .int c, .int c, .int c, .int c, .int c, .int c, .int c, .int c, .int c, .int c, .int c, .int c, .int c, .int c, .int c, .int c, .int 0, .int 0, .int 0, .int 0, .int 0, .int 0] := Aw61
  show C.W h61 [a2] 1 65 (mkF K.m 293 #[.val (.int c)] [.ref a2])
  refine C.dup rfl d23_293 ?_
  refine C.bipush (v := (59 : Int32)) d23_294 (by first | rfl | decide) ?_
  refine C.iloadN d23_296 rfl ?_
  refine C.castore 59 Aw61 (by first | rfl | decide) (Nat.le_of_ble_eq_true rfl) hc.1 hc.2 d23_297 (List.mem_of_getElem? (i := 0) rfl) fun h62 z62 K62 Aw62 => ?_
  have Aw62 : Ary Z h62 a2 .char [.int c, .int c, .int c, .int c, .int c, .int c, .int c, .int c, .int c, .int c, .int c, .int c, .int c, .int c, .int c, .int c, .int c, .int c, .int c, .int c, .int c, .int c, .int c, .int c, .int c, .int c, .int c, .int c, .int c, .int c, .int c, .int c, .int c, .int c, .int c, .int c, .int c, .int c, .int c, .int c, .int c, .int c, .int c, .int c, .int c, .int c, .int c, .int c, .int c, .int c, .int c, .int c, .int c, .int c, .int c, .int c, .int c, .int c, .int c, .int c, .int 0, .int 0, .int 0, .int 0, .int 0] := Aw62
  show C.W h62 [a2] 1 65 (mkF K.m 298 #[.val (.int c)] [.ref a2])
  refine C.dup rfl d23_298 ?_
  refine C.bipush (v := (60 : Int32)) d23_299 (by first | rfl | decide) ?_
  refine C.iloadN d23_301 rfl ?_
  refine C.castore 60 Aw62 (by first | rfl | decide) (Nat.le_of_ble_eq_true rfl) hc.1 hc.2 d23_302 (List.mem_of_getElem? (i := 0) rfl) fun h63 z63 K63 Aw63 => ?_
  have Aw63 : Ary Z h63 a2 .char [.int c, .int c, .int c, .int c, .int c, .int c, .int c, .int c, .int c, .int c, .int c, .int c, .int c, .int c, .int c, .int c, .int c, .int c, .int c, .int c, .int c, .int c, .int c, .int c, .int c, .int c, .int c, .int c, .int c, .int c, .int c, .int c, .int c, .int c, .int c, .int c, .int c, .int c, .int c, .int c, .int c, .int c, .int c, .int c, .int c, .int c, .int c, .int c, .int c, .int c, .int c, .int c, .int c, .int c, .int c, .int c, .int c, .int c, .int c, .int c, .int c, .int 0, .int 0, .int 0, .int 0] := Aw63
  show C.W h63 [a2] 1 65 (mkF K.m 303 #[.val (.int c)] [.ref a2])
  refine C.dup rfl d23_303 ?_
  refine C.bipush (v := (61 : Int32)) d23_304 (by first | rfl | decide) ?_
  refine C.iloadN d23_306 rfl ?_
  refine C.castore 61 Aw63 (by first | rfl | decide) (Nat.le_of_ble_eq_true rfl) hc.1 hc.2 d23_307 (List.mem_of_getElem? (i := 0) rfl) fun h64 z64 K64 Aw64 => ?_
  have Aw64 : Ary Z h64 a2 .char [.int c, .int c, .int c, .int c, .int c, .int c, .int c, .int c, .int c, .int c, .int c, .int c, .int c, .int c, .int c, .int c, .int c, .int c, .int c, .int c, .int c, .int c, .int c, .int c, .int c, .int c, .int c, .int c, .int c, .int c, .int c, .int c, .int c, .int c, .int c, .int c, .int c, .int c, .int c, .int c, .int c, .int c, .int c, .int c, .int c, .int c, .int c, .int c, .int c, .int c, .int c, .int c, .int c, .int c, .int c, .int c, .int c, .int c, .int c, .int c, .int c, .int c, .int 0, .int 0, .int 0] := Aw64
  show C.W h64 [a2] 1 65 (mkF K.m 308 #[.val (.int c)] [.ref a2])
  refine C.dup rfl d23_308 ?_
  refine C.bipush (v := (62 : Int32)) d23_309 (by first | rfl | decide) ?_
  refine C.iloadN d23_311 rfl ?_
  refine C.castore 62 Aw64 (by first | rfl | decide) (Nat.le_of_ble_eq_true rfl) hc.1 hc.2 d23_312 (List.mem_of_getElem? (i := 0) rfl) fun h65 z65 K65 Aw65 => ?_
  have Aw65 : Ary Z h65 a2 .char [.int c, .int c, .int c, .int c, .int c, .int c, .int c, .int c, .int c, .int c, .int c, .int c, .int c, .int c, .int c, .int c, .int c, .int c, .int c, .int c, .int c, .int c, .int c, .int c, .int c, .int c, .int c, .int c, .int c, .int c, .int c, .int c, .int c, .int c, .int c, .int c, .int c, .int c, .int c, .int c, .int c, .int c, .int c, .int c, .int c, .int c, .int c, .int c, .int c, .int c, .int c, .int c, .int c, .int c, .int c, .int c, .int c, .int c, .int c, .int c, .int c, .int c, .int c, .int 0, .int 0] := Aw65
  show C.W h65 [a2] 1 65 (mkF K.m 313 #[.val (.int c)] [.ref a2])
  refine C.dup rfl d23_313 ?_
  refine C.bipush (v := (63 : Int32)) d23_314 (by first | rfl | decide) ?_
  refine C.iloadN d23_316 rfl ?_
  refine C.castore 63 Aw65 (by first | rfl | decide) (Nat.le_of_ble_eq_true rfl) hc.1 hc.2 d23_317 (List.mem_of_getElem? (i := 0) rfl) fun h66 z66 K66 Aw66 => ?_
  have Aw66 : Ary Z h66 a2 .char [.int c, .int c, .int c, .int c, .int c, .int c, .int c, .int c, .int c, .int c, .int c, .int c, .int c, .int c, .int c, .int c, .int c, .int c, .int c, .int c, .int c, .int c, .int c, .int c, .int c, .int c, .int c, .int c, .int c, .int c, .int c, .int c, .int c, .int c, .int c, .int c, .int c, .int c, .int c, .int c, .int c, .int c, .int c, .int c, .int c, .int c, .int c, .int c, .int c, .int c, .int c, .int c, .int c, .int c, .int c, .int c, .int c, .int c, .int c, .int c, .int c, .int c, .int c, .int c, .int 0] := Aw66
  show C.W h66 [a2] 1 65 (mkF K.m 318 #[.val (.int c)] [.ref a2])
  refine C.dup rfl d23_318 ?_
  refine C.bipush (v := (64 : Int32)) d23_319 (by first | rfl | decide) ?_
  refine C.iloadN d23_321 rfl ?_
  refine C.castore 64 Aw66 (by first | rfl | decide) (Nat.le_of_ble_eq_true rfl) hc.1 hc.2 d23_322 (List.mem_of_getElem? (i := 0) rfl) fun h67 z67 K67 Aw67 => ?_
  have Aw67 : Ary Z h67 a2 .char [.int c, .int c, .int c, .int c, .int c, .int c, .int c, .int c, .int c, .int c, .int c, .int c, .int c, .int c, .int c, .int c, .int c, .int c, .int c, .int c, .int c, .int c, .int c, .int c, .int c, .int c, .int c, .int c, .int c, .int c, .int c, .int c, .int c, .int c, .int c, .int c, .int c, .int c, .int c, .int c, .int c, .int c, .int c, .int c, .int c, .int c, .int c, .int c, .int c, .int c, .int c, .int c, .int c, .int c, .int c, .int c, .int c, .int c, .int c, .int c, .int c, .int c, .int c, .int c, .int c] := Aw67
  show C.W h67 [a2] 1 65 (mkF K.m 323 #[.val (.int c)] [.ref a2])
  exact C.areturn rfl rfl rfl d23_323 (by decide) (by decide) ⟨a2, rfl, by omega, by omega, Aw67⟩
set_option maxRecDepth 65536 in
set_option maxHeartbeats 40000000 in
theorem c_isHash  (B : Base Z a0) {h : Heap} {N x : Nat} {cs : List Int32} (S : Str Z h N x cs) (hl : cs.length ≤ 65) (hp : ∀ c ∈ cs, 0 ≤ c.toInt ∧ c.toInt < 65536) : Con l Z a0 EL it n0 (⟨"com/example/halysis/halysis/LogRecord", "isHash", "(Ljava/lang/String;)Z"⟩ : MethodName) 6 81 0 0 #[.ref x] h [] (fun v h' => (v = some (.int 1) ∧ (cs.length = 64 ∧ ∀ c ∈ cs, HX c) ∨ v = some (.int 0) ∧ ¬ (cs.length = 64 ∧ ∀ c ∈ cs, HX c)) ∧ h = h') := by
  refine Met.con (bytes := prog_18_method_8_code) (maxL := 4) (ret := (some .boolean)) (rm := ({ frames := 5, cells := 0, slots := 0, locals := 66 } : Room)) (Met.of (own := "com/example/halysis/halysis/LogRecord") (nm := "isHash") #[.val (.ref x), .unset, .unset, .unset] (ew B) rfl rfl (plainFor_of_name pn_com_example_halysis_halysis_LogRecord) (fun m => by first | (simp [entryFrame, mkF, argsToLocals, Value.category]; done) | rfl) fun K C => ?_) (B.1 _ (List.mem_of_getElem? (i := 34) rfl)) (B.1 _ (List.mem_of_getElem? (i := 33) rfl)) rfl rfl rfl rfl
  have Ex := S.exa
  have en : (Int32.ofNat cs.length).toInt = cs.length := ofNat_int (by omega)
  have k64 : (64 : Int32).toInt = 64 := by decide
  refine C.aloadN d24_0 rfl rfl ?_
  refine C.callV x [] [] 0 (B.1 _ (List.mem_of_getElem? (i := 35) rfl)) (B.1 _ (List.mem_of_getElem? (i := 36) rfl)) (B.1 _ (List.mem_of_getElem? (i := 38) rfl)) (B.1 _ (List.mem_of_getElem? (i := 37) rfl)) (by decide) rfl Ex pd__28__29_I rfl id (c_length B S) d24_1 rfl rfl rfl (by decide) (by decide) (by decide) (by decide) all0 fun v1 h1 z1 K1 q1 => ?_
  obtain ⟨rfl, rfl⟩ := q1
  show C.W h [] 0 0 (mkF K.m 4 #[.val (.ref x), .unset, .unset, .unset] [.int (Int32.ofNat cs.length)])
  refine C.bipush (v := (64 : Int32)) d24_4 (by first | rfl | decide) ?_
  have J2 : ∀ (t : Int32), (t.toInt < 0 ↔ ¬ cs.length = 64) → C.W h [] 0 0 (mkF K.m 14 #[.val (.ref x), .unset, .unset, .unset] [.int t]) := by
    intro t j2_0
    refine C.istoreN #[.val (.ref x), .val (.int t), .unset, .unset] d24_14 rfl ?_
    refine C.iconst (v := (0 : Int32)) d24_15 (by first | rfl | decide) ?_
    refine C.istoreN #[.val (.ref x), .val (.int t), .val (.int (0 : Int32)), .unset] d24_16 rfl ?_
    suffices LOOP : ∀ (j k : Nat) (t : Int32) (s3 : Slot), j + k = cs.length → One s3 → (t.toInt < 0 ↔ ¬ (cs.length = 64 ∧ ∀ c ∈ cs.take k, HX c)) → C.W h [] 0 0 (mkF K.m 17 #[.val (.ref x), .val (.int t), .val (.int (Int32.ofNat k)), s3] []) from LOOP cs.length 0 _ .unset (by omega) One.u (by rw [j2_0]; simp)
    intro j
    induction j with
    | zero =>
      intro k t s3 hjk h3 hk
      have ek : (Int32.ofNat k).toInt = k := ofNat_int (by omega)
      refine C.iloadN d24_17 rfl ?_
      refine C.aloadN d24_18 rfl rfl ?_
      refine C.callV x [] [.int (Int32.ofNat k)] 1 (B.1 _ (List.mem_of_getElem? (i := 35) rfl)) (B.1 _ (List.mem_of_getElem? (i := 36) rfl)) (B.1 _ (List.mem_of_getElem? (i := 38) rfl)) (B.1 _ (List.mem_of_getElem? (i := 37) rfl)) (by decide) rfl Ex pd__28__29_I rfl id (c_length B S) d24_19 rfl rfl rfl (by decide) (by decide) (by decide) (by decide) all0 fun v3 h3 z3 K3 q3 => ?_
      obtain ⟨rfl, rfl⟩ := q3
      show C.W h [] 0 0 (mkF K.m 22 #[.val (.ref x), .val (.int t), .val (.int (Int32.ofNat k)), s3] [.int (Int32.ofNat cs.length), .int (Int32.ofNat k)])
      refine C.icmp_ge 59 d24_22 (by decide) (by decide) (fun q4 => ?_) (fun q4 => ?_)
      · refine C.iloadN d24_59 rfl ?_
        rw [List.take_of_length_le (by omega)] at hk
        refine C.ifc_lt 67 d24_60 (by decide) (by decide) (fun q5 => ?_) (fun q5 => ?_)
        · refine C.iconst (v := (0 : Int32)) d24_67 (by first | rfl | decide) ?_
          exact C.ireturn (t := .boolean) rfl (by simp) rfl d24_68 (by decide) (by decide) ⟨Or.inr ⟨rfl, hk.mp q5⟩, rfl⟩
        · refine C.iconst (v := (1 : Int32)) d24_63 (by first | rfl | decide) ?_
          refine C.goto 68 d24_64 (by decide) (by decide) ?_
          exact C.ireturn (t := .boolean) rfl (by simp) rfl d24_68 (by decide) (by decide) ⟨Or.inl ⟨rfl, Classical.byContradiction fun g => by have := hk.mpr g; omega⟩, rfl⟩
      · exfalso; omega
    | succ j ih =>
      intro k t s3 hjk h3 hk
      have ek : (Int32.ofNat k).toInt = k := ofNat_int (by omega)
      refine C.iloadN d24_17 rfl ?_
      refine C.aloadN d24_18 rfl rfl ?_
      refine C.callV x [] [.int (Int32.ofNat k)] 1 (B.1 _ (List.mem_of_getElem? (i := 35) rfl)) (B.1 _ (List.mem_of_getElem? (i := 36) rfl)) (B.1 _ (List.mem_of_getElem? (i := 38) rfl)) (B.1 _ (List.mem_of_getElem? (i := 37) rfl)) (by decide) rfl Ex pd__28__29_I rfl id (c_length B S) d24_19 rfl rfl rfl (by decide) (by decide) (by decide) (by decide) all0 fun v6 h6 z6 K6 q6 => ?_
      obtain ⟨rfl, rfl⟩ := q6
      show C.W h [] 0 0 (mkF K.m 22 #[.val (.ref x), .val (.int t), .val (.int (Int32.ofNat k)), s3] [.int (Int32.ofNat cs.length), .int (Int32.ofNat k)])
      refine C.icmp_ge 59 d24_22 (by decide) (by decide) (fun q7 => ?_) (fun q7 => ?_)
      · exfalso; omega
      · obtain ⟨c, hc⟩ : ∃ c, cs[k]? = some c := ⟨_, List.getElem?_eq_getElem (by omega)⟩
        refine C.aloadN d24_25 rfl rfl ?_
        refine C.iloadN d24_26 rfl ?_
        refine C.callV x [.int (Int32.ofNat k)] [] 0 (B.1 _ (List.mem_of_getElem? (i := 45) rfl)) (B.1 _ (List.mem_of_getElem? (i := 46) rfl)) (B.1 _ (List.mem_of_getElem? (i := 48) rfl)) (B.1 _ (List.mem_of_getElem? (i := 47) rfl)) (by decide) rfl Ex pd__28_I_29_C rfl id (c_charAt B S ek hc) d24_27 rfl rfl rfl (by decide) (by decide) (by decide) (by decide) all0 fun v8 h8 z8 K8 q8 => ?_
        obtain ⟨rfl, rfl⟩ := q8
        show C.W h [] 0 0 (mkF K.m 30 #[.val (.ref x), .val (.int t), .val (.int (Int32.ofNat k)), s3] [.int c])
        refine C.istoreN #[.val (.ref x), .val (.int t), .val (.int (Int32.ofNat k)), .val (.int c)] d24_30 (XS.store1 rfl h3 rfl) ?_
        refine C.iloadN d24_31 rfl ?_
        refine C.iloadN d24_32 rfl ?_
        refine C.bipush (v := (48 : Int32)) d24_33 (by first | rfl | decide) ?_
        refine C.isub d24_35 ?_
        refine C.bipush (v := (57 : Int32)) d24_36 (by first | rfl | decide) ?_
        refine C.iloadN d24_38 rfl ?_
        refine C.isub d24_39 ?_
        refine C.ior d24_40 ?_
        refine C.iloadN d24_41 rfl ?_
        refine C.bipush (v := (97 : Int32)) d24_42 (by first | rfl | decide) ?_
        refine C.isub d24_44 ?_
        refine C.bipush (v := (102 : Int32)) d24_45 (by first | rfl | decide) ?_
        refine C.iloadN d24_47 rfl ?_
        refine C.isub d24_48 ?_
        refine C.ior d24_49 ?_
        refine C.iand d24_50 ?_
        refine C.ior d24_51 ?_
        refine C.istoreN #[.val (.ref x), .val (.int (t ||| (((c - (48 : Int32)) ||| ((57 : Int32) - c)) &&& ((c - (97 : Int32)) ||| ((102 : Int32) - c))))), .val (.int (Int32.ofNat k)), .val (.int c)] d24_52 rfl ?_
        refine C.iinc (z := (1 : Int32)) #[.val (.ref x), .val (.int (t ||| (((c - (48 : Int32)) ||| ((57 : Int32) - c)) &&& ((c - (97 : Int32)) ||| ((102 : Int32) - c))))), .val (.int ((Int32.ofNat k) + (1 : Int32))), .val (.int c)] d24_53 rfl (by first | rfl | decide) rfl ?_
        refine C.goto 17 d24_56 (by decide) (by decide) ?_
        rw [ofNat_succ]
        refine ih (k + 1) _ _ (by omega) (One.val rfl) ?_
        rw [hexbit (hp c (List.mem_of_getElem? hc)), hk, List.take_add_one, hc, ← Classical.not_and_iff_not_or_not]
        simp only [Option.toList_some, List.mem_append, List.mem_singleton]
        constructor
        · intro g q; exact g ⟨⟨q.1, fun z hz => q.2 z (Or.inl hz)⟩, q.2 c (Or.inr rfl)⟩
        · intro g q; exact g ⟨q.1.1, fun z hz => hz.elim (q.1.2 z) (fun e => e ▸ q.2)⟩
  refine C.icmp_ne 13 d24_6 (by decide) (by decide) (fun q9 => ?_) (fun q9 => ?_)
  · refine C.iconst (v := (-1 : Int32)) d24_13 (by first | rfl | decide) ?_
    exact J2 _ (by rw [show (-1 : Int32).toInt = -1 by decide]; omega)
  · refine C.iconst (v := (0 : Int32)) d24_9 (by first | rfl | decide) ?_
    refine C.goto 14 d24_10 (by decide) (by decide) ?_
    exact J2 _ (by rw [show (0 : Int32).toInt = 0 by decide]; omega)
set_option maxRecDepth 65536 in
set_option maxHeartbeats 40000000 in
theorem m_law  (B : Base Z a0) {p0 p1 p2 p3 p4 p5 : Int32} {h : Heap} : Met l Z EL True n0 x code maxLocals Jvm.Pilot.@@N@@.ret room_1 tables_1 #[.int p0, .int p1, .int p2, .int p3, .int p4, .int p5] h [] (fun v h' => v = some (.int 1)) := by
  refine Met.of (own := "com/example/halysis/halysis/LogRecordIsHashPinLaw") (nm := "law") #[.val (.int p0), .val (.int p1), .val (.int p2), .val (.int p3), .val (.int p4), .val (.int p5), .unset, .unset, .unset, .unset, .unset, .unset, .unset, .unset, .unset] (ew B) rfl rfl (plainFor_of_name pn_com_example_halysis_halysis_LogRecordIsHashPinLaw) (fun m => by first | (simp [entryFrame, mkF, argsToLocals, Value.category, maxLocals]; done) | rfl) fun K C => ?_
  have k0 : (0 : Int32).toInt = 0 := by decide
  have k1 : (1 : Int32).toInt = 1 := by decide
  have k2 : (2 : Int32).toInt = 2 := by decide
  have k3 : (3 : Int32).toInt = 3 := by decide
  have k64 : (64 : Int32).toInt = 64 := by decide
  refine C.iloadN at_0 rfl ?_
  refine C.i2c at_1 ?_
  obtain ⟨c0, e_c0⟩ : ∃ z, p0.toUInt32.toUInt16.toUInt32.toInt32 = z := ⟨_, rfl⟩
  refine C.topI e_c0 ?_
  have b0 : 0 ≤ c0.toInt ∧ c0.toInt < 65536 := by
    have q := c_i2c p0
    rw [e_c0] at q
    omega
  refine C.istore #[.val (.int p0), .val (.int p1), .val (.int p2), .val (.int p3), .val (.int p4), .val (.int p5), .val (.int c0), .unset, .unset, .unset, .unset, .unset, .unset, .unset, .unset] at_2 rfl ?_
  refine C.iloadN at_4 rfl ?_
  refine C.i2c at_5 ?_
  obtain ⟨c1, e_c1⟩ : ∃ z, p1.toUInt32.toUInt16.toUInt32.toInt32 = z := ⟨_, rfl⟩
  refine C.topI e_c1 ?_
  have b1 : 0 ≤ c1.toInt ∧ c1.toInt < 65536 := by
    have q := c_i2c p1
    rw [e_c1] at q
    omega
  refine C.istore #[.val (.int p0), .val (.int p1), .val (.int p2), .val (.int p3), .val (.int p4), .val (.int p5), .val (.int c0), .val (.int c1), .unset, .unset, .unset, .unset, .unset, .unset, .unset] at_6 rfl ?_
  refine C.iloadN at_8 rfl ?_
  refine C.i2c at_9 ?_
  obtain ⟨c2, e_c2⟩ : ∃ z, p2.toUInt32.toUInt16.toUInt32.toInt32 = z := ⟨_, rfl⟩
  refine C.topI e_c2 ?_
  have b2 : 0 ≤ c2.toInt ∧ c2.toInt < 65536 := by
    have q := c_i2c p2
    rw [e_c2] at q
    omega
  refine C.istore #[.val (.int p0), .val (.int p1), .val (.int p2), .val (.int p3), .val (.int p4), .val (.int p5), .val (.int c0), .val (.int c1), .val (.int c2), .unset, .unset, .unset, .unset, .unset, .unset] at_10 rfl ?_
  refine C.iload at_12 rfl ?_
  refine C.bipush (v := (7 : Int32)) at_14 (by first | rfl | decide) ?_
  refine C.iand at_16 ?_
  obtain ⟨m, e_m⟩ : ∃ z, (p5 &&& (7 : Int32)) = z := ⟨_, rfl⟩
  refine C.topI e_m ?_
  refine C.istore #[.val (.int p0), .val (.int p1), .val (.int p2), .val (.int p3), .val (.int p4), .val (.int p5), .val (.int c0), .val (.int c1), .val (.int c2), .val (.int m), .unset, .unset, .unset, .unset, .unset] at_17 rfl ?_
  refine C.iload at_19 rfl ?_
  have J1 : ∀ (hJ : Heap) (b k : Nat), Ary Z hJ b .char ((List.replicate k c0).map Value.int) → (k = 63 ∨ k = 65 ∨ k = 0 ∨ k = 1 ∨ k = 64) → C.W hJ [b] 1 65 (mkF K.m 90 #[.val (.int p0), .val (.int p1), .val (.int p2), .val (.int p3), .val (.int p4), .val (.int p5), .val (.int c0), .val (.int c1), .val (.int c2), .val (.int m), .val (.ref b), .unset, .unset, .unset, .unset] []) := by
    intro hJ b k Ab hk
    have lb := Ab.lt
    have ek : (Int32.ofNat k).toInt = k := ofNat_int (by omega)
    refine C.aload at_90 rfl rfl ?_
    refine C.alen (n := (Int32.ofNat k)) Ab (by rw [List.length_map, List.length_replicate]; exact ek) at_92 ?_
    refine C.istore #[.val (.int p0), .val (.int p1), .val (.int p2), .val (.int p3), .val (.int p4), .val (.int p5), .val (.int c0), .val (.int c1), .val (.int c2), .val (.int m), .val (.ref b), .val (.int (Int32.ofNat k)), .unset, .unset, .unset] at_93 rfl ?_
    refine C.iconst (v := (0 : Int32)) at_95 (by first | rfl | decide) ?_
    refine C.istore #[.val (.int p0), .val (.int p1), .val (.int p2), .val (.int p3), .val (.int p4), .val (.int p5), .val (.int c0), .val (.int c1), .val (.int c2), .val (.int m), .val (.ref b), .val (.int (Int32.ofNat k)), .val (.int (0 : Int32)), .unset, .unset] at_96 rfl ?_
    refine C.iconst (v := (0 : Int32)) at_98 (by first | rfl | decide) ?_
    refine C.istore #[.val (.int p0), .val (.int p1), .val (.int p2), .val (.int p3), .val (.int p4), .val (.int p5), .val (.int c0), .val (.int c1), .val (.int c2), .val (.int m), .val (.ref b), .val (.int (Int32.ofNat k)), .val (.int (0 : Int32)), .val (.int (0 : Int32)), .unset] at_99 rfl ?_
    refine C.iload at_101 rfl ?_
    have J2 : ∀ (hM : Heap) (cs : List Int32) (q1 q2 : Int32), Ary Z hM b .char (cs.map Value.int) → cs.length = k → (∀ c ∈ cs, 0 ≤ c.toInt ∧ c.toInt < 65536) → ((k = 64 ∧ ∀ c ∈ cs, HX c) ↔ (k = 64 ∧ HX c0 ∧ HX c2 ∧ (q1 = q2 ∨ HX c1))) → C.W hM [] 1 65 (mkF K.m 139 #[.val (.int p0), .val (.int p1), .val (.int p2), .val (.int p3), .val (.int p4), .val (.int p5), .val (.int c0), .val (.int c1), .val (.int c2), .val (.int m), .val (.ref b), .val (.int (Int32.ofNat k)), .val (.int q1), .val (.int q2), .unset] []) := by
      intro hM cs q1 q2 Am hlm hpm hiff
      have lb2 := Am.lt
      refine C.iload at_139 rfl ?_
      refine C.bipush (v := (64 : Int32)) at_141 (by first | rfl | decide) ?_
      have J3 : ∀ (e1 : Int32), e1 = (if (k = 64 ∧ HX c0 ∧ HX c2 ∧ (q1 = q2 ∨ HX c1)) then 1 else 0) → C.W hM [] 1 65 (mkF K.m 182 #[.val (.int p0), .val (.int p1), .val (.int p2), .val (.int p3), .val (.int p4), .val (.int p5), .val (.int c0), .val (.int c1), .val (.int c2), .val (.int m), .val (.ref b), .val (.int (Int32.ofNat k)), .val (.int q1), .val (.int q2), .unset] [.int e1]) := by
        intro e1 j3_0
        refine C.istore #[.val (.int p0), .val (.int p1), .val (.int p2), .val (.int p3), .val (.int p4), .val (.int p5), .val (.int c0), .val (.int c1), .val (.int c2), .val (.int m), .val (.ref b), .val (.int (Int32.ofNat k)), .val (.int q1), .val (.int q2), .val (.int e1)] at_182 rfl ?_
        refine C.new (B.1 _ (List.mem_of_getElem? (i := 2) rfl)) (B.1 _ (List.mem_of_getElem? (i := 3) rfl)) (B.1 _ (List.mem_of_getElem? (i := 4) rfl)) at_184 (by decide) (by decide) fun h4 a5 g4 z4 o4 K4 En4 Dn4 => ?_
        show C.W h4 [a5] 2 69 (mkF K.m 187 #[.val (.int p0), .val (.int p1), .val (.int p2), .val (.int p3), .val (.int p4), .val (.int p5), .val (.int c0), .val (.int c1), .val (.int c2), .val (.int m), .val (.ref b), .val (.int (Int32.ofNat k)), .val (.int q1), .val (.int q2), .val (.int e1)] [.ref a5])
        have Fv : Fld Z h4 a5 "java/lang/String" "value" "[B" (.null) := Dn4 (Or.inr (B.1 _ (List.mem_of_getElem? (i := 30) rfl))) (ty := (.array .byte)) (by decide)
        have Fc : Fld Z h4 a5 "java/lang/String" "coder" "B" (.int 0) := Dn4 (Or.inr (B.1 _ (List.mem_of_getElem? (i := 28) rfl))) (ty := .byte) (by decide)
        refine C.dup rfl at_187 ?_
        refine C.aload at_188 rfl rfl ?_
        have Am_6 := (Am.keep K4 nin0)
        refine C.callN a5 [.ref b] [.ref a5] 1 (B.1 _ (List.mem_of_getElem? (i := 5) rfl)) (B.1 _ (List.mem_of_getElem? (i := 6) rfl)) (B.1 _ (List.mem_of_getElem? (i := 7) rfl)) rfl (by decide) pd__28__5b_C_29_V rfl id (c_init1 B trivial En4 Fv Fc Am_6 (by omega) hpm) at_190 rfl rfl rfl (by decide) (by decide) (by decide) (by decide) (allS (List.mem_of_getElem? (i := 0) rfl) all0) fun v7 h7 z7 K7 q7 => ?_
        obtain ⟨rfl, S⟩ := q7
        show C.W h7 [a5] 6 264 (mkF K.m 193 #[.val (.int p0), .val (.int p1), .val (.int p2), .val (.int p3), .val (.int p4), .val (.int p5), .val (.int c0), .val (.int c1), .val (.int c2), .val (.int m), .val (.ref b), .val (.int (Int32.ofNat k)), .val (.int q1), .val (.int q2), .val (.int e1)] [.ref a5])
        refine C.callS [.ref a5] [] 0 (B.1 _ (List.mem_of_getElem? (i := 31) rfl)) (B.1 _ (List.mem_of_getElem? (i := 32) rfl)) (B.1 _ (List.mem_of_getElem? (i := 33) rfl)) (B.1 _ (List.mem_of_getElem? (i := 34) rfl)) (by decide) pd__28_Ljava_2f_lang_2f_String_3b__29_Z rfl id (c_isHash B S (by omega) hpm) at_193 rfl rfl rfl (by decide) (by decide) (by decide) (by decide) all0 fun v8 h8 z8 K8 q8 => ?_
        obtain ⟨hq, rfl⟩ := q8
        rcases hq with ⟨rfl, hq⟩ | ⟨rfl, hq⟩
        · skip
          show C.W h7 [a5] 6 264 (mkF K.m 196 #[.val (.int p0), .val (.int p1), .val (.int p2), .val (.int p3), .val (.int p4), .val (.int p5), .val (.int c0), .val (.int c1), .val (.int c2), .val (.int m), .val (.ref b), .val (.int (Int32.ofNat k)), .val (.int q1), .val (.int q2), .val (.int e1)] [.int (1 : Int32)])
          rw [hlm, hiff] at hq
          rw [if_pos hq] at j3_0
          refine C.iload at_196 rfl ?_
          refine C.icmp_ne 205 at_198 (by decide) (by decide) (fun q9 => ?_) (fun q9 => ?_)
          · exfalso; rw [j3_0] at q9; exact q9 rfl
          · refine C.iconst (v := (1 : Int32)) at_201 (by first | rfl | decide) ?_
            refine C.goto 206 at_202 (by decide) (by decide) ?_
            exact C.ireturn (t := .boolean) rfl (by simp) rfl at_206 (by decide) (by decide) rfl
        · skip
          show C.W h7 [a5] 6 264 (mkF K.m 196 #[.val (.int p0), .val (.int p1), .val (.int p2), .val (.int p3), .val (.int p4), .val (.int p5), .val (.int c0), .val (.int c1), .val (.int c2), .val (.int m), .val (.ref b), .val (.int (Int32.ofNat k)), .val (.int q1), .val (.int q2), .val (.int e1)] [.int (0 : Int32)])
          rw [hlm, hiff] at hq
          rw [if_neg hq] at j3_0
          refine C.iload at_196 rfl ?_
          refine C.icmp_ne 205 at_198 (by decide) (by decide) (fun q10 => ?_) (fun q10 => ?_)
          · exfalso; rw [j3_0] at q10; exact q10 rfl
          · refine C.iconst (v := (1 : Int32)) at_201 (by first | rfl | decide) ?_
            refine C.goto 206 at_202 (by decide) (by decide) ?_
            exact C.ireturn (t := .boolean) rfl (by simp) rfl at_206 (by decide) (by decide) rfl
      refine C.icmp_ne 181 at_143 (by decide) (by decide) (fun q11 => ?_) (fun q11 => ?_)
      · refine C.iconst (v := (0 : Int32)) at_181 (by first | rfl | decide) ?_
        exact J3 0 (by rw [if_neg]; exact fun q => by omega)
      · refine C.iload at_146 rfl ?_
        refine C.callS [.int c0] [] 0 (B.1 _ (List.mem_of_getElem? (i := 74) rfl)) (B.1 _ (List.mem_of_getElem? (i := 75) rfl)) (B.1 _ (List.mem_of_getElem? (i := 72) rfl)) (B.1 _ (List.mem_of_getElem? (i := 76) rfl)) (by decide) pd__28_C_29_Z rfl id (c_hex B (c := c0)) at_148 rfl rfl rfl (by decide) (by decide) (by decide) (by decide) all0 fun v12 h12 z12 K12 q12 => ?_
        obtain ⟨rfl, rfl⟩ := q12
        show C.W hM [] 1 65 (mkF K.m 151 #[.val (.int p0), .val (.int p1), .val (.int p2), .val (.int p3), .val (.int p4), .val (.int p5), .val (.int c0), .val (.int c1), .val (.int c2), .val (.int m), .val (.ref b), .val (.int (Int32.ofNat k)), .val (.int q1), .val (.int q2), .unset] [.int (if HX c0 then (1 : Int32) else 0)])
        refine C.ifc_eq 181 at_151 (by decide) (by decide) (fun q14 => ?_) (fun q14 => ?_)
        · have hb13 : ¬ (HX c0) := fun e => by rw [if_pos e] at q14; revert q14; decide
          refine C.iconst (v := (0 : Int32)) at_181 (by first | rfl | decide) ?_
          exact J3 0 (by rw [if_neg]; exact fun q => hb13 q.2.1)
        · have hb13 : HX c0 := Classical.byContradiction fun e => by rw [if_neg e] at q14; exact q14 rfl
          refine C.iload at_154 rfl ?_
          refine C.callS [.int c2] [] 0 (B.1 _ (List.mem_of_getElem? (i := 74) rfl)) (B.1 _ (List.mem_of_getElem? (i := 75) rfl)) (B.1 _ (List.mem_of_getElem? (i := 72) rfl)) (B.1 _ (List.mem_of_getElem? (i := 76) rfl)) (by decide) pd__28_C_29_Z rfl id (c_hex B (c := c2)) at_156 rfl rfl rfl (by decide) (by decide) (by decide) (by decide) all0 fun v15 h15 z15 K15 q15 => ?_
          obtain ⟨rfl, rfl⟩ := q15
          show C.W hM [] 1 65 (mkF K.m 159 #[.val (.int p0), .val (.int p1), .val (.int p2), .val (.int p3), .val (.int p4), .val (.int p5), .val (.int c0), .val (.int c1), .val (.int c2), .val (.int m), .val (.ref b), .val (.int (Int32.ofNat k)), .val (.int q1), .val (.int q2), .unset] [.int (if HX c2 then (1 : Int32) else 0)])
          refine C.ifc_eq 181 at_159 (by decide) (by decide) (fun q17 => ?_) (fun q17 => ?_)
          · have hb16 : ¬ (HX c2) := fun e => by rw [if_pos e] at q17; revert q17; decide
            refine C.iconst (v := (0 : Int32)) at_181 (by first | rfl | decide) ?_
            exact J3 0 (by rw [if_neg]; exact fun q => hb16 q.2.2.1)
          · have hb16 : HX c2 := Classical.byContradiction fun e => by rw [if_neg e] at q17; exact q17 rfl
            refine C.iload at_162 rfl ?_
            refine C.iload at_164 rfl ?_
            refine C.icmp_eq 177 at_166 (by decide) (by decide) (fun q18 => ?_) (fun q18 => ?_)
            · refine C.iconst (v := (1 : Int32)) at_177 (by first | rfl | decide) ?_
              refine C.goto 182 at_178 (by decide) (by decide) ?_
              exact J3 1 (by rw [if_pos]; exact ⟨by omega, hb13, hb16, Or.inl (Int32.toInt_inj.mp q18)⟩)
            · refine C.iload at_169 rfl ?_
              refine C.callS [.int c1] [] 0 (B.1 _ (List.mem_of_getElem? (i := 74) rfl)) (B.1 _ (List.mem_of_getElem? (i := 75) rfl)) (B.1 _ (List.mem_of_getElem? (i := 72) rfl)) (B.1 _ (List.mem_of_getElem? (i := 76) rfl)) (by decide) pd__28_C_29_Z rfl id (c_hex B (c := c1)) at_171 rfl rfl rfl (by decide) (by decide) (by decide) (by decide) all0 fun v19 h19 z19 K19 q19 => ?_
              obtain ⟨rfl, rfl⟩ := q19
              show C.W hM [] 1 65 (mkF K.m 174 #[.val (.int p0), .val (.int p1), .val (.int p2), .val (.int p3), .val (.int p4), .val (.int p5), .val (.int c0), .val (.int c1), .val (.int c2), .val (.int m), .val (.ref b), .val (.int (Int32.ofNat k)), .val (.int q1), .val (.int q2), .unset] [.int (if HX c1 then (1 : Int32) else 0)])
              refine C.ifc_eq 181 at_174 (by decide) (by decide) (fun q21 => ?_) (fun q21 => ?_)
              · have hb20 : ¬ (HX c1) := fun e => by rw [if_pos e] at q21; revert q21; decide
                refine C.iconst (v := (0 : Int32)) at_181 (by first | rfl | decide) ?_
                exact J3 0 (by rw [if_neg]; exact fun q => q.2.2.2.elim (fun e => q18 (by rw [e])) hb20)
              · have hb20 : HX c1 := Classical.byContradiction fun e => by rw [if_neg e] at q21; exact q21 rfl
                refine C.iconst (v := (1 : Int32)) at_177 (by first | rfl | decide) ?_
                refine C.goto 182 at_178 (by decide) (by decide) ?_
                exact J3 1 (by rw [if_pos]; exact ⟨by omega, hb13, hb16, Or.inr hb20⟩)
    refine C.ifc_le 139 at_103 (by decide) (by decide) (fun q22 => ?_) (fun q22 => ?_)
    · exact C.more (by decide) (by decide) (C.sub all0 (J2 _ (List.replicate k c0) _ _ Ab (List.length_replicate ..) (fun c hc => by rw [(List.mem_replicate.mp hc).2]; exact b0) (by constructor <;> (intro q; exact absurd q.1 (by omega)))))
    · have hk0 : (Int32.ofNat k) ≠ 0 := fun e => by have z0 : (0 : Int32).toInt = 0 := rfl; have e2 := congrArg Int32.toInt e; omega
      refine C.iloadN at_106 rfl ?_
      refine C.ldcInt (v := (2147483647 : Int32)) (B.1 _ (List.mem_of_getElem? (i := 1) rfl)) at_107 ?_
      refine C.iand at_109 ?_
      refine C.iload at_110 rfl ?_
      refine C.irem (by assumption) at_112 ?_
      obtain ⟨q1, e_q1⟩ : ∃ z, ((p3 &&& (2147483647 : Int32)) % (Int32.ofNat k)) = z := ⟨_, rfl⟩
      refine C.topI e_q1 ?_
      have b_q1 : 0 ≤ q1.toInt ∧ q1.toInt < k := by
        have q := rem_pos (y := Int32.ofNat k) k (and_pos p3) ek (by omega)
        rw [e_q1] at q
        omega
      refine C.istore #[.val (.int p0), .val (.int p1), .val (.int p2), .val (.int p3), .val (.int p4), .val (.int p5), .val (.int c0), .val (.int c1), .val (.int c2), .val (.int m), .val (.ref b), .val (.int (Int32.ofNat k)), .val (.int q1), .val (.int (0 : Int32)), .unset] at_113 rfl ?_
      refine C.iload at_115 rfl ?_
      refine C.ldcInt (v := (2147483647 : Int32)) (B.1 _ (List.mem_of_getElem? (i := 1) rfl)) at_117 ?_
      refine C.iand at_119 ?_
      refine C.iload at_120 rfl ?_
      refine C.irem (by assumption) at_122 ?_
      obtain ⟨q2, e_q2⟩ : ∃ z, ((p4 &&& (2147483647 : Int32)) % (Int32.ofNat k)) = z := ⟨_, rfl⟩
      refine C.topI e_q2 ?_
      have b_q2 : 0 ≤ q2.toInt ∧ q2.toInt < k := by
        have q := rem_pos (y := Int32.ofNat k) k (and_pos p4) ek (by omega)
        rw [e_q2] at q
        omega
      refine C.istore #[.val (.int p0), .val (.int p1), .val (.int p2), .val (.int p3), .val (.int p4), .val (.int p5), .val (.int c0), .val (.int c1), .val (.int c2), .val (.int m), .val (.ref b), .val (.int (Int32.ofNat k)), .val (.int q1), .val (.int q2), .unset] at_123 rfl ?_
      refine C.aload at_125 rfl rfl ?_
      refine C.iload at_127 rfl ?_
      refine C.iload at_129 rfl ?_
      refine C.castore q1.toInt.toNat Ab (by omega) (by rw [List.length_map, List.length_replicate]; omega) b1.1 b1.2 at_131 (List.mem_of_getElem? (i := 0) rfl) fun h23 z23 K23 Aw23 => ?_
      show C.W h23 [b] 1 65 (mkF K.m 132 #[.val (.int p0), .val (.int p1), .val (.int p2), .val (.int p3), .val (.int p4), .val (.int p5), .val (.int c0), .val (.int c1), .val (.int c2), .val (.int m), .val (.ref b), .val (.int (Int32.ofNat k)), .val (.int q1), .val (.int q2), .unset] [])
      rw [← List.map_set] at Aw23
      refine C.aload at_132 rfl rfl ?_
      refine C.iload at_134 rfl ?_
      refine C.iload at_136 rfl ?_
      refine C.castore q2.toInt.toNat Aw23 (by omega) (by rw [List.length_map, List.length_set, List.length_replicate]; omega) b2.1 b2.2 at_138 (List.mem_of_getElem? (i := 0) rfl) fun h24 z24 K24 Aw24 => ?_
      show C.W h24 [b] 1 65 (mkF K.m 139 #[.val (.int p0), .val (.int p1), .val (.int p2), .val (.int p3), .val (.int p4), .val (.int p5), .val (.int c0), .val (.int c1), .val (.int c2), .val (.int m), .val (.ref b), .val (.int (Int32.ofNat k)), .val (.int q1), .val (.int q2), .unset] [])
      rw [← List.map_set] at Aw24
      exact C.more (by decide) (by decide) (C.sub all0 (J2 _ _ _ _ Aw24 (by simp) (hexnew (H := fun c => 0 ≤ c.toInt ∧ c.toInt < 65536) b0 b1 b2) (by
        by_cases e : k = 64
        · rw [hexset (by omega) (by omega) (by omega)]
          have e2 : q1.toInt.toNat = q2.toInt.toNat ↔ q1 = q2 := ⟨fun g => Int32.toInt_inj.mp (by omega), fun g => by rw [g]⟩
          rw [e2]
        · constructor <;> (intro q; exact absurd q.1 e))))
  refine C.ifc_ne 34 at_21 (by decide) (by decide) (fun q25 => ?_) (fun q25 => ?_)
  · refine C.iload at_34 rfl ?_
    refine C.iconst (v := (1 : Int32)) at_36 (by first | rfl | decide) ?_
    refine C.icmp_ne 50 at_37 (by decide) (by decide) (fun q26 => ?_) (fun q26 => ?_)
    · refine C.iload at_50 rfl ?_
      refine C.iconst (v := (2 : Int32)) at_52 (by first | rfl | decide) ?_
      refine C.icmp_ne 64 at_53 (by decide) (by decide) (fun q27 => ?_) (fun q27 => ?_)
      · refine C.iload at_64 rfl ?_
        refine C.iconst (v := (3 : Int32)) at_66 (by first | rfl | decide) ?_
        refine C.icmp_ne 83 at_67 (by decide) (by decide) (fun q28 => ?_) (fun q28 => ?_)
        · refine C.iload at_83 rfl ?_
          refine C.callSo [.int c0] [] 0 (B.1 _ (List.mem_of_getElem? (i := 70) rfl)) (B.1 _ (List.mem_of_getElem? (i := 71) rfl)) (B.1 _ (List.mem_of_getElem? (i := 72) rfl)) (B.1 _ (List.mem_of_getElem? (i := 73) rfl)) (by decide) pd__28_C_29__5b_C rfl (c_of64 (it := False) B b0) at_85 rfl rfl rfl (by decide) (by decide) (by decide) (by decide) all0 fun v29 h29 z29 K29 q29 => ?_
          obtain ⟨b, rfl, ld, lt, Ab⟩ := q29
          refine ⟨[b], fun x hx => by cases List.mem_singleton.mp hx; exact ⟨ld, lt⟩, ?_⟩
          show C.W h29 [b] 1 64 (mkF K.m 88 #[.val (.int p0), .val (.int p1), .val (.int p2), .val (.int p3), .val (.int p4), .val (.int p5), .val (.int c0), .val (.int c1), .val (.int c2), .val (.int m), .unset, .unset, .unset, .unset, .unset] [.ref b])
          refine C.astore #[.val (.int p0), .val (.int p1), .val (.int p2), .val (.int p3), .val (.int p4), .val (.int p5), .val (.int c0), .val (.int c1), .val (.int c2), .val (.int m), .val (.ref b), .unset, .unset, .unset, .unset] at_88 rfl rfl ?_
          exact C.more (by decide) (by decide) (C.sub (allS (List.mem_of_getElem? (i := 0) rfl) all0) (J1 _ b 64 Ab (by omega)))
        · refine C.iconst (v := (1 : Int32)) at_70 (by first | rfl | decide) ?_
          refine C.newarr 1 1 (B.1 _ (List.mem_of_getElem? (i := 0) rfl)) at_71 (by first | rfl | decide) (by decide) (by decide) (by decide) (by decide) fun h30 a31 g30 z30 o30 K30 An30 => ?_
          have An30 : Ary Z h30 a31 .char [.int 0] := An30
          show C.W h30 [a31] 1 1 (mkF K.m 73 #[.val (.int p0), .val (.int p1), .val (.int p2), .val (.int p3), .val (.int p4), .val (.int p5), .val (.int c0), .val (.int c1), .val (.int c2), .val (.int m), .unset, .unset, .unset, .unset, .unset] [.ref a31])
          refine C.dup rfl at_73 ?_
          refine C.iconst (v := (0 : Int32)) at_74 (by first | rfl | decide) ?_
          refine C.iload at_75 rfl ?_
          refine C.castore 0 An30 (by first | rfl | decide) (Nat.le_of_ble_eq_true rfl) (by omega) (by omega) at_77 (List.mem_of_getElem? (i := 0) rfl) fun h32 z32 K32 Aw32 => ?_
          have Aw32 : Ary Z h32 a31 .char [.int c0] := Aw32
          show C.W h32 [a31] 1 1 (mkF K.m 78 #[.val (.int p0), .val (.int p1), .val (.int p2), .val (.int p3), .val (.int p4), .val (.int p5), .val (.int c0), .val (.int c1), .val (.int c2), .val (.int m), .unset, .unset, .unset, .unset, .unset] [.ref a31])
          refine C.astore #[.val (.int p0), .val (.int p1), .val (.int p2), .val (.int p3), .val (.int p4), .val (.int p5), .val (.int c0), .val (.int c1), .val (.int c2), .val (.int m), .val (.ref a31), .unset, .unset, .unset, .unset] at_78 rfl rfl ?_
          refine C.goto 90 at_80 (by decide) (by decide) ?_
          exact C.more (by decide) (by decide) (C.sub (allS (List.mem_of_getElem? (i := 0) rfl) all0) (J1 _ a31 1 Aw32 (by omega)))
      · refine C.iconst (v := (0 : Int32)) at_56 (by first | rfl | decide) ?_
        refine C.newarr 0 0 (B.1 _ (List.mem_of_getElem? (i := 0) rfl)) at_57 (by first | rfl | decide) (by decide) (by decide) (by decide) (by decide) fun h33 a34 g33 z33 o33 K33 An33 => ?_
        have An33 : Ary Z h33 a34 .char [] := An33
        show C.W h33 [a34] 1 0 (mkF K.m 59 #[.val (.int p0), .val (.int p1), .val (.int p2), .val (.int p3), .val (.int p4), .val (.int p5), .val (.int c0), .val (.int c1), .val (.int c2), .val (.int m), .unset, .unset, .unset, .unset, .unset] [.ref a34])
        refine C.astore #[.val (.int p0), .val (.int p1), .val (.int p2), .val (.int p3), .val (.int p4), .val (.int p5), .val (.int c0), .val (.int c1), .val (.int c2), .val (.int m), .val (.ref a34), .unset, .unset, .unset, .unset] at_59 rfl rfl ?_
        refine C.goto 90 at_61 (by decide) (by decide) ?_
        exact C.more (by decide) (by decide) (C.sub (allS (List.mem_of_getElem? (i := 0) rfl) all0) (J1 _ a34 0 An33 (by omega)))
    · refine C.iload at_40 rfl ?_
      refine C.callSo [.int c0] [] 0 (B.1 _ (List.mem_of_getElem? (i := 109) rfl)) (B.1 _ (List.mem_of_getElem? (i := 110) rfl)) (B.1 _ (List.mem_of_getElem? (i := 72) rfl)) (B.1 _ (List.mem_of_getElem? (i := 111) rfl)) (by decide) pd__28_C_29__5b_C rfl (c_of65 (it := False) B b0) at_42 rfl rfl rfl (by decide) (by decide) (by decide) (by decide) all0 fun v35 h35 z35 K35 q35 => ?_
      obtain ⟨b, rfl, ld, lt, Ab⟩ := q35
      refine ⟨[b], fun x hx => by cases List.mem_singleton.mp hx; exact ⟨ld, lt⟩, ?_⟩
      show C.W h35 [b] 1 65 (mkF K.m 45 #[.val (.int p0), .val (.int p1), .val (.int p2), .val (.int p3), .val (.int p4), .val (.int p5), .val (.int c0), .val (.int c1), .val (.int c2), .val (.int m), .unset, .unset, .unset, .unset, .unset] [.ref b])
      refine C.astore #[.val (.int p0), .val (.int p1), .val (.int p2), .val (.int p3), .val (.int p4), .val (.int p5), .val (.int c0), .val (.int c1), .val (.int c2), .val (.int m), .val (.ref b), .unset, .unset, .unset, .unset] at_45 rfl rfl ?_
      refine C.goto 90 at_47 (by decide) (by decide) ?_
      exact C.more (by decide) (by decide) (C.sub (allS (List.mem_of_getElem? (i := 0) rfl) all0) (J1 _ b 65 Ab (by omega)))
  · refine C.iload at_24 rfl ?_
    refine C.callSo [.int c0] [] 0 (B.1 _ (List.mem_of_getElem? (i := 106) rfl)) (B.1 _ (List.mem_of_getElem? (i := 107) rfl)) (B.1 _ (List.mem_of_getElem? (i := 72) rfl)) (B.1 _ (List.mem_of_getElem? (i := 108) rfl)) (by decide) pd__28_C_29__5b_C rfl (c_of63 (it := False) B b0) at_26 rfl rfl rfl (by decide) (by decide) (by decide) (by decide) all0 fun v36 h36 z36 K36 q36 => ?_
    obtain ⟨b, rfl, ld, lt, Ab⟩ := q36
    refine ⟨[b], fun x hx => by cases List.mem_singleton.mp hx; exact ⟨ld, lt⟩, ?_⟩
    show C.W h36 [b] 1 63 (mkF K.m 29 #[.val (.int p0), .val (.int p1), .val (.int p2), .val (.int p3), .val (.int p4), .val (.int p5), .val (.int c0), .val (.int c1), .val (.int c2), .val (.int m), .unset, .unset, .unset, .unset, .unset] [.ref b])
    refine C.astore #[.val (.int p0), .val (.int p1), .val (.int p2), .val (.int p3), .val (.int p4), .val (.int p5), .val (.int c0), .val (.int c1), .val (.int c2), .val (.int m), .val (.ref b), .unset, .unset, .unset, .unset] at_29 rfl rfl ?_
    refine C.goto 90 at_31 (by decide) (by decide) ?_
    exact C.more (by decide) (by decide) (C.sub (allS (List.mem_of_getElem? (i := 0) rfl) all0) (J1 _ b 63 Ab (by omega)))
set_option maxRecDepth 65536 in
set_option maxHeartbeats 40000000 in
theorem comes_1 {Post : Tables → Env → Array Value → State → Outcome → State → Prop} (hpost : ∀ tb e args s v u, (limb_1_1.after args s (.returned v) u = true ∧ limb_1_2.after args s (.returned v) u = true ∧ True) → ReturnedEndW s (.returned v) u (Jvm.fieldLocs frame_1_writes args s ++ Jvm.arrayLocs frame_1_arrays args s ++ Jvm.staticLocs frame_1_statics s) 24 1664 → Post tb e args s (.returned v) u) :
    ArmFor flags0 classFile x code maxLocals ret World_1 tables_1 room_1 Calls_1 rest_1 Pre_1 Post := by
  intro l hfl _ _ p e ha hc hk s m args below hf hA hF happ hP
  obtain ⟨hcalls, hrest, hpre⟩ := hP
  obtain ⟨-, -, -, hnamed, -, -, -, hat⟩ := (Spec.applies_iff hf).mp happ
  obtain ⟨hg, hn⟩ := and_e (Cond.before_iff.mp (show (Jvm.Cond.and given_1 narrow_1).before args s = true from hpre))
  obtain ⟨hct, r0⟩ := and_e hg
  obtain ⟨w0, w1, w2, w3, w4, w5, rfl⟩ : ∃ w0 w1 w2 w3 w4 w5 : Value, args = #[w0, w1, w2, w3, w4, w5] := by
    have hs : args.size = 6 := by simpa [Cond.value, given_1] using hct
    obtain ⟨L⟩ := args
    match L, hs with
    | [w0, w1, w2, w3, w4, w5], _ => exact ⟨w0, w1, w2, w3, w4, w5, rfl⟩
  have hw := fun d (hd : d ∈ tables_1) => atoms_spec (ws := Jvm.Cond.code x code maxLocals ret :: tables_1) hat d (List.mem_cons_of_mem _ hd)
  obtain ⟨hsets, hown0⟩ := atoms_of _ (rest_1_c_eq ▸ (show rest_1_c.before _ s = true from hrest))
  have n3 := not_v (Cond.before_iff.mp (hsets _ (List.mem_of_getElem? (i := 2) rfl)))
  obtain ⟨zc, ezc⟩ := is_v (Cond.before_iff.mp (hsets _ (List.mem_of_getElem? (i := 1) rfl)))
  have Szc : Sta s s.heap "java/lang/String" "COMPACT_STRINGS" "Z" (.int zc) := Sta.start ezc (Or.inl (hsets _ (List.mem_of_getElem? (i := 0) rfl)))
  have czc : ¬ (zc = (0 : Int32)) := gotF (Cond.eq_ints ezc (Term.int_eval (0))) n3
  obtain ⟨fm, efm, rfm⟩ := isR_v (Cond.before_iff.mp (hsets _ (List.mem_of_getElem? (i := 8) rfl)))
  have Sfm : Sta s s.heap "jdk/internal/util/Preconditions" "SIOOBE_FORMATTER" "Ljava/util/function/BiFunction;" fm := Sta.start efm (Or.inl (hsets _ (List.mem_of_getElem? (i := 7) rfl)))
  obtain ⟨g0, r1⟩ := and_e r0
  obtain ⟨i0, e0⟩ := is_v g0
  obtain rfl : w0 = (.int i0) := Option.some.inj e0
  obtain ⟨g1, r2⟩ := and_e r1
  obtain ⟨i1, e1⟩ := is_v g1
  obtain rfl : w1 = (.int i1) := Option.some.inj e1
  obtain ⟨g2, r3⟩ := and_e r2
  obtain ⟨i2, e2⟩ := is_v g2
  obtain rfl : w2 = (.int i2) := Option.some.inj e2
  obtain ⟨g3, r4⟩ := and_e r3
  obtain ⟨i3, e3⟩ := is_v g3
  obtain rfl : w3 = (.int i3) := Option.some.inj e3
  obtain ⟨g4, r5⟩ := and_e r4
  obtain ⟨i4, e4⟩ := is_v g4
  obtain rfl : w4 = (.int i4) := Option.some.inj e4
  obtain ⟨i5, e5⟩ := is_v r5
  obtain rfl : w5 = (.int i5) := Option.some.inj e5
  have Sad : Sta s s.heap "java/lang/StringUTF16" "$assertionsDisabled" "Z" (.int 1) := Sta.start (eqv_i (Term.int_eval (1)) (Cond.before_iff.mp (hsets _ (List.mem_of_getElem? (i := 12) rfl)))) (Or.inl (hsets _ (List.mem_of_getElem? (i := 11) rfl)))
  have Shi : Sta s s.heap "java/lang/StringUTF16" "HI_BYTE_SHIFT" "I" (.int 0) := Sta.start (eqv_i (Term.int_eval (0)) (Cond.before_iff.mp (hsets _ (List.mem_of_getElem? (i := 15) rfl)))) (Or.inl (hsets _ (List.mem_of_getElem? (i := 14) rfl)))
  have Slo : Sta s s.heap "java/lang/StringUTF16" "LO_BYTE_SHIFT" "I" (.int 8) := Sta.start (eqv_i (Term.int_eval (8)) (Cond.before_iff.mp (hsets _ (List.mem_of_getElem? (i := 18) rfl)))) (Or.inl (hsets _ (List.mem_of_getElem? (i := 17) rfl)))
  have B : Base s _ := ⟨hw, ⟨zc, Szc, czc⟩, ⟨fm, Sfm, rfm⟩, Sad, Shi, Slo⟩
  have hCH : CHv s EL s.vm s.heap := CHv.start (ew B) (fun p hp => hcalls.1 p hp) (hsets _ (List.mem_of_getElem? (i := 2) rfl)) (B.1 _ (List.mem_of_getElem? (i := 20) rfl)) (B.1 _ (List.mem_of_getElem? (i := 3) rfl))
  obtain ⟨n, o, h1, h2, h3, v, L, rfl, ⟨hq, -, N⟩, hC, hR⟩ := m_law (l := l) (n0 := s.heap.size) (h := s.heap) (p0 := i0) (p1 := i1) (p2 := i2) (p3 := i3) (p4 := i4) (p5 := i5) B p e ha hc hk s m _ below hf ((Spec.applies_iff_loose hf).mp happ).1 ⟨rfl, State.Warmed39.refl s, rfl, hCH, Old.start s, fun _ q => nomatch q⟩ trivial
  obtain rfl := hq
  exact ⟨n, _, h1, h2, h3, hpost _ _ _ _ _ _ ⟨Cond.after_iff.mpr rfl, Cond.after_iff.mpr (eq_i res_at (Term.int_eval (1)) rfl), trivial⟩ ⟨hR.1, hR.2.1, hR.2.2.1, (hR.2.2.2.sift fun y hy => Or.inr (N y hy)).mono (by decide) (by decide)⟩⟩
theorem main_1_1 : Claimed_1_1 := comes_1 fun _ _ _ _ _ _ h hF => ⟨h.1, hF⟩
theorem main_1_2 : Claimed_1_2 := comes_1 fun _ _ _ _ _ _ h hF => ⟨h.2.1, hF⟩
end Jvm.Pilot.@@N@@
namespace Jvm.Pilot.@@N@@
open Jvm Jvm.ClassFile Sem Op Lib Jvm.Free Jvm.Stand Jvm.Pilot.@@N@@.Jvm.D
/-! MADE BY PROGRAM (witnessworld.py) out of the Statement's table words and the real class files: 20 classes; the members and pool entries that the words name. The judged class is class 1, her method 1. -/
namespace start1
open Jvm.ClassFile
def u (s : String) : CpInfo := .utf8 (stringToUtf16 s)
/-- a pool by its gaps: so many unusable entries, then the entry; so many at the end -/
def gap : Nat → List CpInfo → List CpInfo
  | 0, r => r
  | n + 1, r => .unusable :: gap n r
def poolList (es : List (Nat × CpInfo)) (last : Nat) : List CpInfo := es.foldr (fun e r => gap e.1 (e.2 :: r)) (gap last [])
def pool (es : List (Nat × CpInfo)) (last : Nat) : Array CpInfo := ⟨poolList es last⟩
def fileOf (pool : Array CpInfo) (this : Nat) (attrs : Array Attribute := #[]) (ms : Array MethodInfo := #[]) (fl : Nat := 33) (sup : Nat := 0) (ifs : Array Nat := #[]) (fds : Array FieldInfo := #[]) : ClassFile where
  minorVersion := 0
  majorVersion := 65
  constantPool := pool
  accessFlags := fl
  thisClass := this
  superClass := sup
  interfaces := ifs
  fields := fds
  methods := ms
  attributes := attrs
def plain (name : String) (sup : Option ClassId) : Class where
  name := name
  kind := .ordinary
  loader := none
  accessFlags := 33
  super := sup
  interfaces := #[]
  cf := none
  fields := #[]
  methods := #[]
  instanceTypes := #[]
  staticTypes := #[]
  resolved := #[]
  callSites := []
  init := .initialized
  statics := none
  mirror := none

def pool0 : Array CpInfo := pool [(5, u "<init>"), (0, u "()V"), (1, .class_ 10), (1, u "java/lang/Object")] 113

def k0c0 : Code := { maxStack := 0, maxLocals := 1, code := object_method_1_code, exceptionTable := #[], attributes := #[] }
def k0m0 : Method := { name := "<init>", desc := "()V", sig := { parameters := [], returnType := none }, accessFlags := 1, code := some k0c0 }
/-- java/lang/Object -/
def k0 : Class := { plain "java/lang/Object" none with
  accessFlags := 33
  interfaces := #[]
  cf := some (fileOf pool0 8 #[] #[{ accessFlags := 1, nameIndex := 5, descriptorIndex := 6, attributes := #[] }] 33 0 #[] #[])
  fields := #[]
  methods := #[k0m0]
  instanceTypes := #[]
  staticTypes := #[]
  resolved := Array.replicate 124 none
  statics := none }

def pool1 : Array CpInfo := pool [(2, .class_ 4), (1, u "java/lang/Object"), (0, u "<init>"), (0, u "()V"), (0, .methodref 8 9), (0, .class_ 10), (0, .nameAndType 11 12), (0, u "com/example/halysis/halysis/LogRecordIsHashPinLaw"), (0, u "of63"), (0, u "(C)[C"), (0, .methodref 8 14), (0, .nameAndType 15 12), (0, u "of65"), (0, .methodref 8 17), (0, .nameAndType 18 12), (0, u "of64"), (0, .integer 2147483647), (0, .methodref 8 21), (0, .nameAndType 22 23), (0, u "isHex"), (0, u "(C)Z"), (0, .class_ 25), (0, u "java/lang/String"), (0, .methodref 24 27), (0, .nameAndType 5 28), (0, u "([C)V"), (0, .methodref 30 31), (0, .class_ 32), (0, .nameAndType 33 34), (0, u "com/example/halysis/halysis/LogRecord"), (0, u "isHash"), (0, u "(Ljava/lang/String;)Z"), (2, u "law"), (0, u "(IIIIII)Z")] 5

def k1m0 : Method := { name := "<init>", desc := "()V", sig := { parameters := [], returnType := none }, accessFlags := 1, code := none }
def k1c1 : Code := { maxStack := 4, maxLocals := 15, code := code, exceptionTable := #[], attributes := #[] }
def k1m1 : Method := { name := "law", desc := "(IIIIII)Z", sig := { parameters := [.int, .int, .int, .int, .int, .int], returnType := some .boolean }, accessFlags := 9, code := some k1c1 }
def k1c2 : Code := { maxStack := 2, maxLocals := 1, code := method_3_code, exceptionTable := #[], attributes := #[] }
def k1m2 : Method := { name := "isHex", desc := "(C)Z", sig := { parameters := [.char], returnType := some .boolean }, accessFlags := 10, code := some k1c2 }
def k1c3 : Code := { maxStack := 4, maxLocals := 1, code := method_4_code, exceptionTable := #[], attributes := #[] }
def k1m3 : Method := { name := "of63", desc := "(C)[C", sig := { parameters := [.char], returnType := some (.array .char) }, accessFlags := 10, code := some k1c3 }
def k1c4 : Code := { maxStack := 4, maxLocals := 1, code := method_5_code, exceptionTable := #[], attributes := #[] }
def k1m4 : Method := { name := "of64", desc := "(C)[C", sig := { parameters := [.char], returnType := some (.array .char) }, accessFlags := 10, code := some k1c4 }
def k1c5 : Code := { maxStack := 4, maxLocals := 1, code := method_6_code, exceptionTable := #[], attributes := #[] }
def k1m5 : Method := { name := "of65", desc := "(C)[C", sig := { parameters := [.char], returnType := some (.array .char) }, accessFlags := 10, code := some k1c5 }
/-- com/example/halysis/halysis/LogRecordIsHashPinLaw -/
def k1 : Class := { plain "com/example/halysis/halysis/LogRecordIsHashPinLaw" (some 0) with
  accessFlags := 49
  interfaces := #[]
  cf := some (fileOf pool1 8 #[] #[{ accessFlags := 1, nameIndex := 5, descriptorIndex := 6, attributes := #[] }, { accessFlags := 9, nameIndex := 37, descriptorIndex := 38, attributes := #[] }, { accessFlags := 10, nameIndex := 22, descriptorIndex := 23, attributes := #[] }, { accessFlags := 10, nameIndex := 11, descriptorIndex := 12, attributes := #[] }, { accessFlags := 10, nameIndex := 18, descriptorIndex := 12, attributes := #[] }, { accessFlags := 10, nameIndex := 15, descriptorIndex := 12, attributes := #[] }] 49 2 #[] #[])
  fields := #[]
  methods := #[k1m0, k1m1, k1m2, k1m3, k1m4, k1m5]
  instanceTypes := #[]
  staticTypes := #[]
  resolved := Array.replicate 44 none
  statics := none }

def pool2 : Array CpInfo := pool [(1, .class_ 2), (0, u "java/io/Serializable"), (0, .class_ 4), (0, u "java/lang/Object")] 2

/-- java/io/Serializable -/
def k2 : Class := { plain "java/io/Serializable" (some 0) with
  accessFlags := 1537
  interfaces := #[]
  cf := some (fileOf pool2 1 #[] #[] 1537 3 #[] #[])
  fields := #[]
  methods := #[]
  instanceTypes := #[]
  staticTypes := #[]
  resolved := Array.replicate 7 none
  statics := none }

def pool3 : Array CpInfo := pool [(1, .class_ 2), (0, u "java/lang/Comparable"), (0, .class_ 4), (0, u "java/lang/Object")] 7

/-- java/lang/Comparable -/
def k3 : Class := { plain "java/lang/Comparable" (some 0) with
  accessFlags := 1537
  interfaces := #[]
  cf := some (fileOf pool3 1 #[] #[] 1537 3 #[] #[])
  fields := #[]
  methods := #[]
  instanceTypes := #[]
  staticTypes := #[]
  resolved := Array.replicate 12 none
  statics := none }

def pool4 : Array CpInfo := pool [(2, .class_ 4), (1, u "java/lang/CharSequence"), (42, .class_ 48), (0, u "java/lang/CharSequence$1CodePointIterator"), (10, .class_ 60), (0, u "java/lang/CharSequence$1CharIterator"), (5, .class_ 67), (0, u "java/lang/Object")] 63

/-- java/lang/CharSequence -/
def k4 : Class := { plain "java/lang/CharSequence" (some 0) with
  accessFlags := 1537
  interfaces := #[]
  cf := some (fileOf pool4 2 #[.nestMembers #[47, 59]] #[] 1537 66 #[] #[])
  fields := #[]
  methods := #[]
  instanceTypes := #[]
  staticTypes := #[]
  resolved := Array.replicate 131 none
  statics := none }

def pool5 : Array CpInfo := pool [(1, .class_ 2), (0, u "java/lang/constant/Constable"), (0, .class_ 4), (0, u "java/lang/Object")] 6

/-- java/lang/constant/Constable -/
def k5 : Class := { plain "java/lang/constant/Constable" (some 0) with
  accessFlags := 1537
  interfaces := #[]
  cf := some (fileOf pool5 1 #[] #[] 1537 3 #[] #[])
  fields := #[]
  methods := #[]
  instanceTypes := #[]
  staticTypes := #[]
  resolved := Array.replicate 11 none
  statics := none }

def pool6 : Array CpInfo := pool [(1, .class_ 2), (0, u "java/lang/constant/ConstantDesc"), (0, .class_ 4), (0, u "java/lang/Object")] 32

/-- java/lang/constant/ConstantDesc -/
def k6 : Class := { plain "java/lang/constant/ConstantDesc" (some 0) with
  accessFlags := 1537
  interfaces := #[]
  cf := some (fileOf pool6 1 #[] #[] 1537 3 #[] #[])
  fields := #[]
  methods := #[]
  instanceTypes := #[]
  staticTypes := #[]
  resolved := Array.replicate 37 none
  statics := none }

def pool7 : Array CpInfo := pool [(1, .methodref 2 3), (0, .class_ 4), (0, .nameAndType 5 6), (0, u "java/lang/Object"), (0, u "<init>"), (0, u "()V"), (0, .string 8), (0, u ""), (0, .fieldref 10 11), (0, .class_ 12), (0, .nameAndType 13 14), (0, u "java/lang/String"), (0, u "value"), (0, u "[B"), (0, .fieldref 10 16), (0, .nameAndType 17 18), (0, u "coder"), (0, u "B"), (2, u "hash"), (0, u "I"), (2, u "hashIsZero"), (0, u "Z"), (0, .methodref 10 28), (0, .nameAndType 5 29), (0, u "([CIILjava/lang/Void;)V"), (8, .fieldref 10 39), (0, .nameAndType 40 26), (0, u "COMPACT_STRINGS"), (1, .class_ 44), (1, u "java/lang/StringUTF16"), (0, u "compress"), (1, .methodref 42 48), (0, .nameAndType 49 50), (0, u "coderFromArrayLen"), (0, u "([BI)B"), (56, .class_ 109), (1, u "java/lang/StringLatin1"), (32, u "()Z"), (34, .methodref 42 178), (0, .nameAndType 45 179), (0, u "([CII)[B"), (154, u "()I"), (0, .methodref 10 336), (0, .nameAndType 17 337), (0, u "()B"), (25, u "([BI)C"), (27, u "(II)V"), (35, u "(I)C"), (64, .methodref 10 493), (0, .nameAndType 494 142), (0, u "isLatin1"), (0, .methodref 107 496), (0, .nameAndType 497 363), (0, u "charAt"), (0, .methodref 42 496), (2, u "checkIndex"), (5, u "length"), (67, .class_ 576), (0, u "java/lang/CharSequence"), (22, u "CASE_INSENSITIVE_ORDER"), (0, u "Ljava/util/Comparator;"), (409, u "([C)V"), (42, .fieldref 1054 1055), (0, .class_ 1056), (0, .nameAndType 1057 1058), (0, u "jdk/internal/util/Preconditions"), (0, u "SIOOBE_FORMATTER"), (0, u "Ljava/util/function/BiFunction;"), (0, .methodref 1054 1060), (0, .nameAndType 501 1061), (0, u "(IILjava/util/function/BiFunction;)I"), (39, u "serialPersistentFields"), (0, u "[Ljava/io/ObjectStreamField;"), (0, .class_ 1104), (0, u "java/lang/String$CaseInsensitiveComparator"), (1, .class_ 1107), (0, u "java/io/Serializable"), (0, .class_ 1109), (0, u "java/lang/Comparable"), (0, .class_ 1111), (0, u "java/lang/constant/Constable"), (0, .class_ 1113), (0, u "java/lang/constant/ConstantDesc"), (2, u "serialVersionUID"), (0, u "J"), (3, u "REPL"), (0, u "C"), (2, u "LATIN1"), (1, u "UTF16")] 323

def k7m0 : Method := { name := "<init>", desc := "()V", sig := { parameters := [], returnType := none }, accessFlags := 1, code := none }
def k7c1 : Code := { maxStack := 5, maxLocals := 2, code := jdk_42_method_3_code, exceptionTable := #[], attributes := #[] }
def k7m1 : Method := { name := "<init>", desc := "([C)V", sig := { parameters := [(.array .char)], returnType := none }, accessFlags := 1, code := some k7c1 }
def k7c2 : Code := { maxStack := 2, maxLocals := 1, code := jdk_42_method_54_code, exceptionTable := #[], attributes := #[] }
def k7m2 : Method := { name := "length", desc := "()I", sig := { parameters := [], returnType := some .int }, accessFlags := 1, code := some k7c2 }
def k7c3 : Code := { maxStack := 2, maxLocals := 2, code := jdk_42_method_56_code, exceptionTable := #[], attributes := #[] }
def k7m3 : Method := { name := "charAt", desc := "(I)C", sig := { parameters := [.int], returnType := some .char }, accessFlags := 1, code := some k7c3 }
def k7c4 : Code := { maxStack := 4, maxLocals := 6, code := jdk_42_method_149_code, exceptionTable := #[], attributes := #[] }
def k7m4 : Method := { name := "<init>", desc := "([CIILjava/lang/Void;)V", sig := { parameters := [(.array .char), .int, .int, (.object "java/lang/Void")], returnType := none }, accessFlags := 2, code := some k7c4 }
def k7c5 : Code := { maxStack := 1, maxLocals := 1, code := jdk_42_method_152_code, exceptionTable := #[], attributes := #[] }
def k7m5 : Method := { name := "coder", desc := "()B", sig := { parameters := [], returnType := some .byte }, accessFlags := 0, code := some k7c5 }
def k7c6 : Code := { maxStack := 1, maxLocals := 1, code := jdk_42_method_154_code, exceptionTable := #[], attributes := #[] }
def k7m6 : Method := { name := "isLatin1", desc := "()Z", sig := { parameters := [], returnType := some .boolean }, accessFlags := 0, code := some k7c6 }
def k7c7 : Code := { maxStack := 3, maxLocals := 2, code := jdk_42_method_155_code, exceptionTable := #[], attributes := #[] }
def k7m7 : Method := { name := "checkIndex", desc := "(II)V", sig := { parameters := [.int, .int], returnType := none }, accessFlags := 8, code := some k7c7 }
/-- java/lang/String -/
def k7 : Class := { plain "java/lang/String" (some 0) with
  accessFlags := 49
  interfaces := #[2, 3, 4, 5, 6]
  cf := some (fileOf pool7 10 #[.nestMembers #[1103]] #[{ accessFlags := 1, nameIndex := 5, descriptorIndex := 6, attributes := #[] }, { accessFlags := 1, nameIndex := 5, descriptorIndex := 1010, attributes := #[] }, { accessFlags := 1, nameIndex := 507, descriptorIndex := 334, attributes := #[] }, { accessFlags := 1, nameIndex := 497, descriptorIndex := 427, attributes := #[] }, { accessFlags := 2, nameIndex := 5, descriptorIndex := 29, attributes := #[] }, { accessFlags := 0, nameIndex := 17, descriptorIndex := 337, attributes := #[] }, { accessFlags := 0, nameIndex := 494, descriptorIndex := 142, attributes := #[] }, { accessFlags := 8, nameIndex := 501, descriptorIndex := 391, attributes := #[] }] 49 2 #[1106, 1108, 575, 1110, 1112] #[{ accessFlags := 18, nameIndex := 13, descriptorIndex := 14, attributes := #[] }, { accessFlags := 18, nameIndex := 17, descriptorIndex := 18, attributes := #[] }, { accessFlags := 2, nameIndex := 21, descriptorIndex := 22, attributes := #[] }, { accessFlags := 2, nameIndex := 25, descriptorIndex := 26, attributes := #[] }, { accessFlags := 26, nameIndex := 1116, descriptorIndex := 1117, attributes := #[] }, { accessFlags := 24, nameIndex := 40, descriptorIndex := 26, attributes := #[] }, { accessFlags := 26, nameIndex := 1101, descriptorIndex := 1102, attributes := #[] }, { accessFlags := 26, nameIndex := 1121, descriptorIndex := 1122, attributes := #[] }, { accessFlags := 25, nameIndex := 599, descriptorIndex := 600, attributes := #[] }, { accessFlags := 24, nameIndex := 1125, descriptorIndex := 18, attributes := #[] }, { accessFlags := 24, nameIndex := 1127, descriptorIndex := 18, attributes := #[] }])
  fields := #[{ name := "value", type := (.array .byte), accessFlags := 18, slot := 0, constantValue := 0 }, { name := "coder", type := .byte, accessFlags := 18, slot := 1, constantValue := 0 }, { name := "hash", type := .int, accessFlags := 2, slot := 2, constantValue := 0 }, { name := "hashIsZero", type := .boolean, accessFlags := 2, slot := 3, constantValue := 0 }, { name := "serialVersionUID", type := .long, accessFlags := 26, slot := 0, constantValue := 0 }, { name := "COMPACT_STRINGS", type := .boolean, accessFlags := 24, slot := 1, constantValue := 0 }, { name := "serialPersistentFields", type := (.array (.object "java/io/ObjectStreamField")), accessFlags := 26, slot := 2, constantValue := 0 }, { name := "REPL", type := .char, accessFlags := 26, slot := 3, constantValue := 0 }, { name := "CASE_INSENSITIVE_ORDER", type := (.object "java/util/Comparator"), accessFlags := 25, slot := 4, constantValue := 0 }, { name := "LATIN1", type := .byte, accessFlags := 24, slot := 5, constantValue := 0 }, { name := "UTF16", type := .byte, accessFlags := 24, slot := 6, constantValue := 0 }]
  methods := #[k7m0, k7m1, k7m2, k7m3, k7m4, k7m5, k7m6, k7m7]
  instanceTypes := #[(.array .byte), .byte, .int, .boolean]
  staticTypes := #[.long, .boolean, (.array (.object "java/io/ObjectStreamField")), .char, (.object "java/util/Comparator"), .byte, .byte]
  resolved := Array.replicate 1451 none
  statics := some 0 }

def pool8 : Array CpInfo := pool [(3, .class_ 4), (0, u "java/lang/String"), (1, .class_ 8), (1, u "java/lang/Object"), (0, u "<init>"), (0, u "()V"), (0, .methodref 12 13), (0, .class_ 14), (0, .nameAndType 15 16), (0, u "java/lang/StringUTF16"), (0, u "newBytesLength"), (0, u "(I)I"), (3, .integer 1073741823), (23, .fieldref 12 45), (0, .nameAndType 46 47), (0, u "$assertionsDisabled"), (0, u "Z"), (0, .methodref 12 49), (0, .nameAndType 50 51), (0, u "length"), (0, u "([B)I"), (7, .fieldref 12 60), (0, .nameAndType 61 62), (0, u "HI_BYTE_SHIFT"), (0, u "I"), (0, .fieldref 12 64), (0, .nameAndType 65 62), (0, u "LO_BYTE_SHIFT"), (1, .methodref 12 68), (0, .nameAndType 69 70), (0, u "checkIndex"), (0, u "(I[B)V"), (0, .methodref 12 72), (0, .nameAndType 73 74), (0, u "getChar"), (0, u "([BI)C"), (32, .methodref 12 108), (0, .nameAndType 109 110), (0, u "newBytesFor"), (0, u "(I)[B"), (0, .methodref 12 112), (0, .nameAndType 113 114), (0, u "putChar"), (0, u "([BII)V"), (0, .methodref 12 116), (0, .nameAndType 117 118), (0, u "compress"), (0, u "([CI[BII)I"), (0, .methodref 12 120), (0, .nameAndType 121 122), (0, u "toBytes"), (0, u "([CII)[B"), (138, u "coderFromArrayLen"), (0, u "([BI)B"), (106, .class_ 371), (1, u "java/lang/StringUTF16$LinesSpliterator"), (20, u "charAt"), (21, .methodref 3 415), (0, .nameAndType 69 416), (0, u "(II)V"), (13, u "MAX_LENGTH"), (196, .class_ 628), (0, u "java/lang/StringUTF16$CodePointsSpliterator"), (0, .class_ 630), (0, u "java/lang/StringUTF16$CharsSpliterator")] 4

def k8m0 : Method := { name := "<init>", desc := "()V", sig := { parameters := [], returnType := none }, accessFlags := 0, code := none }
def k8c1 : Code := { maxStack := 1, maxLocals := 1, code := jdk_52_method_2_code, exceptionTable := #[], attributes := #[] }
def k8m1 : Method := { name := "newBytesFor", desc := "(I)[B", sig := { parameters := [.int], returnType := some (.array .byte) }, accessFlags := 9, code := some k8c1 }
def k8c2 : Code := { maxStack := 4, maxLocals := 1, code := jdk_52_method_3_code, exceptionTable := #[], attributes := #[] }
def k8m2 : Method := { name := "newBytesLength", desc := "(I)I", sig := { parameters := [.int], returnType := some .int }, accessFlags := 9, code := some k8c2 }
def k8c3 : Code := { maxStack := 4, maxLocals := 3, code := jdk_52_method_4_code, exceptionTable := #[], attributes := #[] }
def k8m3 : Method := { name := "putChar", desc := "([BII)V", sig := { parameters := [(.array .byte), .int, .int], returnType := none }, accessFlags := 8, code := some k8c3 }
def k8c4 : Code := { maxStack := 3, maxLocals := 2, code := jdk_52_method_5_code, exceptionTable := #[], attributes := #[] }
def k8m4 : Method := { name := "getChar", desc := "([BI)C", sig := { parameters := [(.array .byte), .int], returnType := some .char }, accessFlags := 8, code := some k8c4 }
def k8c5 : Code := { maxStack := 2, maxLocals := 1, code := jdk_52_method_6_code, exceptionTable := #[], attributes := #[] }
def k8m5 : Method := { name := "length", desc := "([B)I", sig := { parameters := [(.array .byte)], returnType := some .int }, accessFlags := 9, code := some k8c5 }
def k8c6 : Code := { maxStack := 4, maxLocals := 5, code := jdk_52_method_14_code, exceptionTable := #[], attributes := #[] }
def k8m6 : Method := { name := "toBytes", desc := "([CII)[B", sig := { parameters := [(.array .char), .int, .int], returnType := some (.array .byte) }, accessFlags := 9, code := some k8c6 }
def k8c7 : Code := { maxStack := 2, maxLocals := 2, code := jdk_52_method_15_code, exceptionTable := #[], attributes := #[] }
def k8m7 : Method := { name := "coderFromArrayLen", desc := "([BI)B", sig := { parameters := [(.array .byte), .int], returnType := some .byte }, accessFlags := 8, code := some k8c7 }
def k8c8 : Code := { maxStack := 5, maxLocals := 6, code := jdk_52_method_16_code, exceptionTable := #[], attributes := #[] }
def k8m8 : Method := { name := "compress", desc := "([CII)[B", sig := { parameters := [(.array .char), .int, .int], returnType := some (.array .byte) }, accessFlags := 9, code := some k8c8 }
def k8c9 : Code := { maxStack := 3, maxLocals := 7, code := jdk_52_method_21_code, exceptionTable := #[], attributes := #[] }
def k8m9 : Method := { name := "compress", desc := "([CI[BII)I", sig := { parameters := [(.array .char), .int, (.array .byte), .int, .int], returnType := some .int }, accessFlags := 9, code := some k8c9 }
def k8c10 : Code := { maxStack := 2, maxLocals := 2, code := jdk_52_method_83_code, exceptionTable := #[], attributes := #[] }
def k8m10 : Method := { name := "charAt", desc := "([BI)C", sig := { parameters := [(.array .byte), .int], returnType := some .char }, accessFlags := 9, code := some k8c10 }
def k8c11 : Code := { maxStack := 2, maxLocals := 2, code := jdk_52_method_91_code, exceptionTable := #[], attributes := #[] }
def k8m11 : Method := { name := "checkIndex", desc := "(I[B)V", sig := { parameters := [.int, (.array .byte)], returnType := none }, accessFlags := 9, code := some k8c11 }
/-- java/lang/StringUTF16 -/
def k8 : Class := { plain "java/lang/StringUTF16" (some 0) with
  accessFlags := 48
  interfaces := #[]
  cf := some (fileOf pool8 12 #[.nestMembers #[627, 629, 369]] #[{ accessFlags := 0, nameIndex := 9, descriptorIndex := 10, attributes := #[] }, { accessFlags := 9, nameIndex := 109, descriptorIndex := 110, attributes := #[] }, { accessFlags := 9, nameIndex := 15, descriptorIndex := 16, attributes := #[] }, { accessFlags := 8, nameIndex := 113, descriptorIndex := 114, attributes := #[] }, { accessFlags := 8, nameIndex := 73, descriptorIndex := 74, attributes := #[] }, { accessFlags := 9, nameIndex := 50, descriptorIndex := 51, attributes := #[] }, { accessFlags := 9, nameIndex := 121, descriptorIndex := 122, attributes := #[] }, { accessFlags := 8, nameIndex := 261, descriptorIndex := 262, attributes := #[] }, { accessFlags := 9, nameIndex := 117, descriptorIndex := 122, attributes := #[] }, { accessFlags := 9, nameIndex := 117, descriptorIndex := 118, attributes := #[] }, { accessFlags := 9, nameIndex := 392, descriptorIndex := 74, attributes := #[] }, { accessFlags := 9, nameIndex := 69, descriptorIndex := 70, attributes := #[] }] 48 6 #[] #[{ accessFlags := 26, nameIndex := 61, descriptorIndex := 62, attributes := #[] }, { accessFlags := 26, nameIndex := 65, descriptorIndex := 62, attributes := #[] }, { accessFlags := 24, nameIndex := 430, descriptorIndex := 62, attributes := #[] }, { accessFlags := 4120, nameIndex := 46, descriptorIndex := 47, attributes := #[] }])
  fields := #[{ name := "HI_BYTE_SHIFT", type := .int, accessFlags := 26, slot := 0, constantValue := 0 }, { name := "LO_BYTE_SHIFT", type := .int, accessFlags := 26, slot := 1, constantValue := 0 }, { name := "MAX_LENGTH", type := .int, accessFlags := 24, slot := 2, constantValue := 0 }, { name := "$assertionsDisabled", type := .boolean, accessFlags := 4120, slot := 3, constantValue := 0 }]
  methods := #[k8m0, k8m1, k8m2, k8m3, k8m4, k8m5, k8m6, k8m7, k8m8, k8m9, k8m10, k8m11]
  instanceTypes := #[]
  staticTypes := #[.int, .int, .int, .boolean]
  resolved := Array.replicate 635 none
  statics := some 1 }

def pool9 : Array CpInfo := pool [(4, .class_ 6), (1, u "java/lang/Object"), (3, .class_ 12), (1, u "com/example/halysis/halysis/LogRecord"), (0, u "read"), (0, u "Lcom/example/halysis/halysis/Json$ObjectText;"), (2, u "seq"), (0, u "J"), (2, u "prev"), (0, u "Ljava/lang/String;"), (2, u "hash"), (2, u "line"), (117, .class_ 147), (0, u "java/lang/String"), (2, u "isHash"), (0, u "(Ljava/lang/String;)Z"), (4, .methodref 146 157), (0, .nameAndType 158 159), (0, u "length"), (0, u "()I"), (0, .methodref 146 161), (0, .nameAndType 162 163), (0, u "charAt"), (0, u "(I)C"), (14, u "CONTENT"), (0, u "Lcom/example/halysis/halysis/Json$Shape;"), (14, u "WHOLE"), (2, u "HEX"), (0, u "Ljava/util/HexFormat;"), (2, u "SHA_256"), (0, u "Ljava/lang/ThreadLocal;"), (50, u "GENESIS_PREV"), (12, u "MEMBERS"), (0, u "[Ljava/lang/String;"), (4, u "MAX_SEQ"), (3, u "MAX_LINE_DEPTH"), (0, u "I")] 54

def k9c0 : Code := { maxStack := 5, maxLocals := 4, code := prog_18_method_8_code, exceptionTable := #[], attributes := #[] }
def k9m0 : Method := { name := "isHash", desc := "(Ljava/lang/String;)Z", sig := { parameters := [(.object "java/lang/String")], returnType := some .boolean }, accessFlags := 8, code := some k9c0 }
/-- com/example/halysis/halysis/LogRecord -/
def k9 : Class := { plain "com/example/halysis/halysis/LogRecord" (some 0) with
  accessFlags := 48
  interfaces := #[]
  cf := some (fileOf pool9 10 #[] #[{ accessFlags := 8, nameIndex := 150, descriptorIndex := 151, attributes := #[] }] 48 4 #[] #[{ accessFlags := 24, nameIndex := 253, descriptorIndex := 22, attributes := #[] }, { accessFlags := 24, nameIndex := 272, descriptorIndex := 18, attributes := #[] }, { accessFlags := 26, nameIndex := 276, descriptorIndex := 277, attributes := #[] }, { accessFlags := 26, nameIndex := 197, descriptorIndex := 198, attributes := #[] }, { accessFlags := 26, nameIndex := 201, descriptorIndex := 202, attributes := #[] }, { accessFlags := 26, nameIndex := 266, descriptorIndex := 267, attributes := #[] }, { accessFlags := 26, nameIndex := 178, descriptorIndex := 179, attributes := #[] }, { accessFlags := 26, nameIndex := 194, descriptorIndex := 179, attributes := #[] }, { accessFlags := 18, nameIndex := 13, descriptorIndex := 14, attributes := #[] }, { accessFlags := 18, nameIndex := 17, descriptorIndex := 18, attributes := #[] }, { accessFlags := 18, nameIndex := 21, descriptorIndex := 22, attributes := #[] }, { accessFlags := 18, nameIndex := 25, descriptorIndex := 22, attributes := #[] }, { accessFlags := 18, nameIndex := 28, descriptorIndex := 22, attributes := #[] }])
  fields := #[{ name := "GENESIS_PREV", type := (.object "java/lang/String"), accessFlags := 24, slot := 0, constantValue := 0 }, { name := "MAX_SEQ", type := .long, accessFlags := 24, slot := 1, constantValue := 0 }, { name := "MAX_LINE_DEPTH", type := .int, accessFlags := 26, slot := 2, constantValue := 0 }, { name := "HEX", type := (.object "java/util/HexFormat"), accessFlags := 26, slot := 3, constantValue := 0 }, { name := "SHA_256", type := (.object "java/lang/ThreadLocal"), accessFlags := 26, slot := 4, constantValue := 0 }, { name := "MEMBERS", type := (.array (.object "java/lang/String")), accessFlags := 26, slot := 5, constantValue := 0 }, { name := "CONTENT", type := (.object "com/example/halysis/halysis/Json$Shape"), accessFlags := 26, slot := 6, constantValue := 0 }, { name := "WHOLE", type := (.object "com/example/halysis/halysis/Json$Shape"), accessFlags := 26, slot := 7, constantValue := 0 }, { name := "read", type := (.object "com/example/halysis/halysis/Json$ObjectText"), accessFlags := 18, slot := 0, constantValue := 0 }, { name := "seq", type := .long, accessFlags := 18, slot := 1, constantValue := 0 }, { name := "prev", type := (.object "java/lang/String"), accessFlags := 18, slot := 2, constantValue := 0 }, { name := "hash", type := (.object "java/lang/String"), accessFlags := 18, slot := 3, constantValue := 0 }, { name := "line", type := (.object "java/lang/String"), accessFlags := 18, slot := 4, constantValue := 0 }]
  methods := #[k9m0]
  instanceTypes := #[(.object "com/example/halysis/halysis/Json$ObjectText"), .long, (.object "java/lang/String"), (.object "java/lang/String"), (.object "java/lang/String")]
  staticTypes := #[(.object "java/lang/String"), .long, .int, (.object "java/util/HexFormat"), (.object "java/lang/ThreadLocal"), (.array (.object "java/lang/String")), (.object "com/example/halysis/halysis/Json$Shape"), (.object "com/example/halysis/halysis/Json$Shape")]
  resolved := Array.replicate 332 none
  statics := none }

def pool10 : Array CpInfo := pool [(1, .class_ 2), (0, u "java/lang/String"), (1, .class_ 6), (1, u "java/lang/Object"), (0, u "<init>"), (0, u "()V"), (0, .methodref 1 10), (0, .nameAndType 11 12), (0, u "checkIndex"), (0, u "(II)V"), (1, .class_ 16), (1, u "java/lang/StringLatin1"), (36, u "([BI)C"), (67, u "$assertionsDisabled"), (0, u "Z"), (98, .class_ 223), (1, u "java/lang/StringLatin1$LinesSpliterator"), (28, u "charAt"), (137, .class_ 391), (0, u "java/lang/StringLatin1$CharsSpliterator")] 3

def k10m0 : Method := { name := "<init>", desc := "()V", sig := { parameters := [], returnType := none }, accessFlags := 0, code := none }
def k10c1 : Code := { maxStack := 2, maxLocals := 2, code := jdk_43_method_2_code, exceptionTable := #[], attributes := #[] }
def k10m1 : Method := { name := "charAt", desc := "([BI)C", sig := { parameters := [(.array .byte), .int], returnType := some .char }, accessFlags := 9, code := some k10c1 }
/-- java/lang/StringLatin1 -/
def k10 : Class := { plain "java/lang/StringLatin1" (some 0) with
  accessFlags := 48
  interfaces := #[]
  cf := some (fileOf pool10 14 #[.nestMembers #[390, 221]] #[{ accessFlags := 0, nameIndex := 7, descriptorIndex := 8, attributes := #[] }, { accessFlags := 9, nameIndex := 252, descriptorIndex := 53, attributes := #[] }] 48 4 #[] #[{ accessFlags := 4120, nameIndex := 121, descriptorIndex := 122, attributes := #[] }])
  fields := #[{ name := "$assertionsDisabled", type := .boolean, accessFlags := 4120, slot := 0, constantValue := 0 }]
  methods := #[k10m0, k10m1]
  instanceTypes := #[]
  staticTypes := #[.boolean]
  resolved := Array.replicate 395 none
  statics := none }

def pool11 : Array CpInfo := pool [(2, .class_ 4), (1, u "java/lang/Object"), (0, u "<init>"), (0, u "()V"), (17, .class_ 26), (1, u "jdk/internal/util/Preconditions"), (6, u "checkIndex"), (21, .class_ 56), (0, u "jdk/internal/util/Preconditions$4"), (57, .class_ 115), (0, u "jdk/internal/util/Preconditions$1"), (7, u "SIOOBE_FORMATTER"), (0, u "Ljava/util/function/BiFunction;"), (0, .class_ 126), (0, u "jdk/internal/util/Preconditions$2"), (3, u "AIOOBE_FORMATTER"), (0, .class_ 132), (0, u "jdk/internal/util/Preconditions$3"), (3, u "IOOBE_FORMATTER"), (41, u "(IILjava/util/function/BiFunction;)I")] 15

def k11m0 : Method := { name := "<init>", desc := "()V", sig := { parameters := [], returnType := none }, accessFlags := 1, code := none }
def k11c1 : Code := { maxStack := 3, maxLocals := 3, code := jdk_41_method_11_code, exceptionTable := #[], attributes := #[] }
def k11m1 : Method := { name := "checkIndex", desc := "(IILjava/util/function/BiFunction;)I", sig := { parameters := [.int, .int, (.object "java/util/function/BiFunction")], returnType := some .int }, accessFlags := 9, code := some k11c1 }
/-- jdk/internal/util/Preconditions -/
def k11 : Class := { plain "jdk/internal/util/Preconditions" (some 0) with
  accessFlags := 33
  interfaces := #[]
  cf := some (fileOf pool11 24 #[.nestMembers #[55, 131, 125, 114]] #[{ accessFlags := 1, nameIndex := 5, descriptorIndex := 6, attributes := #[] }, { accessFlags := 9, nameIndex := 33, descriptorIndex := 178, attributes := #[] }] 33 2 #[] #[{ accessFlags := 25, nameIndex := 123, descriptorIndex := 124, attributes := #[] }, { accessFlags := 25, nameIndex := 130, descriptorIndex := 124, attributes := #[] }, { accessFlags := 25, nameIndex := 136, descriptorIndex := 124, attributes := #[] }])
  fields := #[{ name := "SIOOBE_FORMATTER", type := (.object "java/util/function/BiFunction"), accessFlags := 25, slot := 0, constantValue := 0 }, { name := "AIOOBE_FORMATTER", type := (.object "java/util/function/BiFunction"), accessFlags := 25, slot := 1, constantValue := 0 }, { name := "IOOBE_FORMATTER", type := (.object "java/util/function/BiFunction"), accessFlags := 25, slot := 2, constantValue := 0 }]
  methods := #[k11m0, k11m1]
  instanceTypes := #[]
  staticTypes := #[(.object "java/util/function/BiFunction"), (.object "java/util/function/BiFunction"), (.object "java/util/function/BiFunction")]
  resolved := Array.replicate 194 none
  statics := some 2 }

def pool12 : Array CpInfo := pool [(9, u "<init>"), (6, .class_ 18), (1, u "java/lang/Object"), (0, u "()V"), (1, .class_ 23), (1, u "jdk/internal/util/ArraysSupport"), (0, u "LOG2_ARRAY_LONG_INDEX_SCALE"), (0, u "I"), (2, u "U"), (0, u "Ljdk/internal/misc/Unsafe;"), (8, u "BIG_ENDIAN"), (0, u "Z"), (8, u "LOG2_BYTE_BIT_SIZE"), (4, u "LOG2_ARRAY_INT_INDEX_SCALE"), (54, u "JLA"), (0, u "Ljdk/internal/access/JavaLangAccess;"), (11, u "LOG2_ARRAY_BOOLEAN_INDEX_SCALE"), (9, u "LOG2_ARRAY_BYTE_INDEX_SCALE"), (5, u "LOG2_ARRAY_CHAR_INDEX_SCALE"), (5, u "LOG2_ARRAY_SHORT_INDEX_SCALE"), (18, u "LOG2_ARRAY_FLOAT_INDEX_SCALE"), (24, u "LOG2_ARRAY_DOUBLE_INDEX_SCALE"), (89, u "T_BOOLEAN"), (2, u "T_CHAR"), (1, u "T_FLOAT"), (1, u "T_DOUBLE"), (1, u "T_BYTE"), (1, u "T_SHORT"), (1, u "T_INT"), (1, u "T_LONG"), (1, u "SOFT_MAX_ARRAY_LENGTH")] 83

def k12m0 : Method := { name := "<init>", desc := "()V", sig := { parameters := [], returnType := none }, accessFlags := 2, code := none }
/-- jdk/internal/util/ArraysSupport -/
def k12 : Class := { plain "jdk/internal/util/ArraysSupport" (some 0) with
  accessFlags := 33
  interfaces := #[]
  cf := some (fileOf pool12 21 #[] #[{ accessFlags := 2, nameIndex := 9, descriptorIndex := 19, attributes := #[] }] 33 16 #[] #[{ accessFlags := 24, nameIndex := 28, descriptorIndex := 29, attributes := #[] }, { accessFlags := 26, nameIndex := 38, descriptorIndex := 39, attributes := #[] }, { accessFlags := 25, nameIndex := 121, descriptorIndex := 25, attributes := #[] }, { accessFlags := 25, nameIndex := 131, descriptorIndex := 25, attributes := #[] }, { accessFlags := 25, nameIndex := 137, descriptorIndex := 25, attributes := #[] }, { accessFlags := 25, nameIndex := 143, descriptorIndex := 25, attributes := #[] }, { accessFlags := 25, nameIndex := 53, descriptorIndex := 25, attributes := #[] }, { accessFlags := 25, nameIndex := 24, descriptorIndex := 25, attributes := #[] }, { accessFlags := 25, nameIndex := 162, descriptorIndex := 25, attributes := #[] }, { accessFlags := 25, nameIndex := 187, descriptorIndex := 25, attributes := #[] }, { accessFlags := 26, nameIndex := 48, descriptorIndex := 25, attributes := #[] }, { accessFlags := 25, nameIndex := 277, descriptorIndex := 25, attributes := #[] }, { accessFlags := 25, nameIndex := 280, descriptorIndex := 25, attributes := #[] }, { accessFlags := 25, nameIndex := 282, descriptorIndex := 25, attributes := #[] }, { accessFlags := 25, nameIndex := 284, descriptorIndex := 25, attributes := #[] }, { accessFlags := 25, nameIndex := 286, descriptorIndex := 25, attributes := #[] }, { accessFlags := 25, nameIndex := 288, descriptorIndex := 25, attributes := #[] }, { accessFlags := 25, nameIndex := 290, descriptorIndex := 25, attributes := #[] }, { accessFlags := 25, nameIndex := 292, descriptorIndex := 25, attributes := #[] }, { accessFlags := 26, nameIndex := 108, descriptorIndex := 109, attributes := #[] }, { accessFlags := 25, nameIndex := 294, descriptorIndex := 25, attributes := #[] }])
  fields := #[{ name := "U", type := (.object "jdk/internal/misc/Unsafe"), accessFlags := 24, slot := 0, constantValue := 0 }, { name := "BIG_ENDIAN", type := .boolean, accessFlags := 26, slot := 1, constantValue := 0 }, { name := "LOG2_ARRAY_BOOLEAN_INDEX_SCALE", type := .int, accessFlags := 25, slot := 2, constantValue := 0 }, { name := "LOG2_ARRAY_BYTE_INDEX_SCALE", type := .int, accessFlags := 25, slot := 3, constantValue := 0 }, { name := "LOG2_ARRAY_CHAR_INDEX_SCALE", type := .int, accessFlags := 25, slot := 4, constantValue := 0 }, { name := "LOG2_ARRAY_SHORT_INDEX_SCALE", type := .int, accessFlags := 25, slot := 5, constantValue := 0 }, { name := "LOG2_ARRAY_INT_INDEX_SCALE", type := .int, accessFlags := 25, slot := 6, constantValue := 0 }, { name := "LOG2_ARRAY_LONG_INDEX_SCALE", type := .int, accessFlags := 25, slot := 7, constantValue := 0 }, { name := "LOG2_ARRAY_FLOAT_INDEX_SCALE", type := .int, accessFlags := 25, slot := 8, constantValue := 0 }, { name := "LOG2_ARRAY_DOUBLE_INDEX_SCALE", type := .int, accessFlags := 25, slot := 9, constantValue := 0 }, { name := "LOG2_BYTE_BIT_SIZE", type := .int, accessFlags := 26, slot := 10, constantValue := 0 }, { name := "T_BOOLEAN", type := .int, accessFlags := 25, slot := 11, constantValue := 0 }, { name := "T_CHAR", type := .int, accessFlags := 25, slot := 12, constantValue := 0 }, { name := "T_FLOAT", type := .int, accessFlags := 25, slot := 13, constantValue := 0 }, { name := "T_DOUBLE", type := .int, accessFlags := 25, slot := 14, constantValue := 0 }, { name := "T_BYTE", type := .int, accessFlags := 25, slot := 15, constantValue := 0 }, { name := "T_SHORT", type := .int, accessFlags := 25, slot := 16, constantValue := 0 }, { name := "T_INT", type := .int, accessFlags := 25, slot := 17, constantValue := 0 }, { name := "T_LONG", type := .int, accessFlags := 25, slot := 18, constantValue := 0 }, { name := "JLA", type := (.object "jdk/internal/access/JavaLangAccess"), accessFlags := 26, slot := 19, constantValue := 0 }, { name := "SOFT_MAX_ARRAY_LENGTH", type := .int, accessFlags := 25, slot := 20, constantValue := 0 }]
  methods := #[k12m0]
  instanceTypes := #[]
  staticTypes := #[(.object "jdk/internal/misc/Unsafe"), .boolean, .int, .int, .int, .int, .int, .int, .int, .int, .int, .int, .int, .int, .int, .int, .int, .int, .int, (.object "jdk/internal/access/JavaLangAccess"), .int]
  resolved := Array.replicate 378 none
  statics := none }

def pool13 : Array CpInfo := pool [(1, u "java/lang/Cloneable"), (0, .class_ 1), (0, u "java/lang/Object"), (0, .class_ 3)] 3

/-- java/lang/Cloneable -/
def k13 : Class := { plain "java/lang/Cloneable" (some 0) with
  accessFlags := 1537
  interfaces := #[]
  cf := some (fileOf pool13 2 #[] #[] 1537 4 #[] #[])
  fields := #[]
  methods := #[]
  instanceTypes := #[]
  staticTypes := #[]
  resolved := Array.replicate 8 none
  statics := none }

/-- the primitive byte -/
def k14 : Class := { plain "byte" none with kind := .primitive 'B', accessFlags := 0x411 }
/-- [B -/
def k15 : Class := { plain "[B" (some 0) with kind := .array 14 .byte, interfaces := #[13, 2], accessFlags := 1041 }

/-- the primitive char -/
def k16 : Class := { plain "char" none with kind := .primitive 'C', accessFlags := 0x411 }
/-- [C -/
def k17 : Class := { plain "[C" (some 0) with kind := .array 16 .char, interfaces := #[13, 2], accessFlags := 1041 }

/-- the primitive int -/
def k18 : Class := { plain "int" none with kind := .primitive 'I', accessFlags := 0x411 }
/-- [I -/
def k19 : Class := { plain "[I" (some 0) with kind := .array 18 .int, interfaces := #[13, 2], accessFlags := 1041 }

def heap : Heap := #[{ cls := 7, slots := #[.long 0, .int 1, .null, .int 0, .null, .int 0, .int 0], vm := .statics 7 },
  { cls := 8, slots := #[.int 0, .int 8, .int 0, .int 1], vm := .statics 8 },
  { cls := 11, slots := #[.null, .null, .null], vm := .statics 11 }]
def classes : Array Class := #[k0, k1, k2, k3, k4, k5, k6, k7, k8, k9, k10, k11, k12, k13, k14, k15, k16, k17, k18, k19]
def interned : List (Array UInt16 × Addr) := []
def slotsUsed : Nat := 14
def theMethod : MethodId := ⟨1, 1⟩
def args0 : Array Value := #[.int 7, .int 5, .int 6, .int 2, .int 1, .int 2]
def aboutOver (below : List Frame) : State where
  vm := { classes := classes, interned := interned.toArray }
  heap := heap
  slotsUsed := slotsUsed
  threads := #[{ frames := .invoking theMethod args0 :: below }]
def below0 : List Frame := [.native { method := ⟨0, 0⟩, args := #[] }]
def about1 : State := aboutOver below0
def p0 : Program := .bare "" "" ""
def e0 : Env := launch0.env 0 0 0
theorem w_frames : about1.frames = Frame.invoking theMethod args0 :: below0 := rfl
set_option maxRecDepth 65536 in
theorem w_args : argsFit about1.vm theMethod args0 = true := by decide +kernel
set_option maxRecDepth 65536 in
theorem w_heap : heapFits about1 = true := by decide +kernel
set_option maxRecDepth 65536 in
theorem w_runnable : about1.curStatus? = some .runnable := by decide +kernel
set_option maxRecDepth 65536 in
theorem w_alone : about1.alone = true := by decide +kernel
set_option maxRecDepth 65536 in
theorem w_named : about1.methodNamed? x = some theMethod := by decide +kernel
set_option maxRecDepth 65536 in
theorem w_hears : about1.hears theMethod below0 = true := by decide +kernel
set_option maxRecDepth 65536 in
theorem w_ripe : about1.ripe theMethod args0 below0 = true := by decide +kernel
theorem w_running : about1.status = .running := rfl
set_option maxRecDepth 65536 in
theorem w_room : about1.hasRoom e0.platform room_1 = true :=
  launch0.hasRoom_least _ room_1 (by decide +kernel) (by decide +kernel) (by decide +kernel) (by decide +kernel) (by decide +kernel) (by decide +kernel)
theorem allAtoms_all (ts : List Jvm.Cond) (a : Array Jvm.Value) (st : Jvm.State) : (allAtoms ts).before a st = ts.all (fun c => c.before a st) := by
  induction ts with
  | nil => rfl
  | cons c t ih =>
    show (Jvm.Cond.and c (allAtoms t)).before a st = _
    rw [Jvm.Cond.before_and, ih, List.all_cons]
def words1 : List Jvm.Cond := Jvm.Cond.code x code maxLocals ret :: tables_1
/-- a 'code' word, met by the world's own term for the bytes: nothing is compared byte by byte -/
theorem code_word {y : MethodName} {bytes : ByteArray} {mx : Nat} {rt : Option FieldType} {a : Array Value} {s : State} {m : MethodId} {meth : Method} {c : Code} (h1 : s.methodNamed? y = some m) (h2 : s.vm.method? m = some meth) (h3 : meth.code = some c) (h4 : c.code = bytes)
    (h5 : (c.maxLocals == mx && c.exceptionTable.isEmpty && decide (c.maxStack ≤ mostOperands) && decide (meth.sig.returnType = rt) && !meth.locks && decide (parseMethodDescriptor y.desc = some meth.sig)) = true) : (Jvm.Cond.code y bytes mx rt).before a s = true := by
  simp only [Bool.and_eq_true, beq_iff_eq, Bool.not_eq_true', decide_eq_true_eq] at h5
  obtain ⟨⟨⟨⟨⟨g1, g2⟩, g3⟩, g4⟩, g5⟩, g6⟩ := h5
  simp [Cond.before, Cond.holds, Cond.value, h1, h2, h3, h4, g1, g2, g3, g4, g5, g6]
def isCode : Jvm.Cond → Bool
  | .code _ _ _ _ => true
  | _ => false
theorem all_split {L : List Jvm.Cond} {P : Jvm.Cond → Bool} (h1 : L.all (fun c => isCode c || P c) = true) (h2 : ∀ c ∈ L.filter isCode, P c = true) : L.all P = true := by
  refine List.all_eq_true.mpr fun c hc => ?_
  have h := List.all_eq_true.mp h1 c hc
  rcases Bool.eq_false_or_eq_true (isCode c) with hi | hi
  · exact h2 c (List.mem_filter.mpr ⟨hc, hi⟩)
  · simpa [hi] using h
set_option maxRecDepth 65536 in
theorem w_c0 : (Jvm.Cond.code x code maxLocals ret).before args0 about1 = true := code_word (m := ⟨1, 1⟩) (meth := k1m1) (c := k1c1) (by decide +kernel) rfl rfl rfl (by decide +kernel)
set_option maxRecDepth 65536 in
theorem w_c1 : (Jvm.Cond.code ({ cls := "java/lang/String", name := "<init>", desc := "([C)V" } : Jvm.MethodName) jdk_42_method_3_code (2 : Nat) (Option.none : Option Jvm.ClassFile.FieldType)).before args0 about1 = true := code_word (m := ⟨7, 1⟩) (meth := k7m1) (c := k7c1) (by decide +kernel) rfl rfl rfl (by decide +kernel)
set_option maxRecDepth 65536 in
theorem w_c2 : (Jvm.Cond.code ({ cls := "java/lang/String", name := "<init>", desc := "([CIILjava/lang/Void;)V" } : Jvm.MethodName) jdk_42_method_149_code (6 : Nat) (Option.none : Option Jvm.ClassFile.FieldType)).before args0 about1 = true := code_word (m := ⟨7, 4⟩) (meth := k7m4) (c := k7c4) (by decide +kernel) rfl rfl rfl (by decide +kernel)
set_option maxRecDepth 65536 in
theorem w_c3 : (Jvm.Cond.code ({ cls := "java/lang/Object", name := "<init>", desc := "()V" } : Jvm.MethodName) object_method_1_code (1 : Nat) (Option.none : Option Jvm.ClassFile.FieldType)).before args0 about1 = true := code_word (m := ⟨0, 0⟩) (meth := k0m0) (c := k0c0) (by decide +kernel) rfl rfl rfl (by decide +kernel)
set_option maxRecDepth 65536 in
theorem w_c4 : (Jvm.Cond.code ({ cls := "java/lang/StringUTF16", name := "compress", desc := "([CII)[B" } : Jvm.MethodName) jdk_52_method_16_code (6 : Nat) (Option.some (Jvm.ClassFile.FieldType.array Jvm.ClassFile.FieldType.byte))).before args0 about1 = true := code_word (m := ⟨8, 8⟩) (meth := k8m8) (c := k8c8) (by decide +kernel) rfl rfl rfl (by decide +kernel)
set_option maxRecDepth 65536 in
theorem w_c5 : (Jvm.Cond.code ({ cls := "java/lang/StringUTF16", name := "compress", desc := "([CI[BII)I" } : Jvm.MethodName) jdk_52_method_21_code (7 : Nat) (Option.some Jvm.ClassFile.FieldType.int)).before args0 about1 = true := code_word (m := ⟨8, 9⟩) (meth := k8m9) (c := k8c9) (by decide +kernel) rfl rfl rfl (by decide +kernel)
set_option maxRecDepth 65536 in
theorem w_c6 : (Jvm.Cond.code ({ cls := "java/lang/StringUTF16", name := "coderFromArrayLen", desc := "([BI)B" } : Jvm.MethodName) jdk_52_method_15_code (2 : Nat) (Option.some Jvm.ClassFile.FieldType.byte)).before args0 about1 = true := code_word (m := ⟨8, 7⟩) (meth := k8m7) (c := k8c7) (by decide +kernel) rfl rfl rfl (by decide +kernel)
set_option maxRecDepth 65536 in
theorem w_c7 : (Jvm.Cond.code ({ cls := "com/example/halysis/halysis/LogRecord", name := "isHash", desc := "(Ljava/lang/String;)Z" } : Jvm.MethodName) prog_18_method_8_code (4 : Nat) (Option.some Jvm.ClassFile.FieldType.boolean)).before args0 about1 = true := code_word (m := ⟨9, 0⟩) (meth := k9m0) (c := k9c0) (by decide +kernel) rfl rfl rfl (by decide +kernel)
set_option maxRecDepth 65536 in
theorem w_c8 : (Jvm.Cond.code ({ cls := "java/lang/String", name := "length", desc := "()I" } : Jvm.MethodName) jdk_42_method_54_code (1 : Nat) (Option.some Jvm.ClassFile.FieldType.int)).before args0 about1 = true := code_word (m := ⟨7, 2⟩) (meth := k7m2) (c := k7c2) (by decide +kernel) rfl rfl rfl (by decide +kernel)
set_option maxRecDepth 65536 in
theorem w_c9 : (Jvm.Cond.code ({ cls := "java/lang/String", name := "coder", desc := "()B" } : Jvm.MethodName) jdk_42_method_152_code (1 : Nat) (Option.some Jvm.ClassFile.FieldType.byte)).before args0 about1 = true := code_word (m := ⟨7, 5⟩) (meth := k7m5) (c := k7c5) (by decide +kernel) rfl rfl rfl (by decide +kernel)
set_option maxRecDepth 65536 in
theorem w_c10 : (Jvm.Cond.code ({ cls := "java/lang/String", name := "charAt", desc := "(I)C" } : Jvm.MethodName) jdk_42_method_56_code (2 : Nat) (Option.some Jvm.ClassFile.FieldType.char)).before args0 about1 = true := code_word (m := ⟨7, 3⟩) (meth := k7m3) (c := k7c3) (by decide +kernel) rfl rfl rfl (by decide +kernel)
set_option maxRecDepth 65536 in
theorem w_c11 : (Jvm.Cond.code ({ cls := "java/lang/String", name := "isLatin1", desc := "()Z" } : Jvm.MethodName) jdk_42_method_154_code (1 : Nat) (Option.some Jvm.ClassFile.FieldType.boolean)).before args0 about1 = true := code_word (m := ⟨7, 6⟩) (meth := k7m6) (c := k7c6) (by decide +kernel) rfl rfl rfl (by decide +kernel)
set_option maxRecDepth 65536 in
theorem w_c12 : (Jvm.Cond.code ({ cls := "java/lang/StringLatin1", name := "charAt", desc := "([BI)C" } : Jvm.MethodName) jdk_43_method_2_code (2 : Nat) (Option.some Jvm.ClassFile.FieldType.char)).before args0 about1 = true := code_word (m := ⟨10, 1⟩) (meth := k10m1) (c := k10c1) (by decide +kernel) rfl rfl rfl (by decide +kernel)
set_option maxRecDepth 65536 in
theorem w_c13 : (Jvm.Cond.code ({ cls := "java/lang/String", name := "checkIndex", desc := "(II)V" } : Jvm.MethodName) jdk_42_method_155_code (2 : Nat) (Option.none : Option Jvm.ClassFile.FieldType)).before args0 about1 = true := code_word (m := ⟨7, 7⟩) (meth := k7m7) (c := k7c7) (by decide +kernel) rfl rfl rfl (by decide +kernel)
set_option maxRecDepth 65536 in
theorem w_c14 : (Jvm.Cond.code ({ cls := "jdk/internal/util/Preconditions", name := "checkIndex", desc := "(IILjava/util/function/BiFunction;)I" } : Jvm.MethodName) jdk_41_method_11_code (3 : Nat) (Option.some Jvm.ClassFile.FieldType.int)).before args0 about1 = true := code_word (m := ⟨11, 1⟩) (meth := k11m1) (c := k11c1) (by decide +kernel) rfl rfl rfl (by decide +kernel)
set_option maxRecDepth 65536 in
theorem w_c15 : (Jvm.Cond.code ({ cls := "com/example/halysis/halysis/LogRecordIsHashPinLaw", name := "of64", desc := "(C)[C" } : Jvm.MethodName) method_5_code (1 : Nat) (Option.some (Jvm.ClassFile.FieldType.array Jvm.ClassFile.FieldType.char))).before args0 about1 = true := code_word (m := ⟨1, 4⟩) (meth := k1m4) (c := k1c4) (by decide +kernel) rfl rfl rfl (by decide +kernel)
set_option maxRecDepth 65536 in
theorem w_c16 : (Jvm.Cond.code ({ cls := "com/example/halysis/halysis/LogRecordIsHashPinLaw", name := "isHex", desc := "(C)Z" } : Jvm.MethodName) method_3_code (1 : Nat) (Option.some Jvm.ClassFile.FieldType.boolean)).before args0 about1 = true := code_word (m := ⟨1, 2⟩) (meth := k1m2) (c := k1c2) (by decide +kernel) rfl rfl rfl (by decide +kernel)
set_option maxRecDepth 65536 in
theorem w_c17 : (Jvm.Cond.code ({ cls := "java/lang/StringUTF16", name := "toBytes", desc := "([CII)[B" } : Jvm.MethodName) jdk_52_method_14_code (5 : Nat) (Option.some (Jvm.ClassFile.FieldType.array Jvm.ClassFile.FieldType.byte))).before args0 about1 = true := code_word (m := ⟨8, 6⟩) (meth := k8m6) (c := k8c6) (by decide +kernel) rfl rfl rfl (by decide +kernel)
set_option maxRecDepth 65536 in
theorem w_c18 : (Jvm.Cond.code ({ cls := "java/lang/StringUTF16", name := "newBytesFor", desc := "(I)[B" } : Jvm.MethodName) jdk_52_method_2_code (1 : Nat) (Option.some (Jvm.ClassFile.FieldType.array Jvm.ClassFile.FieldType.byte))).before args0 about1 = true := code_word (m := ⟨8, 1⟩) (meth := k8m1) (c := k8c1) (by decide +kernel) rfl rfl rfl (by decide +kernel)
set_option maxRecDepth 65536 in
theorem w_c19 : (Jvm.Cond.code ({ cls := "java/lang/StringUTF16", name := "newBytesLength", desc := "(I)I" } : Jvm.MethodName) jdk_52_method_3_code (1 : Nat) (Option.some Jvm.ClassFile.FieldType.int)).before args0 about1 = true := code_word (m := ⟨8, 2⟩) (meth := k8m2) (c := k8c2) (by decide +kernel) rfl rfl rfl (by decide +kernel)
set_option maxRecDepth 65536 in
theorem w_c20 : (Jvm.Cond.code ({ cls := "java/lang/StringUTF16", name := "putChar", desc := "([BII)V" } : Jvm.MethodName) jdk_52_method_4_code (3 : Nat) (Option.none : Option Jvm.ClassFile.FieldType)).before args0 about1 = true := code_word (m := ⟨8, 3⟩) (meth := k8m3) (c := k8c3) (by decide +kernel) rfl rfl rfl (by decide +kernel)
set_option maxRecDepth 65536 in
theorem w_c21 : (Jvm.Cond.code ({ cls := "java/lang/StringUTF16", name := "getChar", desc := "([BI)C" } : Jvm.MethodName) jdk_52_method_5_code (2 : Nat) (Option.some Jvm.ClassFile.FieldType.char)).before args0 about1 = true := code_word (m := ⟨8, 4⟩) (meth := k8m4) (c := k8c4) (by decide +kernel) rfl rfl rfl (by decide +kernel)
set_option maxRecDepth 65536 in
theorem w_c22 : (Jvm.Cond.code ({ cls := "java/lang/StringUTF16", name := "charAt", desc := "([BI)C" } : Jvm.MethodName) jdk_52_method_83_code (2 : Nat) (Option.some Jvm.ClassFile.FieldType.char)).before args0 about1 = true := code_word (m := ⟨8, 10⟩) (meth := k8m10) (c := k8c10) (by decide +kernel) rfl rfl rfl (by decide +kernel)
set_option maxRecDepth 65536 in
theorem w_c23 : (Jvm.Cond.code ({ cls := "java/lang/StringUTF16", name := "checkIndex", desc := "(I[B)V" } : Jvm.MethodName) jdk_52_method_91_code (2 : Nat) (Option.none : Option Jvm.ClassFile.FieldType)).before args0 about1 = true := code_word (m := ⟨8, 11⟩) (meth := k8m11) (c := k8c11) (by decide +kernel) rfl rfl rfl (by decide +kernel)
set_option maxRecDepth 65536 in
theorem w_c24 : (Jvm.Cond.code ({ cls := "java/lang/StringUTF16", name := "length", desc := "([B)I" } : Jvm.MethodName) jdk_52_method_6_code (1 : Nat) (Option.some Jvm.ClassFile.FieldType.int)).before args0 about1 = true := code_word (m := ⟨8, 5⟩) (meth := k8m5) (c := k8c5) (by decide +kernel) rfl rfl rfl (by decide +kernel)
set_option maxRecDepth 65536 in
theorem w_c25 : (Jvm.Cond.code ({ cls := "com/example/halysis/halysis/LogRecordIsHashPinLaw", name := "of63", desc := "(C)[C" } : Jvm.MethodName) method_4_code (1 : Nat) (Option.some (Jvm.ClassFile.FieldType.array Jvm.ClassFile.FieldType.char))).before args0 about1 = true := code_word (m := ⟨1, 3⟩) (meth := k1m3) (c := k1c3) (by decide +kernel) rfl rfl rfl (by decide +kernel)
set_option maxRecDepth 65536 in
theorem w_c26 : (Jvm.Cond.code ({ cls := "com/example/halysis/halysis/LogRecordIsHashPinLaw", name := "of65", desc := "(C)[C" } : Jvm.MethodName) method_6_code (1 : Nat) (Option.some (Jvm.ClassFile.FieldType.array Jvm.ClassFile.FieldType.char))).before args0 about1 = true := code_word (m := ⟨1, 5⟩) (meth := k1m5) (c := k1c5) (by decide +kernel) rfl rfl rfl (by decide +kernel)
def codes1 : List Jvm.Cond := [Jvm.Cond.code x code maxLocals ret, Jvm.Cond.code ({ cls := "java/lang/String", name := "<init>", desc := "([C)V" } : Jvm.MethodName) jdk_42_method_3_code (2 : Nat) (Option.none : Option Jvm.ClassFile.FieldType), Jvm.Cond.code ({ cls := "java/lang/String", name := "<init>", desc := "([CIILjava/lang/Void;)V" } : Jvm.MethodName) jdk_42_method_149_code (6 : Nat) (Option.none : Option Jvm.ClassFile.FieldType), Jvm.Cond.code ({ cls := "java/lang/Object", name := "<init>", desc := "()V" } : Jvm.MethodName) object_method_1_code (1 : Nat) (Option.none : Option Jvm.ClassFile.FieldType), Jvm.Cond.code ({ cls := "java/lang/StringUTF16", name := "compress", desc := "([CII)[B" } : Jvm.MethodName) jdk_52_method_16_code (6 : Nat) (Option.some (Jvm.ClassFile.FieldType.array Jvm.ClassFile.FieldType.byte)), Jvm.Cond.code ({ cls := "java/lang/StringUTF16", name := "compress", desc := "([CI[BII)I" } : Jvm.MethodName) jdk_52_method_21_code (7 : Nat) (Option.some Jvm.ClassFile.FieldType.int), Jvm.Cond.code ({ cls := "java/lang/StringUTF16", name := "coderFromArrayLen", desc := "([BI)B" } : Jvm.MethodName) jdk_52_method_15_code (2 : Nat) (Option.some Jvm.ClassFile.FieldType.byte), Jvm.Cond.code ({ cls := "com/example/halysis/halysis/LogRecord", name := "isHash", desc := "(Ljava/lang/String;)Z" } : Jvm.MethodName) prog_18_method_8_code (4 : Nat) (Option.some Jvm.ClassFile.FieldType.boolean), Jvm.Cond.code ({ cls := "java/lang/String", name := "length", desc := "()I" } : Jvm.MethodName) jdk_42_method_54_code (1 : Nat) (Option.some Jvm.ClassFile.FieldType.int), Jvm.Cond.code ({ cls := "java/lang/String", name := "coder", desc := "()B" } : Jvm.MethodName) jdk_42_method_152_code (1 : Nat) (Option.some Jvm.ClassFile.FieldType.byte), Jvm.Cond.code ({ cls := "java/lang/String", name := "charAt", desc := "(I)C" } : Jvm.MethodName) jdk_42_method_56_code (2 : Nat) (Option.some Jvm.ClassFile.FieldType.char), Jvm.Cond.code ({ cls := "java/lang/String", name := "isLatin1", desc := "()Z" } : Jvm.MethodName) jdk_42_method_154_code (1 : Nat) (Option.some Jvm.ClassFile.FieldType.boolean), Jvm.Cond.code ({ cls := "java/lang/StringLatin1", name := "charAt", desc := "([BI)C" } : Jvm.MethodName) jdk_43_method_2_code (2 : Nat) (Option.some Jvm.ClassFile.FieldType.char), Jvm.Cond.code ({ cls := "java/lang/String", name := "checkIndex", desc := "(II)V" } : Jvm.MethodName) jdk_42_method_155_code (2 : Nat) (Option.none : Option Jvm.ClassFile.FieldType), Jvm.Cond.code ({ cls := "jdk/internal/util/Preconditions", name := "checkIndex", desc := "(IILjava/util/function/BiFunction;)I" } : Jvm.MethodName) jdk_41_method_11_code (3 : Nat) (Option.some Jvm.ClassFile.FieldType.int), Jvm.Cond.code ({ cls := "com/example/halysis/halysis/LogRecordIsHashPinLaw", name := "of64", desc := "(C)[C" } : Jvm.MethodName) method_5_code (1 : Nat) (Option.some (Jvm.ClassFile.FieldType.array Jvm.ClassFile.FieldType.char)), Jvm.Cond.code ({ cls := "com/example/halysis/halysis/LogRecordIsHashPinLaw", name := "isHex", desc := "(C)Z" } : Jvm.MethodName) method_3_code (1 : Nat) (Option.some Jvm.ClassFile.FieldType.boolean), Jvm.Cond.code ({ cls := "java/lang/StringUTF16", name := "toBytes", desc := "([CII)[B" } : Jvm.MethodName) jdk_52_method_14_code (5 : Nat) (Option.some (Jvm.ClassFile.FieldType.array Jvm.ClassFile.FieldType.byte)), Jvm.Cond.code ({ cls := "java/lang/StringUTF16", name := "newBytesFor", desc := "(I)[B" } : Jvm.MethodName) jdk_52_method_2_code (1 : Nat) (Option.some (Jvm.ClassFile.FieldType.array Jvm.ClassFile.FieldType.byte)), Jvm.Cond.code ({ cls := "java/lang/StringUTF16", name := "newBytesLength", desc := "(I)I" } : Jvm.MethodName) jdk_52_method_3_code (1 : Nat) (Option.some Jvm.ClassFile.FieldType.int), Jvm.Cond.code ({ cls := "java/lang/StringUTF16", name := "putChar", desc := "([BII)V" } : Jvm.MethodName) jdk_52_method_4_code (3 : Nat) (Option.none : Option Jvm.ClassFile.FieldType), Jvm.Cond.code ({ cls := "java/lang/StringUTF16", name := "getChar", desc := "([BI)C" } : Jvm.MethodName) jdk_52_method_5_code (2 : Nat) (Option.some Jvm.ClassFile.FieldType.char), Jvm.Cond.code ({ cls := "java/lang/StringUTF16", name := "charAt", desc := "([BI)C" } : Jvm.MethodName) jdk_52_method_83_code (2 : Nat) (Option.some Jvm.ClassFile.FieldType.char), Jvm.Cond.code ({ cls := "java/lang/StringUTF16", name := "checkIndex", desc := "(I[B)V" } : Jvm.MethodName) jdk_52_method_91_code (2 : Nat) (Option.none : Option Jvm.ClassFile.FieldType), Jvm.Cond.code ({ cls := "java/lang/StringUTF16", name := "length", desc := "([B)I" } : Jvm.MethodName) jdk_52_method_6_code (1 : Nat) (Option.some Jvm.ClassFile.FieldType.int), Jvm.Cond.code ({ cls := "com/example/halysis/halysis/LogRecordIsHashPinLaw", name := "of63", desc := "(C)[C" } : Jvm.MethodName) method_4_code (1 : Nat) (Option.some (Jvm.ClassFile.FieldType.array Jvm.ClassFile.FieldType.char)), Jvm.Cond.code ({ cls := "com/example/halysis/halysis/LogRecordIsHashPinLaw", name := "of65", desc := "(C)[C" } : Jvm.MethodName) method_6_code (1 : Nat) (Option.some (Jvm.ClassFile.FieldType.array Jvm.ClassFile.FieldType.char))]
set_option maxRecDepth 65536 in
theorem codes_eq : words1.filter isCode = codes1 := rfl
theorem w_codes : ∀ c ∈ words1.filter isCode, c.before args0 about1 = true := by
  rw [codes_eq]
  intro c hc
  simp only [codes1, List.mem_cons, List.not_mem_nil, or_false] at hc
  rcases hc with rfl | rfl | rfl | rfl | rfl | rfl | rfl | rfl | rfl | rfl | rfl | rfl | rfl | rfl | rfl | rfl | rfl | rfl | rfl | rfl | rfl | rfl | rfl | rfl | rfl | rfl | rfl
  · exact w_c0
  · exact w_c1
  · exact w_c2
  · exact w_c3
  · exact w_c4
  · exact w_c5
  · exact w_c6
  · exact w_c7
  · exact w_c8
  · exact w_c9
  · exact w_c10
  · exact w_c11
  · exact w_c12
  · exact w_c13
  · exact w_c14
  · exact w_c15
  · exact w_c16
  · exact w_c17
  · exact w_c18
  · exact w_c19
  · exact w_c20
  · exact w_c21
  · exact w_c22
  · exact w_c23
  · exact w_c24
  · exact w_c25
  · exact w_c26
set_option maxRecDepth 65536 in
theorem w_t1 : (words1.take 24).all (fun c => isCode c || c.before args0 about1) = true := by decide +kernel
set_option maxRecDepth 65536 in
theorem w_t2 : ((words1.drop 24).take 24).all (fun c => isCode c || c.before args0 about1) = true := by decide +kernel
set_option maxRecDepth 65536 in
theorem w_t3 : (((words1.drop 24).drop 24).take 24).all (fun c => isCode c || c.before args0 about1) = true := by decide +kernel
set_option maxRecDepth 65536 in
theorem w_t4 : ((((words1.drop 24).drop 24).drop 24).take 24).all (fun c => isCode c || c.before args0 about1) = true := by decide +kernel
set_option maxRecDepth 65536 in
theorem w_t5 : ((((words1.drop 24).drop 24).drop 24).drop 24).all (fun c => isCode c || c.before args0 about1) = true := by decide +kernel
theorem w_tables : (allAtoms (Jvm.Cond.code x code maxLocals ret :: tables_1)).before args0 about1 = true := by
  rw [allAtoms_all]
  show words1.all (fun c => c.before args0 about1) = true
  refine all_split ?_ w_codes
  rw [← List.take_append_drop 24 words1, List.all_append, w_t1, ← List.take_append_drop 24 (words1.drop 24), List.all_append, w_t2, ← List.take_append_drop 24 ((words1.drop 24).drop 24), List.all_append, w_t3, ← List.take_append_drop 24 (((words1.drop 24).drop 24).drop 24), List.all_append, w_t4, w_t5]
  rfl
set_option maxRecDepth 65536 in
theorem w_rest : rest_1_c.before args0 about1 = true := by decide +kernel
set_option maxRecDepth 65536 in
theorem w_case : (Jvm.Cond.and given_1 narrow_1).before args0 about1 = true := by decide +kernel
set_option maxRecDepth 65536 in
theorem w_consts : constsHeld consts_1 about1 := Jvm.Lit.constsHeldB_iff.mp (by decide +kernel)
theorem w_applies : (headSpec (Jvm.Cond.code x code maxLocals ret :: tables_1) room_1).applies x e0.platform about1 = true :=
  (Spec.applies_iff w_frames).mpr ⟨w_running, w_runnable, w_alone, w_named, w_hears, w_ripe, w_room, w_tables⟩
theorem atStart : AtStart classFile x code maxLocals ret World_1 tables_1 room_1 Calls_1 rest_1 Pre_1 launch0 p0 e0 about1 theMethod args0 below0 :=
  ⟨lists_1, trivial, launch0.admits_env _ _ _, launch0.least_env, fairChoices_fair.cas, fairChoices_fair.clock, w_frames, w_args, w_heap, w_applies, ⟨w_consts, trivial⟩, w_rest, w_case⟩
end start1
theorem witness_1 : WitnessClaimed_1 := ⟨start1.p0, start1.e0, start1.about1, start1.theMethod, start1.args0, start1.below0, start1.atStart⟩
end Jvm.Pilot.@@N@@
